import PyProof.Rows.All
import Wide.All
import OpenK.AllK
import Wide.FinOn
import PySem.Challenge.RW_il0054_01
open PySem PySem.W PySem.Calls PyProof.Rows
set_option Elab.async false
set_option maxRecDepth 100000
set_option maxHeartbeats 8000000
set_option linter.all false
set_option genSizeOf false
set_option genInjectivity false
namespace Mine
set_option compiler.extract_closed false
abbrev srcP : Program := PySem.Challenge.pw_il0054_01
def q0 : Stmt := (srcP.main.body.drop 0).headD (.Pass ⟨0, 0, 0, 0⟩)
def q1 : Stmt := (srcP.main.body.drop 1).headD (.Pass ⟨0, 0, 0, 0⟩)
def q2 : Stmt := (srcP.main.body.drop 2).headD (.Pass ⟨0, 0, 0, 0⟩)
def q3 : Stmt := (srcP.main.body.drop 3).headD (.Pass ⟨0, 0, 0, 0⟩)
def q4 : Stmt := (srcP.main.body.drop 4).headD (.Pass ⟨0, 0, 0, 0⟩)
def q5 : Stmt := (srcP.main.body.drop 5).headD (.Pass ⟨0, 0, 0, 0⟩)
def q6 : Stmt := (srcP.main.body.drop 6).headD (.Pass ⟨0, 0, 0, 0⟩)
def q7 : Stmt := (srcP.main.body.drop 7).headD (.Pass ⟨0, 0, 0, 0⟩)
def q8 : Stmt := (srcP.main.body.drop 8).headD (.Pass ⟨0, 0, 0, 0⟩)
def q9 : Stmt := (srcP.main.body.drop 9).headD (.Pass ⟨0, 0, 0, 0⟩)
def q10 : Stmt := (srcP.main.body.drop 10).headD (.Pass ⟨0, 0, 0, 0⟩)
def q11 : Stmt := (srcP.main.body.drop 11).headD (.Pass ⟨0, 0, 0, 0⟩)
def q12 : Stmt := (srcP.main.body.drop 12).headD (.Pass ⟨0, 0, 0, 0⟩)
def q13 : Stmt := (srcP.main.body.drop 13).headD (.Pass ⟨0, 0, 0, 0⟩)
def q14 : Stmt := (srcP.main.body.drop 14).headD (.Pass ⟨0, 0, 0, 0⟩)
def q15 : Stmt := (srcP.main.body.drop 15).headD (.Pass ⟨0, 0, 0, 0⟩)
def q16 : Stmt := (srcP.main.body.drop 16).headD (.Pass ⟨0, 0, 0, 0⟩)
def q17 : Stmt := (srcP.main.body.drop 17).headD (.Pass ⟨0, 0, 0, 0⟩)
def q18 : Stmt := (srcP.main.body.drop 18).headD (.Pass ⟨0, 0, 0, 0⟩)
def q19 : Stmt := (srcP.main.body.drop 19).headD (.Pass ⟨0, 0, 0, 0⟩)
def q20 : Stmt := (srcP.main.body.drop 20).headD (.Pass ⟨0, 0, 0, 0⟩)
def q21 : Stmt := (srcP.main.body.drop 21).headD (.Pass ⟨0, 0, 0, 0⟩)
def q22 : Stmt := (srcP.main.body.drop 22).headD (.Pass ⟨0, 0, 0, 0⟩)
def q23 : Stmt := (srcP.main.body.drop 23).headD (.Pass ⟨0, 0, 0, 0⟩)
def q24 : Stmt := (srcP.main.body.drop 24).headD (.Pass ⟨0, 0, 0, 0⟩)
def q25 : Stmt := (srcP.main.body.drop 25).headD (.Pass ⟨0, 0, 0, 0⟩)
def q26 : Stmt := (srcP.main.body.drop 26).headD (.Pass ⟨0, 0, 0, 0⟩)
def q27 : Stmt := (srcP.main.body.drop 27).headD (.Pass ⟨0, 0, 0, 0⟩)
def q28 : Stmt := (srcP.main.body.drop 28).headD (.Pass ⟨0, 0, 0, 0⟩)
def q29 : Stmt := (srcP.main.body.drop 29).headD (.Pass ⟨0, 0, 0, 0⟩)
def q30 : Stmt := (srcP.main.body.drop 30).headD (.Pass ⟨0, 0, 0, 0⟩)
def qsc : Scope := by refine (?f : (k : ScopeKind) → (n : List (Str × NameKind)) → (g c : Bool) → (m : List (Str × Const)) → srcP.main.scope = Scope.mk k n g c m → Scope) _ _ _ _ _ rfl; exact fun k n g c m _ => Scope.mk k n g c m
def qprog : Program := by refine (?f : (b : List Stmt) → (s : Scope) → (fa : Bool) → (fi : Str) → (mo : List (Str × Const)) → (ms : List (Str × Bool × Module)) → (ps : List Parse) → (ab : List Str) → (hv : List Parse) → (gv : Given) → srcP = Program.mk (Module.mk b s fa fi mo) ms ps ab hv gv → Program) _ _ _ _ _ _ _ _ _ _ rfl; exact fun _ _ fa fi mo ms ps ab hv gv _ => Program.mk (Module.mk [q0, q1, q2, q3, q4, q5, q6, q7, q8, q9, q10, q11, q12, q13, q14, q15, q16, q17, q18, q19, q20, q21, q22, q23, q24, q25, q26, q27, q28, q29, q30] qsc fa fi mo) ms ps ab hv gv
def qrow : PySem.W.OpenLaw := { prog := qprog, name := (PySem.Str.ofString "law"), about := [(PySem.Str.ofString "normpath")], foot := 7, most := some 63, bound := none, writes := false }
theorem qrow_eq : PySem.Challenge.rw_il0054_01 = qrow := rfl
#guard_msgs (drop all) in
set_option maxHeartbeats 230000 in
open_top hd for qrow
/-- the fragment once more, with a proof beside it, so that no twin of it is laid -/
noncomputable def K2 : Params → Frag := by
  intro P
  refine (?g : (x : Nat × Obj) → (r : Frag) → hd.heap_39 P = x :: r → Frag) _ _ rfl
  exact fun x r _ => (fun (_ : (Str.ofString "a").length = 1) => x :: r) (by decide +kernel)
theorem walk_off : True := by w_top off; trivial
set_option rowWalk.seconds 0
set_option maxHeartbeats 4000000
abbrev PR : Program := qrow.row.prog
noncomputable abbrev KK (w : World) : Frag := hd.heap_39 w.params
abbrev Ar (dp un : Nat) (fr : Option (List Env)) (gd : Option (List Code)) : Around := { handled := none, depth := dp, frames := fr, guards := gd, units := un }
theorem enter {prog : Program} {w : World} {A : Around} {s : Shared} {K : Frag} {p : Program} {loose : List Str} {mean : ExcName → Option Value} {mg mb : Str → Option Value}
    {name qual : Str} {params : Arguments} {body : List Stmt} {scope : Scope} {dV kV doc pm cdv ct oc : Value} {an od : Option Addr} {osl : Array (Option Value)} {f : Addr} {args : List Value} {binds : List (Str × Value)}
    {Q : Value → Shared → Prop} {E : Value → Shared → Prop}
    (X : K.In s.heap) (T : Top p loose mean mg mb s.heap)
    (ho : K.lookup f = some ⟨oc, od, .func (fnOf name qual params body scope dV kV doc pm an cdv ct), osl⟩) (hcd : codeIn K cdv qual = true) (hroom : A.depth < recursionLimit)
    (hbind : BindsTo s (fnOf name qual params body scope dV kV doc pm an cdv ct) ⟨args, []⟩ binds) (hloc : ∀ y ∈ binds, scope.names.lookup y.1 = some .local)
    (h : ∀ L h₁, Fr s.heap L h₁ (fun y => binds.reverse.lookup y) → News s.heap L h₁ [] →
      wpAny (model prog w) (A.deeper (envOf qual scope L f cdv)) (execs body (envOf qual scope L f cdv))
        (fun fl s' => Q (match fl with | .ret v => v | _ => .none) s') (fun _ _ => False)
        { s with heap := h₁, toks := s.toks + binds.length })
    (hco : scope.isCoroutine = false := by rfl) (hgen : scope.isGenerator = false := by rfl) (hk : scope.kind = .function := by rfl)
    (hcell : ∀ x ∈ scope.names, x.2 ≠ .cell := by decide) : wpAny (model prog w) A (call (.ref f) args) Q E s := by
  refine wpAny_call (codeAny_call_def (fd := fnOf name qual params body scope dV kV doc pm an cdv ct) (body := body) (binds := binds) hroom (X _ _ ho) rfl T.nolimit (codeRec_of X hcd) rfl hbind hcell hloc (fun h₁ hns hk₁ => ?_) hco hgen hk)
  exact wpAny_mono (h _ h₁ ⟨hns, hk₁, Nat.le_refl _⟩ News.nil) (fun _ _ x => x) fun _ _ x => x.elim
def Out (s : Shared) (R : Value → Heap → Prop) (v : Value) (s' : Shared) : Prop := R v s'.heap ∧ Keeps s s'
abbrev IsS (x : Str) : Value → Heap → Prop := fun v _ => ∃ t, v = .str x t
abbrev IsB (b : Bool) : Value → Heap → Prop := fun v _ => v = .bool b
abbrev IsI (i : Int) : Value → Heap → Prop := fun v _ => ∃ t, v = .int i t
abbrev NewObj (s : Shared) (o : Obj) : Value → Heap → Prop := fun v h => ∃ a, v = .ref a ∧ h.get? a = some o ∧ s.heap.get? a = none
theorem out_str {s : Shared} {L : Addr} {h : Heap} {m : Str → Option Value} {x y : Str} {t : Tok} {tk : Nat} (F : Fr s.heap L h m) (e : y = x) : Out s (IsS x) (.str y t) { s with heap := h, toks := tk } :=
  ⟨⟨t, by rw [e]⟩, h, tk, rfl, F.keep⟩
theorem out_bool {s : Shared} {L : Addr} {h : Heap} {m : Str → Option Value} {x y : Bool} {tk : Nat} (F : Fr s.heap L h m) (e : y = x) : Out s (IsB x) (.bool y) { s with heap := h, toks := tk } :=
  ⟨by rw [e], h, tk, rfl, F.keep⟩
theorem fr_up {h₀ h h' : Heap} {L : Addr} {m : Str → Option Value} (F : Fr h₀ L h m) (k : ∀ b o, h.get? b = some o → h'.get? b = some o) : Fr h₀ L h' m := ⟨F.ns.keeps k, fun b o e => k _ _ (F.keep b o e), F.above⟩
theorem news_up {h₀ h h' : Heap} {L : Addr} {news : List (Addr × Obj)} (N : News h₀ L h news) (k : ∀ b o, h.get? b = some o → h'.get? b = some o) : News h₀ L h' news := fun p hp => ⟨k _ _ (N p hp).1, (N p hp).2⟩
theorem use_spec {M : Model} {A : Around} {E : Value → Shared → Prop} {s : Shared} {t : Sem Value} {R : Value → Heap → Prop} {Q : Value → Shared → Prop} {h₀ : Heap} {L : Addr} {m : Str → Option Value} {news : List (Addr × Obj)}
    (F : Fr h₀ L s.heap m) (N : News h₀ L s.heap news) (h : wpAny M A t (Out s R) E s)
    (k : ∀ v h' tk, R v h' → Fr h₀ L h' m → News h₀ L h' news → Q v { s with heap := h', toks := tk }) : wpAny M A t Q E s :=
  wpAny_mono h (fun v s' hv => by obtain ⟨hR, h', tk, rfl, hk⟩ := hv; exact k v h' tk hR (fr_up F hk) (news_up N hk)) fun _ _ e => e
theorem use_str {M : Model} {A : Around} {E : Value → Shared → Prop} {s : Shared} {t : Sem Value} {x : Str} {Q : Value → Shared → Prop} {h₀ : Heap} {L : Addr} {m : Str → Option Value} {news : List (Addr × Obj)}
    (F : Fr h₀ L s.heap m) (N : News h₀ L s.heap news) (h : wpAny M A t (Out s (IsS x)) E s)
    (k : ∀ t h' tk, Fr h₀ L h' m → News h₀ L h' news → Q (.str x t) { s with heap := h', toks := tk }) : wpAny M A t Q E s :=
  use_spec F N h fun v h' tk hv F' N' => by obtain ⟨t, rfl⟩ := hv; exact k t h' tk F' N'
theorem use_bool {M : Model} {A : Around} {E : Value → Shared → Prop} {s : Shared} {t : Sem Value} {x : Bool} {Q : Value → Shared → Prop} {h₀ : Heap} {L : Addr} {m : Str → Option Value} {news : List (Addr × Obj)}
    (F : Fr h₀ L s.heap m) (N : News h₀ L s.heap news) (h : wpAny M A t (Out s (IsB x)) E s)
    (k : ∀ h' tk, Fr h₀ L h' m → News h₀ L h' news → Q (.bool x) { s with heap := h', toks := tk }) : wpAny M A t Q E s :=
  use_spec F N h fun v h' tk hv F' N' => by subst hv; exact k h' tk F' N'
def AllNe (d : Nat) : List (Addr × Obj) → Prop
  | [] => True
  | p :: r => @Ne Nat p.1 d ∧ AllNe d r
theorem allNe_of {d : Addr} : ∀ {l : List (Addr × Obj)}, (∀ p ∈ l, p.1 ≠ d) → AllNe d l
  | [], _ => trivial
  | p :: _, h => ⟨h p (.head _), allNe_of fun q hq => h q (.tail _ hq)⟩
theorem news_new {h₀ h h' : Heap} {L a : Addr} {m : Str → Option Value} {news : List (Addr × Obj)} {o : Obj} (F : Fr h₀ L h m) (N : News h₀ L h news) (N' : News h₀ L h' news) (ha : h'.get? a = some o) (hf : h.get? a = none) :
    News h₀ L h' ((a, o) :: news) ∧ AllNe a news := by
  refine ⟨fun p hp => ?_, allNe_of fun p hp e => ?_⟩
  · rcases List.mem_cons.mp hp with rfl | hp
    · refine ⟨ha, fun e => ?_, ?_⟩
      · obtain ⟨o', _, _, ho, _⟩ := F.ns
        dsimp only at e
        rw [e, ho] at hf; cases hf
      · cases q : h₀.get? a with
        | none => rfl
        | some o' => have := F.keep _ _ q; rw [hf] at this; cases this
    · exact N' p hp
  · have := (N p hp).1; rw [e, hf] at this; cases this
theorem not_cell_ne {L D : Nat} {X : Prop} (h0 : D ≠ L) (h : L + 1 + 1 + 1 + 1 + 1 + 1 + 1 ≠ D ∧ L + 1 + 1 + 1 + 1 + 1 + 1 ≠ D ∧ L + 1 + 1 + 1 + 1 + 1 ≠ D ∧ L + 1 + 1 + 1 + 1 ≠ D ∧ L + 1 + 1 + 1 ≠ D ∧ L + 1 + 1 ≠ D ∧ L + 1 ≠ D ∧ X) : ¬ (D = L ∨ D = L + 1 ∨ D = L + 1 + 1 ∨ D = L + 1 + 1 + 1 ∨ D = L + 1 + 1 + 1 + 1 ∨ D = L + 1 + 1 + 1 + 1 + 1 ∨ D = L + 1 + 1 + 1 + 1 + 1 + 1 ∨ D = L + 1 + 1 + 1 + 1 + 1 + 1 + 1) := by
  obtain ⟨h7, h6, h5, h4, h3, h2, h1, -⟩ := h
  rintro (q | q | q | q | q | q | q | q)
  · exact h0 q
  · exact h1 q.symm
  · exact h2 q.symm
  · exact h3 q.symm
  · exact h4 q.symm
  · exact h5 q.symm
  · exact h6 q.symm
  · exact h7 q.symm
theorem not_cell_lt {L D : Nat} {X : Prop} (h : L + 1 + 1 + 1 + 1 + 1 + 1 + 1 < D ∧ X) : ¬ (D = L ∨ D = L + 1 ∨ D = L + 1 + 1 ∨ D = L + 1 + 1 + 1 ∨ D = L + 1 + 1 + 1 + 1 ∨ D = L + 1 + 1 + 1 + 1 + 1 ∨ D = L + 1 + 1 + 1 + 1 + 1 + 1 ∨ D = L + 1 + 1 + 1 + 1 + 1 + 1 + 1) := by
  have h := h.1
  rintro (q | q | q | q | q | q | q | q) <;> omega
theorem room0 {d R b : Nat} (h : d + b < R) : d < R := Nat.lt_of_le_of_lt (Nat.le_add_right d b) h
theorem room1 {d R a b : Nat} (h : d + b < R) (k : a ≤ b) : d + a < R := Nat.lt_of_le_of_lt (Nat.add_le_add_left k d) h
theorem room2 {d R a c b : Nat} (h : d + b < R) (k : a + c ≤ b) : d + a + c < R := by rw [Nat.add_assoc]; exact room1 h k
theorem room3 {d R a c e b : Nat} (h : d + b < R) (k : a + c + e ≤ b) : d + a + c + e < R := by rw [Nat.add_assoc, Nat.add_assoc]; rw [Nat.add_assoc] at k; exact room1 h k
theorem down {n i : Nat} (h : i < n) : n + 1 - (i + 1) < n + 1 - i := by omega
theorem at_end {n i : Nat} (h : ¬ i < n) (k : i ≤ n) : i = n := Nat.le_antisymm k (Nat.not_lt.mp h)
def CutR (h₀ : Heap) (L : Addr) (nw : List (Addr × Obj)) (R : (Str → Option Value) → Prop) (s : Shared) (fl : Flow) (s' : Shared) : Prop :=
  fl = .next ∧ ∃ h' tk' m', s' = { s with heap := h', toks := tk' } ∧ Fr h₀ L h' m' ∧ News h₀ L h' nw ∧ R m'
theorem CutR.mk {h₀ h' : Heap} {L : Addr} {nw : List (Addr × Obj)} {R : (Str → Option Value) → Prop} {s : Shared} {tk' : Nat} {m' : Str → Option Value} (F : Fr h₀ L h' m') (N : News h₀ L h' nw) (r : R m') : CutR h₀ L nw R s .next { s with heap := h', toks := tk' } := ⟨rfl, _, _, _, rfl, F, N, r⟩
theorem cut_if {M : Model} {A : Around} {E : Value → Shared → Prop} {s : Shared} {stmt : Stmt} {rest : List Stmt} {env : Env} {Q : Flow → Shared → Prop} {h₀ h : Heap} {L : Addr} {m : Str → Option Value} {nw : List (Addr × Obj)} (R : (Str → Option Value) → Prop) (_F : Fr h₀ L h m) (_N : News h₀ L h nw)
    (hA : wpAny M A (exec stmt env) (CutR h₀ L nw R s) E s)
    (hB : ∀ h' tk' m', Fr h₀ L h' m' → News h₀ L h' nw → R m' → wpAny M A (execs rest env) Q E { s with heap := h', toks := tk' }) : wpAny M A (execs (stmt :: rest) env) Q E s :=
  wpAny_execs_cons (wpAny_mono hA (fun fl s' h => by obtain ⟨rfl, h', tk', m', rfl, F', N', r⟩ := h; exact hB h' tk' m' F' N' r) fun _ _ e => e)
theorem not_cell_lt1 {L D : Nat} {X A0 : Prop} (h : A0 ∧ L + 1 + 1 + 1 + 1 + 1 + 1 + 1 < D ∧ X) : ¬ (D = L ∨ D = L + 1 ∨ D = L + 1 + 1 ∨ D = L + 1 + 1 + 1 ∨ D = L + 1 + 1 + 1 + 1 ∨ D = L + 1 + 1 + 1 + 1 + 1 ∨ D = L + 1 + 1 + 1 + 1 + 1 + 1 ∨ D = L + 1 + 1 + 1 + 1 + 1 + 1 + 1) := not_cell_lt h.2
theorem not_cell_lt2 {L D : Nat} {X A0 A1 : Prop} (h : A0 ∧ A1 ∧ L + 1 + 1 + 1 + 1 + 1 + 1 + 1 < D ∧ X) : ¬ (D = L ∨ D = L + 1 ∨ D = L + 1 + 1 ∨ D = L + 1 + 1 + 1 ∨ D = L + 1 + 1 + 1 + 1 ∨ D = L + 1 + 1 + 1 + 1 + 1 ∨ D = L + 1 + 1 + 1 + 1 + 1 + 1 ∨ D = L + 1 + 1 + 1 + 1 + 1 + 1 + 1) := not_cell_lt h.2.2
theorem not_cell_lt3 {L D : Nat} {X A0 A1 A2 : Prop} (h : A0 ∧ A1 ∧ A2 ∧ L + 1 + 1 + 1 + 1 + 1 + 1 + 1 < D ∧ X) : ¬ (D = L ∨ D = L + 1 ∨ D = L + 1 + 1 ∨ D = L + 1 + 1 + 1 ∨ D = L + 1 + 1 + 1 + 1 ∨ D = L + 1 + 1 + 1 + 1 + 1 ∨ D = L + 1 + 1 + 1 + 1 + 1 + 1 ∨ D = L + 1 + 1 + 1 + 1 + 1 + 1 + 1) := not_cell_lt h.2.2.2
theorem not_cell_ne1 {L D : Nat} {X A : Prop} (h0 : D ≠ L) (h : A ∧ L + 1 + 1 + 1 + 1 + 1 + 1 + 1 ≠ D ∧ L + 1 + 1 + 1 + 1 + 1 + 1 ≠ D ∧ L + 1 + 1 + 1 + 1 + 1 ≠ D ∧ L + 1 + 1 + 1 + 1 ≠ D ∧ L + 1 + 1 + 1 ≠ D ∧ L + 1 + 1 ≠ D ∧ L + 1 ≠ D ∧ X) : ¬ (D = L ∨ D = L + 1 ∨ D = L + 1 + 1 ∨ D = L + 1 + 1 + 1 ∨ D = L + 1 + 1 + 1 + 1 ∨ D = L + 1 + 1 + 1 + 1 + 1 ∨ D = L + 1 + 1 + 1 + 1 + 1 + 1 ∨ D = L + 1 + 1 + 1 + 1 + 1 + 1 + 1) := not_cell_ne h0 h.2
theorem cj1 {A1 A2 : Prop} (h : A1 ∧ A2) : A1 := h.1
theorem cj2 {A1 A2 A3 : Prop} (h : A1 ∧ A2 ∧ A3) : A2 := h.2.1
theorem cj3 {A1 A2 A3 A4 : Prop} (h : A1 ∧ A2 ∧ A3 ∧ A4) : A3 := h.2.2.1
theorem cj4 {A1 A2 A3 A4 A5 : Prop} (h : A1 ∧ A2 ∧ A3 ∧ A4 ∧ A5) : A4 := h.2.2.2.1
theorem cj5 {A1 A2 A3 A4 A5 A6 : Prop} (h : A1 ∧ A2 ∧ A3 ∧ A4 ∧ A5 ∧ A6) : A5 := h.2.2.2.2.1
theorem cj6 {A1 A2 A3 A4 A5 A6 A7 : Prop} (h : A1 ∧ A2 ∧ A3 ∧ A4 ∧ A5 ∧ A6 ∧ A7) : A6 := h.2.2.2.2.2.1
theorem cj7 {A1 A2 A3 A4 A5 A6 A7 A8 : Prop} (h : A1 ∧ A2 ∧ A3 ∧ A4 ∧ A5 ∧ A6 ∧ A7 ∧ A8) : A7 := h.2.2.2.2.2.2.1
theorem cj8 {A1 A2 A3 A4 A5 A6 A7 A8 A9 : Prop} (h : A1 ∧ A2 ∧ A3 ∧ A4 ∧ A5 ∧ A6 ∧ A7 ∧ A8 ∧ A9) : A8 := h.2.2.2.2.2.2.2.1
theorem cj9 {A1 A2 A3 A4 A5 A6 A7 A8 A9 A10 : Prop} (h : A1 ∧ A2 ∧ A3 ∧ A4 ∧ A5 ∧ A6 ∧ A7 ∧ A8 ∧ A9 ∧ A10) : A9 := h.2.2.2.2.2.2.2.2.1
theorem cj10 {A1 A2 A3 A4 A5 A6 A7 A8 A9 A10 A11 : Prop} (h : A1 ∧ A2 ∧ A3 ∧ A4 ∧ A5 ∧ A6 ∧ A7 ∧ A8 ∧ A9 ∧ A10 ∧ A11) : A10 := h.2.2.2.2.2.2.2.2.2.1
theorem not_cell_lt4 {L D : Nat} {X A0 A1 A2 A3 : Prop} (h : A0 ∧ A1 ∧ A2 ∧ A3 ∧ L + 1 + 1 + 1 + 1 + 1 + 1 + 1 < D ∧ X) : ¬ (D = L ∨ D = L + 1 ∨ D = L + 1 + 1 ∨ D = L + 1 + 1 + 1 ∨ D = L + 1 + 1 + 1 + 1 ∨ D = L + 1 + 1 + 1 + 1 + 1 ∨ D = L + 1 + 1 + 1 + 1 + 1 + 1 ∨ D = L + 1 + 1 + 1 + 1 + 1 + 1 + 1) := not_cell_lt h.2.2.2.2
theorem not_cell_lt5 {L D : Nat} {X A0 A1 A2 A3 A4 : Prop} (h : A0 ∧ A1 ∧ A2 ∧ A3 ∧ A4 ∧ L + 1 + 1 + 1 + 1 + 1 + 1 + 1 < D ∧ X) : ¬ (D = L ∨ D = L + 1 ∨ D = L + 1 + 1 ∨ D = L + 1 + 1 + 1 ∨ D = L + 1 + 1 + 1 + 1 ∨ D = L + 1 + 1 + 1 + 1 + 1 ∨ D = L + 1 + 1 + 1 + 1 + 1 + 1 ∨ D = L + 1 + 1 + 1 + 1 + 1 + 1 + 1) := not_cell_lt h.2.2.2.2.2
local macro_rules | `(tactic| walk_at "cj") => `(tactic| first | exact cj1 (by assumption) | exact cj2 (by assumption) | exact cj3 (by assumption) | exact cj4 (by assumption) | exact cj5 (by assumption) | exact cj6 (by assumption) | exact cj7 (by assumption) | exact cj8 (by assumption) | exact cj9 (by assumption) | exact cj10 (by assumption))
local macro_rules | `(tactic| omega) => `(tactic| first | assumption | exact Nat.le_trans (by assumption) (by decide) | exact down (by assumption) | exact at_end (by assumption) (by assumption) | exact Ne.symm (by assumption) | exact Nat.ne_of_lt (by assumption) | exact Nat.ne_of_gt (by assumption) | exact Ne.symm (by walk_at "cj") | exact Nat.ne_of_gt (by walk_at "cj") | exact Nat.ne_of_lt (by walk_at "cj") | exact Int.toNat_natCast _ | exact Eq.trans (by assumption) (by assumption) | exact Eq.trans (by assumption) (Eq.symm (by assumption)) | exact Nat.le_trans (Nat.le_of_eq (by assumption)) (by assumption) | omega +splitDisjunctions)
local macro_rules | `(tactic| walk_at "My enter") => `(tactic| ((case k6 => k_is); (case k7 => k_is); (case k8 => walk_at "My room"); (case k9 => first | exact BindsTo.of_eq rfl | exact binds_K (by k_in) rfl (by k_is) rfl rfl rfl); (case kB => exact locs rfl); (case c2 => exact rfl); (case c3 => exact rfl); (case c4 => exact rfl); (case c5 => decide); intro L h₁ F N; (try dsimp only)))
local macro_rules | `(tactic| walk_at "My room") => `(tactic| first | exact room1 (by assumption) (by decide) | exact room2 (by assumption) (by decide) | exact room0 (by assumption) | exact room3 (by assumption) (by decide) | ((try simp only [Ar, Around.deeper]); omega))
local macro_rules | `(tactic| walk_at "My nocell") => `(tactic| first | exact not_cell_lt (by assumption) | exact not_cell_ne (by assumption) (by assumption) | exact not_cell_lt1 (by assumption) | exact not_cell_ne1 (by assumption) (by assumption) | exact not_cell_lt2 (by assumption) | exact not_cell_lt3 (by assumption) | exact not_cell_lt4 (by assumption) | exact not_cell_lt5 (by assumption))
local macro_rules | `(tactic| walk_at "My fn") => `(tactic| ((case F => k_asm); (case N => k_asm)))
local macro_rules | `(tactic| walk_at "My use") => `(tactic| ((case F => k_asm); (case N => k_asm); (case X => k_in); (case T => exact Top.keeps (by k_asm) (Fr.keep (by k_asm))); (case r => walk_at "My room"); (case l => omega); k_whole))
section
section
variable {w : World} {p : Program} {loose : List Str} {mean : ExcName → Option Value} {mg mb : Str → Option Value} {s : Shared} {dp un : Nat} {fr : Option (List Env)} {gd : Option (List Code)} {E : Value → Shared → Prop}
theorem args_issub3 (a b c : Value) : argsOk "issubclass.nested" ⟨[a, b, c], []⟩ := by unfold argsOk; kernel_rfl
theorem kind_issub3 : builtinKind "issubclass.nested" = none := by decide +kernel
theorem plain_issub3 : plainId "issubclass.nested" = true := by decide +kernel
theorem issub_nested {prog : Program} {w : World} {A : Around} {E : Value → Shared → Prop} {s : Shared} {k : Int} {tk : Tok} {Q : Fin → Shared → Prop} (hq : Q (.done (.ret (.bool true))) s) :
    wpAny (model prog w) A (Builtin.«issubclass.nested» ⟨[.type "str", .type "str", .int k tk], []⟩) Q E s := by
  have hm : typeOf (.type "str") = pure (.type "type") := by
    first | kernel_rfl | rfl
  have hself : isSubtype (.type "str") (.type "str") = pure true := by first | rfl | (rw [isSubtype_type]; kernel_rfl)
  repeat (any_goals (first | assumption | (rw [hm]) | (rw [hself]) | wp_step))
theorem issub_nested_call {prog : Program} {w : World} {A : Around} {E : Value → Shared → Prop} {s : Shared} {k : Int} {tk : Tok} {Q : Value → Shared → Prop} (hq : Q (.bool true) s) :
    wpAny (model prog w) A (call (.builtin "issubclass.nested") [.type "str", .type "str", .int k tk]) Q E s :=
  call_function_entry kind_issub3 plain_issub3 F.entry_issubclass_nested (args_issub3 _ _ _) (issub_nested ⟨_, rfl, hq⟩)
theorem issub_items {prog : Program} {w : World} {A : Around} {E : Value → Shared → Prop} {s : Shared} {dep : Int} {r : List Value} {Q : Option Fin × Unit → Shared → Prop} (hq : Q (some (.done (.ret (.bool true))), ()) s) :
    wpAny (model prog w) A (forIn (.type "str" :: r) ((none : Option Fin), ()) fun c _ => do
      if ← truthy (← call (.builtin "issubclass.nested") [.type "str", c, rawInt (dep + 1)]) then
        let r ← ret (.bool true)
        pure (ForInStep.done (some r, ()))
      else pure (ForInStep.yield (none, ()))) Q E s := by
  rw [List.forIn_cons]
  refine wpAny_bind (wpAny_bind (issub_nested_call ?_))
  show wpAny _ _ (truthy (.bool true) >>= _) _ _ _
  refine wpAny_bind (m := truthy (.bool true)) (wpAny_pure ?_)
  exact wpAny_bind (wpAny_pure (wpAny_pure (wpAny_pure hq)))
theorem issub_tuple {prog : Program} {w : World} {A : Around} {E : Value → Shared → Prop} {s : Shared} {D : Addr} {tk : Tok} {Q : Fin → Shared → Prop}
    (htp : s.heap.get? D = some { cls := .type "tuple", data := .seq [Value.type "str", .type "bytes"].toArray }) (hq : Q (.done (.ret (.bool true))) s) :
    wpAny (model prog w) A (Builtin.«issubclass.nested» ⟨[.type "str", .ref D, .int 0 tk], []⟩) Q E s := by
  obtain ⟨h, g, d, t, os⟩ := s
  have hT2 : (⟨h, g, d, t, os⟩ : Shared).TypeIs (.ref D) "tuple" := ⟨_, htp, rfl⟩
  have f1 := F.isi_sub_tuple
  unfold Builtin.«issubclass.nested»
  iterate 12 (any_goals (first | assumption | wp_step))
  dsimp only
  rw [if_neg (by decide)]
  refine wpAny_bind (wpAny_seqItems htp rfl ?_)
  show wpAny _ _ (forIn [Value.type "str", .type "bytes"].toArray ((none : Option Fin), ()) _ >>= _) _ _ _
  refine wpAny_bind ?_
  rw [← Array.forIn_toList]
  refine issub_items (dep := 0) (r := [.type "bytes"]) ?_
  exact wpAny_pure hq
theorem issub_str {prog : Program} {w : World} {A : Around} {E : Value → Shared → Prop} {s : Shared} {D : Addr} {Q : Value → Shared → Prop}
    (hD : s.heap.get? D = some { cls := .type "tuple", data := .seq [Value.type "str", .type "bytes"].toArray }) (hq : Q (.bool true) s) :
    wpAny (model prog w) A (call (.builtin "issubclass") [.type "str", .ref D]) Q E s := by
  refine call_issubclass (S := fun _ R s => s.heap.get? D = some { cls := .type "tuple", data := .seq [Value.type "str", .type "bytes"].toArray } ∧ R (.ok (.ret (.bool true))) s) ?_ ⟨hD, hq⟩
  intro prog w A R s hs
  exact issubclass_outer (issub_tuple hs.1 hs.2)
end
end
section
end
local macro_rules | `(tactic| walk_at "call builtin:issubclass") => `(tactic| (refine' issub_str ?k1 ?_; (case k1 => exact News.get (by k_asm) (by k_mem)); k_whole))
section
section
variable {w : World} {p : Program} {loose : List Str} {mean : ExcName → Option Value} {mg mb : Str → Option Value} {s : Shared} {dp un : Nat} {fr : Option (List Env)} {gd : Option (List Code)} {E : Value → Shared → Prop}
theorem fspath_spec {x : Str} {t : Tok} (KX : (hd.heap_39 w.params).In s.heap) (T : Top p loose mean mg mb s.heap) (hroom : dp + 3 < recursionLimit) (hx : x.length ≤ 100000) :
    wpAny (model PR w) (Ar dp un fr gd) (call (.ref 94) [.str x t]) (Out s (IsS x)) E s := by
  (refine' enter (binds := [(Str.ofString "path", .str x t)]) KX T ?k6 ?k7 ?k8 ?k9 ?kB ?_ ?c2 ?c3 ?c4 ?c5; walk_at "My enter")
  k_steps
  all_goals exact out_str (by k_asm) rfl
theorem sep_spec {x : Str} {t : Tok} (KX : (hd.heap_39 w.params).In s.heap) (T : Top p loose mean mg mb s.heap) (hroom : dp + 3 < recursionLimit) (hx : x.length ≤ 100000) :
    wpAny (model PR w) (Ar dp un fr gd) (call (.ref 108) [.str x t]) (Out s (IsS (Str.ofString "/"))) E s := by
  (refine' enter (binds := [(Str.ofString "path", .str x t)]) KX T ?k6 ?k7 ?k8 ?k9 ?kB ?_ ?c2 ?c3 ?c4 ?c5; walk_at "My enter")
  k_steps
  all_goals exact out_str (by k_asm) rfl
end
end
local macro_rules | `(tactic| walk_at "call ref") => `(tactic| (refine' use_str ?F ?N (fspath_spec ?X ?T ?r ?l) ?_; walk_at "My use"; intro t' h' tk' F' N'; (try k_sweep)))
section
end
local macro_rules | `(tactic| walk_at "call ref") => `(tactic| (refine' use_str ?F ?N (sep_spec ?X ?T ?r ?l) ?_; walk_at "My use"; intro t' h' tk' F' N'; (try k_sweep)))
section
section
variable {w : World} {p : Program} {loose : List Str} {mean : ExcName → Option Value} {mg mb : Str → Option Value} {s : Shared} {dp un : Nat} {fr : Option (List Env)} {gd : Option (List Code)} {E : Value → Shared → Prop}
theorem isabs_spec {x : Str} {t : Tok} (KX : (hd.heap_39 w.params).In s.heap) (T : Top p loose mean mg mb s.heap) (hroom : dp + 6 < recursionLimit) (hx : x.length ≤ 100000) :
    wpAny (model PR w) (Ar dp un fr gd) (call (.ref 115) [.str x t]) (Out s (IsB (Txt.startswith x (Str.ofString "/")))) E s := by
  (refine' enter (binds := [(Str.ofString "s", .str x t)]) KX T ?k6 ?k7 ?k8 ?k9 ?kB ?_ ?c2 ?c3 ?c4 ?c5; walk_at "My enter")
  k_steps
  all_goals exact out_bool (by k_asm) rfl
end
end
section
section
variable {w : World} {p : Program} {loose : List Str} {mean : ExcName → Option Value} {mg mb : Str → Option Value} {s : Shared} {dp un : Nat} {fr : Option (List Env)} {gd : Option (List Code)} {E : Value → Shared → Prop}
noncomputable def splitF (x : Str) : Str × Str :=
  if (Txt.slice x none (some 1) != Str.ofString "/") = true then (Str.ofString "", x)
  else if (Txt.slice x (some 1) (some 2) != Str.ofString "/") = true then (Str.ofString "/", Txt.slice x (some 1) none)
  else if (Txt.slice x (some 2) (some 3) == Str.ofString "/") = true then (Str.ofString "/", Txt.slice x (some 1) none)
  else (Txt.slice x none (some 2), Txt.slice x (some 2) none)
abbrev IsTup3 (s : Shared) (x y z : Str) : Value → Heap → Prop := fun v h => ∃ a t1 t2 t3, v = .ref a ∧ h.get? a = some { cls := .type "tuple", data := .seq [Value.str x t1, .str y t2, .str z t3].toArray } ∧ s.heap.get? a = none
theorem out_tup3 {s : Shared} {L : Addr} {h : Heap} {m : Str → Option Value} {news : List (Addr × Obj)} {a : Addr} {x y z y' z' : Str} {t1 t2 t3 : Tok} {tk : Nat} (F : Fr s.heap L h m) (N : News s.heap L h news)
    (hm : (a, ({ cls := .type "tuple", data := .seq [Value.str x t1, .str y' t2, .str z' t3].toArray } : Obj)) ∈ news) (e : (y', z') = (y, z)) :
    Out s (IsTup3 s x y z) (.ref a) { s with heap := h, toks := tk } := by
  cases e
  exact ⟨⟨a, t1, t2, t3, rfl, N.get hm, N.fresh hm⟩, h, tk, rfl, F.keep⟩
end
namespace splitroot_spec_c
def Pz (w : World) (p : Program) (loose : List Str) (mean : ExcName → Option Value) (mg : Str → Option Value) (mb : Str → Option Value) (s : Shared) (dp : Nat) (un : Nat) (fr : Option (List Env)) (gd : Option (List Code)) (E : Value → Shared → Prop) (x : Str) (t : Tok) : Prop := ∀ (KX : (hd.heap_39 w.params).In s.heap) (T : Top p loose mean mg mb s.heap) (hroom : dp + 6 < recursionLimit) (hx : x.length ≤ 100000),
  wpAny (model PR w) (Ar dp un fr gd) (call (.ref 129) [.str x t]) (Out s (IsTup3 s (Str.ofString "") (splitF x).1 (splitF x).2)) E s
abbrev Cx : Type := (World) × (Program) × (List Str) × (ExcName → Option Value) × (Str → Option Value) × (Str → Option Value) × (Shared) × (Nat) × (Nat) × (Option (List Env)) × (Option (List Code)) × (Value → Shared → Prop) × (Str) × (Tok)
theorem ne : Nonempty Cx := ⟨(aWorld 0, default, [], (fun _ => none), (fun _ => none), (fun _ => none), ({} : Shared), (0 : Nat), (0 : Nat), none, none, (fun _ _ => True), Str.ofString "", default)⟩
@[irreducible] noncomputable def bad : Cx := @Classical.epsilon Cx ne fun c => ¬ Pz c.1 c.2.1 c.2.2.1 c.2.2.2.1 c.2.2.2.2.1 c.2.2.2.2.2.1 c.2.2.2.2.2.2.1 c.2.2.2.2.2.2.2.1 c.2.2.2.2.2.2.2.2.1 c.2.2.2.2.2.2.2.2.2.1 c.2.2.2.2.2.2.2.2.2.2.1 c.2.2.2.2.2.2.2.2.2.2.2.1 c.2.2.2.2.2.2.2.2.2.2.2.2.1 c.2.2.2.2.2.2.2.2.2.2.2.2.2
theorem fin (h : Pz bad.1 bad.2.1 bad.2.2.1 bad.2.2.2.1 bad.2.2.2.2.1 bad.2.2.2.2.2.1 bad.2.2.2.2.2.2.1 bad.2.2.2.2.2.2.2.1 bad.2.2.2.2.2.2.2.2.1 bad.2.2.2.2.2.2.2.2.2.1 bad.2.2.2.2.2.2.2.2.2.2.1 bad.2.2.2.2.2.2.2.2.2.2.2.1 bad.2.2.2.2.2.2.2.2.2.2.2.2.1 bad.2.2.2.2.2.2.2.2.2.2.2.2.2) (c : Cx) : Pz c.1 c.2.1 c.2.2.1 c.2.2.2.1 c.2.2.2.2.1 c.2.2.2.2.2.1 c.2.2.2.2.2.2.1 c.2.2.2.2.2.2.2.1 c.2.2.2.2.2.2.2.2.1 c.2.2.2.2.2.2.2.2.2.1 c.2.2.2.2.2.2.2.2.2.2.1 c.2.2.2.2.2.2.2.2.2.2.2.1 c.2.2.2.2.2.2.2.2.2.2.2.2.1 c.2.2.2.2.2.2.2.2.2.2.2.2.2 := by
  delta bad at h
  exact Classical.byContradiction fun q => (@Classical.epsilon_spec Cx (fun c => ¬ Pz c.1 c.2.1 c.2.2.1 c.2.2.2.1 c.2.2.2.2.1 c.2.2.2.2.2.1 c.2.2.2.2.2.2.1 c.2.2.2.2.2.2.2.1 c.2.2.2.2.2.2.2.2.1 c.2.2.2.2.2.2.2.2.2.1 c.2.2.2.2.2.2.2.2.2.2.1 c.2.2.2.2.2.2.2.2.2.2.2.1 c.2.2.2.2.2.2.2.2.2.2.2.2.1 c.2.2.2.2.2.2.2.2.2.2.2.2.2) ⟨c, q⟩) h
noncomputable def w : World := bad.1
noncomputable def p : Program := bad.2.1
noncomputable def loose : List Str := bad.2.2.1
noncomputable def mean : ExcName → Option Value := bad.2.2.2.1
noncomputable def mg : Str → Option Value := bad.2.2.2.2.1
noncomputable def mb : Str → Option Value := bad.2.2.2.2.2.1
noncomputable def s : Shared := bad.2.2.2.2.2.2.1
noncomputable def dp : Nat := bad.2.2.2.2.2.2.2.1
noncomputable def un : Nat := bad.2.2.2.2.2.2.2.2.1
noncomputable def fr : Option (List Env) := bad.2.2.2.2.2.2.2.2.2.1
noncomputable def gd : Option (List Code) := bad.2.2.2.2.2.2.2.2.2.2.1
noncomputable def E : Value → Shared → Prop := bad.2.2.2.2.2.2.2.2.2.2.2.1
noncomputable def x : Str := bad.2.2.2.2.2.2.2.2.2.2.2.2.1
noncomputable def t : Tok := bad.2.2.2.2.2.2.2.2.2.2.2.2.2
theorem at_ (KX : (hd.heap_39 w.params).In s.heap) (T : Top p loose mean mg mb s.heap) (hroom : dp + 6 < recursionLimit) (hx : x.length ≤ 100000) :
  wpAny (model PR w) (Ar dp un fr gd) (call (.ref 129) [.str x t]) (Out s (IsTup3 s (Str.ofString "") (splitF x).1 (splitF x).2)) E s := by
  (refine' enter (binds := [(Str.ofString "p", .str x t)]) KX T ?k6 ?k7 ?k8 ?k9 ?kB ?_ ?c2 ?c3 ?c4 ?c5; walk_at "My enter")
  k_steps
  all_goals (refine out_tup3 (by k_asm) (by k_asm) (.head _) ?_; simp only [splitF, *, if_true, Bool.false_eq_true, if_false])
end splitroot_spec_c
theorem splitroot_spec {w : World} {p : Program} {loose : List Str} {mean : ExcName → Option Value} {mg : Str → Option Value} {mb : Str → Option Value} {s : Shared} {dp : Nat} {un : Nat} {fr : Option (List Env)} {gd : Option (List Code)} {E : Value → Shared → Prop} {x : Str} {t : Tok} (KX : (hd.heap_39 w.params).In s.heap) (T : Top p loose mean mg mb s.heap) (hroom : dp + 6 < recursionLimit) (hx : x.length ≤ 100000) :
    wpAny (model PR w) (Ar dp un fr gd) (call (.ref 129) [.str x t]) (Out s (IsTup3 s (Str.ofString "") (splitF x).1 (splitF x).2)) E s :=
  splitroot_spec_c.fin splitroot_spec_c.at_ (w, p, loose, mean, mg, mb, s, dp, un, fr, gd, E, x, t) KX T hroom hx
section
variable {w : World} {p : Program} {loose : List Str} {mean : ExcName → Option Value} {mg mb : Str → Option Value} {s : Shared} {dp un : Nat} {fr : Option (List Env)} {gd : Option (List Code)} {E : Value → Shared → Prop}
noncomputable def stripF (x : Str) : Str :=
  if Txt.startswith x (Str.ofString "\"") = true then
    (if Txt.endswith (Txt.slice x (some 1) none) (Str.ofString "\"") = true then Txt.slice (Txt.slice x (some 1) none) none (some (-1)) else Txt.slice x (some 1) none)
  else (if Txt.endswith x (Str.ofString "\"") = true then Txt.slice x none (some (-1)) else x)
end
namespace strip_spec_c
def Pz (w : World) (p : Program) (loose : List Str) (mean : ExcName → Option Value) (mg : Str → Option Value) (mb : Str → Option Value) (s : Shared) (dp : Nat) (un : Nat) (fr : Option (List Env)) (gd : Option (List Code)) (E : Value → Shared → Prop) (x : Str) (t : Tok) : Prop := ∀ (KX : (hd.heap_39 w.params).In s.heap) (T : Top p loose mean mg mb s.heap) (hroom : dp + 3 < recursionLimit) (hx : x.length ≤ 100000),
  wpAny (model PR w) (Ar dp un fr gd) (call (.ref 152) [.str x t]) (Out s (IsS (stripF x))) E s
abbrev Cx : Type := (World) × (Program) × (List Str) × (ExcName → Option Value) × (Str → Option Value) × (Str → Option Value) × (Shared) × (Nat) × (Nat) × (Option (List Env)) × (Option (List Code)) × (Value → Shared → Prop) × (Str) × (Tok)
theorem ne : Nonempty Cx := ⟨(aWorld 0, default, [], (fun _ => none), (fun _ => none), (fun _ => none), ({} : Shared), (0 : Nat), (0 : Nat), none, none, (fun _ _ => True), Str.ofString "", default)⟩
@[irreducible] noncomputable def bad : Cx := @Classical.epsilon Cx ne fun c => ¬ Pz c.1 c.2.1 c.2.2.1 c.2.2.2.1 c.2.2.2.2.1 c.2.2.2.2.2.1 c.2.2.2.2.2.2.1 c.2.2.2.2.2.2.2.1 c.2.2.2.2.2.2.2.2.1 c.2.2.2.2.2.2.2.2.2.1 c.2.2.2.2.2.2.2.2.2.2.1 c.2.2.2.2.2.2.2.2.2.2.2.1 c.2.2.2.2.2.2.2.2.2.2.2.2.1 c.2.2.2.2.2.2.2.2.2.2.2.2.2
theorem fin (h : Pz bad.1 bad.2.1 bad.2.2.1 bad.2.2.2.1 bad.2.2.2.2.1 bad.2.2.2.2.2.1 bad.2.2.2.2.2.2.1 bad.2.2.2.2.2.2.2.1 bad.2.2.2.2.2.2.2.2.1 bad.2.2.2.2.2.2.2.2.2.1 bad.2.2.2.2.2.2.2.2.2.2.1 bad.2.2.2.2.2.2.2.2.2.2.2.1 bad.2.2.2.2.2.2.2.2.2.2.2.2.1 bad.2.2.2.2.2.2.2.2.2.2.2.2.2) (c : Cx) : Pz c.1 c.2.1 c.2.2.1 c.2.2.2.1 c.2.2.2.2.1 c.2.2.2.2.2.1 c.2.2.2.2.2.2.1 c.2.2.2.2.2.2.2.1 c.2.2.2.2.2.2.2.2.1 c.2.2.2.2.2.2.2.2.2.1 c.2.2.2.2.2.2.2.2.2.2.1 c.2.2.2.2.2.2.2.2.2.2.2.1 c.2.2.2.2.2.2.2.2.2.2.2.2.1 c.2.2.2.2.2.2.2.2.2.2.2.2.2 := by
  delta bad at h
  exact Classical.byContradiction fun q => (@Classical.epsilon_spec Cx (fun c => ¬ Pz c.1 c.2.1 c.2.2.1 c.2.2.2.1 c.2.2.2.2.1 c.2.2.2.2.2.1 c.2.2.2.2.2.2.1 c.2.2.2.2.2.2.2.1 c.2.2.2.2.2.2.2.2.1 c.2.2.2.2.2.2.2.2.2.1 c.2.2.2.2.2.2.2.2.2.2.1 c.2.2.2.2.2.2.2.2.2.2.2.1 c.2.2.2.2.2.2.2.2.2.2.2.2.1 c.2.2.2.2.2.2.2.2.2.2.2.2.2) ⟨c, q⟩) h
noncomputable def w : World := bad.1
noncomputable def p : Program := bad.2.1
noncomputable def loose : List Str := bad.2.2.1
noncomputable def mean : ExcName → Option Value := bad.2.2.2.1
noncomputable def mg : Str → Option Value := bad.2.2.2.2.1
noncomputable def mb : Str → Option Value := bad.2.2.2.2.2.1
noncomputable def s : Shared := bad.2.2.2.2.2.2.1
noncomputable def dp : Nat := bad.2.2.2.2.2.2.2.1
noncomputable def un : Nat := bad.2.2.2.2.2.2.2.2.1
noncomputable def fr : Option (List Env) := bad.2.2.2.2.2.2.2.2.2.1
noncomputable def gd : Option (List Code) := bad.2.2.2.2.2.2.2.2.2.2.1
noncomputable def E : Value → Shared → Prop := bad.2.2.2.2.2.2.2.2.2.2.2.1
noncomputable def x : Str := bad.2.2.2.2.2.2.2.2.2.2.2.2.1
noncomputable def t : Tok := bad.2.2.2.2.2.2.2.2.2.2.2.2.2
theorem at_ (KX : (hd.heap_39 w.params).In s.heap) (T : Top p loose mean mg mb s.heap) (hroom : dp + 3 < recursionLimit) (hx : x.length ≤ 100000) :
  wpAny (model PR w) (Ar dp un fr gd) (call (.ref 152) [.str x t]) (Out s (IsS (stripF x))) E s := by
  (refine' enter (binds := [(Str.ofString "text", .str x t)]) KX T ?k6 ?k7 ?k8 ?k9 ?kB ?_ ?c2 ?c3 ?c4 ?c5; walk_at "My enter")
  k_steps
  all_goals (refine out_str (by k_asm) ?_; simp only [stripF, *, if_true, Bool.false_eq_true, if_false])
end strip_spec_c
theorem strip_spec {w : World} {p : Program} {loose : List Str} {mean : ExcName → Option Value} {mg : Str → Option Value} {mb : Str → Option Value} {s : Shared} {dp : Nat} {un : Nat} {fr : Option (List Env)} {gd : Option (List Code)} {E : Value → Shared → Prop} {x : Str} {t : Tok} (KX : (hd.heap_39 w.params).In s.heap) (T : Top p loose mean mg mb s.heap) (hroom : dp + 3 < recursionLimit) (hx : x.length ≤ 100000) :
    wpAny (model PR w) (Ar dp un fr gd) (call (.ref 152) [.str x t]) (Out s (IsS (stripF x))) E s :=
  strip_spec_c.fin strip_spec_c.at_ (w, p, loose, mean, mg, mb, s, dp, un, fr, gd, E, x, t) KX T hroom hx
local macro_rules | `(tactic| walk_at "call ref") => `(tactic| (refine' use_str ?F ?N (strip_spec ?X ?T ?r ?l) ?_; walk_at "My use"; intro t' h' tk' F' N'; (try k_sweep)))
section
variable {w : World} {p : Program} {loose : List Str} {mean : ExcName → Option Value} {mg mb : Str → Option Value} {s : Shared} {dp un : Nat} {fr : Option (List Env)} {gd : Option (List Code)} {E : Value → Shared → Prop}
noncomputable def actF (x y : Str) : Str :=
  if (y == Str.ofString "\"") = true then Str.ofString "\"" ++ x ++ Str.ofString "\"" else if (y == Str.ofString "..") = true then stripF x else x
theorem act_spec {x y : Str} {t u : Tok} (KX : (hd.heap_39 w.params).In s.heap) (T : Top p loose mean mg mb s.heap) (hroom : dp + 6 < recursionLimit) (hx : x.length ≤ 90000) (hy : y.length ≤ 1000) :
    wpAny (model PR w) (Ar dp un fr gd) (call (.ref 164) [.str x t, .str y u]) (Out s (IsS (actF x y))) E s := by
  (refine' enter (binds := [(Str.ofString "text", .str x t), (Str.ofString "part", .str y u)]) KX T ?k6 ?k7 ?k8 ?k9 ?kB ?_ ?c2 ?c3 ?c4 ?c5; walk_at "My enter")
  k_steps
  all_goals (refine out_str (by k_asm) ?_; simp only [actF, *, if_true, Bool.false_eq_true, if_false])
end
end
section
section
variable {w : World} {p : Program} {loose : List Str} {mean : ExcName → Option Value} {mg mb : Str → Option Value} {s : Shared} {dp un : Nat} {fr : Option (List Env)} {gd : Option (List Code)} {E : Value → Shared → Prop}
def ItOf (l : Addr) (i : Nat) (o : Obj) : Prop := o.cls = .type "list_iterator" ∧ o.data = .fields #[.ref l, .int i 0]
def TurnEnd (s : Shared) (h₀ : Heap) (L I : Addr) (it : Obj) (J : (Str → Option Value) → List (Addr × Obj) → Prop) (fl : Flow) (s' : Shared) : Prop :=
  (fl = .next ∨ fl = .cont) ∧ ∃ h' tk' m' news', s' = { s with heap := h', toks := tk' } ∧ Fr h₀ L h' m' ∧ News h₀ L h' ((I, it) :: news') ∧ (∀ p ∈ news', p.1 ≠ I) ∧ J m' news'
theorem turn_end {s : Shared} {h₀ h' : Heap} {L I : Addr} {it : Obj} {J : (Str → Option Value) → List (Addr × Obj) → Prop} {fl : Flow} {tk' : Nat} {m' : Str → Option Value} {news news' : List (Addr × Obj)}
    (F : Fr h₀ L h' m') (N : News h₀ L h' news) (hI : (I, it) ∈ news) (hs : ∀ p ∈ news', p ∈ news) (hne : ∀ p ∈ news', p.1 ≠ I) (hj : J m' news') (hf : fl = .next ∨ fl = .cont) :
    TurnEnd s h₀ L I it J fl { s with heap := h', toks := tk' } :=
  ⟨hf, h', tk', m', news', rfl, F, (fun p hp => by rcases List.mem_cons.mp hp with rfl | hp; exact N _ hI; exact N _ (hs _ hp)), hne, hj⟩

theorem for_list {prog : Program} {w : World} {A : Around} {s : Shared} {env : Env} {h₀ : Heap} {x : Str} {px : Pos} {body : List Stmt} {R : Result → Shared → Prop} {l I : Addr} {its : List Value} {m : Str → Option Value} {news : List (Addr × Obj)}
    (J : Nat → (Str → Option Value) → List (Addr × Obj) → Prop) (hh : A.handled = none) (hx : env.kindOf x = some .local) (hp : (env.scope.kind == .class || (env.scope.kind == .module && env.locals != env.globals)) = false)
    (hsrc : h₀.IsList l its.toArray ∨ ∀ i m₁ news₁, J i m₁ news₁ → ∃ o, (l, o) ∈ news₁ ∧ o.cls = .type "list" ∧ ∃ n, o.data = .seq its.toArray n)
    (F : Fr h₀ env.locals s.heap m) {o₀ : Obj} (N : News h₀ env.locals s.heap ((I, o₀) :: news)) (ho₀ : ItOf l 0 o₀) (hne : ∀ p ∈ news, p.1 ≠ I) (hj : J 0 m news)
    (turn : ∀ i v m₁ news₁ h tk it, its[i]? = some v → J i m₁ news₁ → Fr h₀ env.locals h (fun y => if y = x then some v else m₁ y) → News h₀ env.locals h ((I, it) :: news₁) → AllNe I news₁ →
      wpAny (model prog w) A (execs body env) (TurnEnd s h₀ env.locals I it (J (i + 1))) (fun _ _ => False) { s with heap := h, toks := tk })
    (done : ∀ m₁ news₁ h tk, J its.length m₁ news₁ → Fr h₀ env.locals h m₁ → News h₀ env.locals h news₁ → R (.ok .next) { s with heap := h, toks := tk }) :
    codeAny (model prog w) A (.forLoop (.Name x px) (.ref I) body [] env) R s := by
  have hI₀ : h₀.get? I = none := (N _ (.head _)).2.2
  have hIL : I ≠ env.locals := (N _ (.head _)).2.1
  have hlI : l ≠ I := by
    rcases hsrc with ⟨o, ho, _⟩ | h
    · rintro rfl; rw [hI₀] at ho; cases ho
    · obtain ⟨o, hm, _⟩ := h _ _ _ hj; exact hne _ hm
  refine codeAny_forLoop (fun k s' => ∃ i h tk m₁ news₁ o, s' = { s with heap := h, toks := tk } ∧ ItOf l i o ∧ Fr h₀ env.locals h m₁ ∧ News h₀ env.locals h ((I, o) :: news₁) ∧ (∀ p ∈ news₁, p.1 ≠ I) ∧ J i m₁ news₁ ∧ i ≤ its.length ∧ k = its.length + 1 - i) ?_ (its.length + 1)
    ⟨0, s.heap, s.toks, m, news, o₀, rfl, ho₀, F, N, hne, hj, Nat.zero_le _, rfl⟩
  rintro k s' ⟨i, h, tk, m₁, news₁, o, rfl, ho, F₁, N₁, hne₁, hj₁, hi, rfl⟩
  have hit : h.IsListIter I l i := ⟨o, (N₁ _ (.head _)).1, ho.1, ho.2⟩
  have hls : h.IsList l its.toArray := by
    rcases hsrc with h' | h'
    · exact h'.at fun o e => F₁.keep l o e
    · obtain ⟨o, hm, hc, n, hd⟩ := h' _ _ _ hj₁; exact ⟨o, (N₁ _ (.tail _ hm)).1, hc, n, hd⟩
  by_cases hlt : i < its.length
  · refine wpAny_pyNext_list_item (s := { s with heap := h, toks := tk }) hit hls (x := its[i]) (by simp [hlt]) fun h' hit' hs' => ?_
    have fr1 : Fr h₀ env.locals h' m₁ := ⟨F₁.ns.sameBut hs' (Ne.symm hIL), fun b o e => (hs'.2 b (fun q => by rw [q, hI₀] at e; cases e)).trans (F₁.keep b o e), F₁.above⟩
    obtain ⟨o', ho', hc', hd'⟩ := hit'
    have n1 : News h₀ env.locals h' ((I, o') :: news₁) := by
      intro p hp
      rcases List.mem_cons.mp hp with rfl | hp
      · exact ⟨ho', hIL, hI₀⟩
      · exact ⟨(hs'.2 _ (hne₁ p hp)).trans (N₁ _ (.tail _ hp)).1, (N₁ _ (.tail _ hp)).2⟩
    refine wpAny_assign_Name (wpAny_storeName_local hx fr1.ns (fun h₂ hn₂ hs₂ => ?_) hp)
    refine wpAny_mono (turn i _ m₁ news₁ h₂ _ o' (by simp [hlt]) hj₁ (fr1.set hn₂ hs₂) (n1.set hs₂) (allNe_of hne₁)) (fun fl s₃ h₃ => ?_) fun _ _ e => e.elim
    obtain ⟨hfl, h', tk', m', news', rfl, F', N', hne', hj'⟩ := h₃
    have fin : ∃ k', k' < its.length + 1 - i ∧ ∃ i h tk m₁ news₁ o, ({ s with heap := h', toks := tk' } : Shared) = { s with heap := h, toks := tk } ∧ ItOf l i o ∧ Fr h₀ env.locals h m₁ ∧ News h₀ env.locals h ((I, o) :: news₁) ∧ (∀ p ∈ news₁, p.1 ≠ I) ∧ J i m₁ news₁ ∧ i ≤ its.length ∧ k' = its.length + 1 - i :=
      ⟨its.length + 1 - (i + 1), by omega, i + 1, h', tk', m', news', o', rfl, ⟨hc', hd'⟩, F', N', hne', hj', hlt, rfl⟩
    rcases hfl with rfl | rfl <;> exact fin
  · have hin : i = its.length := by omega
    subst hin
    refine wpAny_pyNext_list_end (s := { s with heap := h, toks := tk }) hh hit hls (by simp) fun h' hs' => wpAny_execs_nil ?_
    refine done m₁ news₁ h' tk hj₁ ⟨F₁.ns.extBut hs' (Ne.symm hIL), fun b o e => hs' b o (fun q => by rw [q, hI₀] at e; cases e) (F₁.keep b o e), F₁.above⟩ fun p hp => ?_
    exact ⟨hs' _ _ (hne₁ p hp) (N₁ _ (.tail _ hp)).1, (N₁ _ (.tail _ hp)).2⟩

theorem fr_pin {h₀ h : Heap} {L : Addr} {m : Str → Option Value} {x : Str} {v : Value} (F : Fr h₀ L h m) (hv : m x = some v) : Fr h₀ L h (fun y => if y = x then some v else m y) := by
  have e : (fun y => if y = x then some v else m y) = m := by
    funext y
    by_cases q : y = x
    · rw [if_pos q, q, hv]
    · rw [if_neg q]
  rw [e]; exact F
theorem call_iter {prog : Program} {w : World} {A : Around} {E : Value → Shared → Prop} {s : Shared} {h₀ : Heap} {L l : Addr} {m : Str → Option Value} {news : List (Addr × Obj)} {its : Array Value} {Q : Value → Shared → Prop} (F : Fr h₀ L s.heap m) (N : News h₀ L s.heap news)
    (hl : s.heap.IsList l its) (h : ∀ I h' o, ItOf l 0 o → Fr h₀ L h' m → News h₀ L h' ((I, o) :: news) → (∀ p ∈ news, p.1 ≠ I) → Q (.ref I) { s with heap := h' }) :
    wpAny (model prog w) A (call (.builtin "iter") [.ref l]) Q E s := by
  refine call_function_entry (by decide +kernel) (by decide +kernel) kdk_entry_iter (kdk_args_iter _) ?_
  unfold Builtin.«iter»
  refine wpAny_bind (m := someArgs "iter" 1 2 _) (wpAny_of_eq (a := [Value.ref l]) (by first | rfl | kernel_rfl) ?_)
  refine wpAny_bind (wpAny_pyIter_list hl ?_)
  refine wpAny_pure ⟨_, rfl, ?_⟩
  exact h _ _ { cls := .type "list_iterator", data := .fields #[.ref l, .int 0 0] } ⟨rfl, rfl⟩ (F.push _) (News.push F N _) fun p hp => Nat.ne_of_lt (Heap.lt_size (N p hp).1)
end
end
section
local macro_rules | `(tactic| walk_at "call builtin:iter") => `(tactic| (refine' call_iter ?F ?N ?l ?_; walk_at "My fn"; (case l => first | assumption | (refine Heap.IsList.at (by assumption) (fun o e => Fr.keep (by assumption) _ o e))); k_whole; intro I h' o hI0 F' N' hIne; (try k_sweep)))
local macro_rules | `(tactic| walk_at "compareOp Is str ref") => `(tactic| (refine wpAny_is_other (by rfl) (by intro x; cases x) ?_))
local macro_rules | `(tactic| walk_at "exec For Name Name cons nil") => `(tactic| k_dflt (refine wpAny_For ?_))
section
variable {w : World} {p : Program} {loose : List Str} {mean : ExcName → Option Value} {mg mb : Str → Option Value} {s : Shared} {dp un : Nat} {fr : Option (List Env)} {gd : Option (List Code)} {E : Value → Shared → Prop}
theorem iter_again {prog : Program} {w : World} {A : Around} {E : Value → Shared → Prop} {s : Shared} {h₀ : Heap} {L I l : Addr} {o : Obj} {news : List (Addr × Obj)} {Q : Value → Shared → Prop} (N : News h₀ L s.heap news) (hm : (I, o) ∈ news) (ho : ItOf l 0 o) (h : Q (.ref I) s) :
    wpAny (model prog w) A (pyIter (.ref I)) Q E s := wpAny_pyIter_listiter ⟨o, N.get hm, ho.1, ho.2⟩ h
end
local macro_rules | `(tactic| walk_at "pyIter ref") => `(tactic| (refine' iter_again ?N ?m ?o ?_; (case N => k_asm); (case m => k_mem); (case o => assumption)))
section
variable {w : World} {p : Program} {loose : List Str} {mean : ExcName → Option Value} {mg mb : Str → Option Value} {s : Shared} {dp un : Nat} {fr : Option (List Env)} {gd : Option (List Code)} {E : Value → Shared → Prop}
def Fn2 (w : World) (p : Program) (loose : List Str) (mean : ExcName → Option Value) (mg mb : Str → Option Value) (D : Nat) (fa : Addr) (f : Str → Str → Str) (ok : Str → Str → Prop) : Prop :=
  ∀ (dp un : Nat) (fr : Option (List Env)) (gd : Option (List Code)) (s : Shared) (E : Value → Shared → Prop) (x y : Str) (t u : Tok), (hd.heap_39 w.params).In s.heap → Top p loose mean mg mb s.heap → dp + D < recursionLimit → ok x y →
    wpAny (model PR w) (Ar dp un fr gd) (call (.ref fa) [.str x t, .str y u]) (Out s (IsS (f x y))) E s
end
local macro_rules | `(tactic| walk_at "callWith ref") => `(tactic| k_dflt (refine' callWith_K ?k1 ?k2 ?_; (case k1 => k_asm); (case k2 => assumption); k_whole))
namespace reduce_spec_c
def Pz (w : World) (p : Program) (loose : List Str) (mean : ExcName → Option Value) (mg : Str → Option Value) (mb : Str → Option Value) (s : Shared) (dp : Nat) (un : Nat) (fr : Option (List Env)) (gd : Option (List Code)) (E : Value → Shared → Prop) (D : Nat) (l : Addr) (fa : Addr) (vs : List Value) (ys : List Str) (f : Str → Str → Str) (ok : Str → Str → Prop) (x : Str) (t : Tok) : Prop := ∀ (hf : Fn2 w p loose mean mg mb D fa f ok) (hfa : keepIn (hd.heap_39 w.params) (.ref fa) = true) (KX : (hd.heap_39 w.params).In s.heap) (T : Top p loose mean mg mb s.heap) (hroom : dp + (D + 1) < recursionLimit) (hl : s.heap.IsList l vs.toArray) (hys : StrsAre vs ys) (hok : ∀ i y, ys[i]? = some y → ok ((ys.take i).foldl f x) y),
  wpAny (model PR w) (Ar dp un fr gd) (call (.ref 145) [.ref fa, .ref l, .str x t]) (Out s (IsS (ys.foldl f x))) E s
abbrev Cx : Type := (World) × (Program) × (List Str) × (ExcName → Option Value) × (Str → Option Value) × (Str → Option Value) × (Shared) × (Nat) × (Nat) × (Option (List Env)) × (Option (List Code)) × (Value → Shared → Prop) × (Nat) × (Addr) × (Addr) × (List Value) × (List Str) × (Str → Str → Str) × (Str → Str → Prop) × (Str) × (Tok)
theorem ne : Nonempty Cx := ⟨(aWorld 0, default, [], (fun _ => none), (fun _ => none), (fun _ => none), ({} : Shared), (0 : Nat), (0 : Nat), none, none, (fun _ _ => True), (0 : Nat), (0 : Nat), (0 : Nat), [], [], (fun _ _ => Str.ofString ""), (fun _ _ => True), Str.ofString "", default)⟩
@[irreducible] noncomputable def bad : Cx := @Classical.epsilon Cx ne fun c => ¬ Pz c.1 c.2.1 c.2.2.1 c.2.2.2.1 c.2.2.2.2.1 c.2.2.2.2.2.1 c.2.2.2.2.2.2.1 c.2.2.2.2.2.2.2.1 c.2.2.2.2.2.2.2.2.1 c.2.2.2.2.2.2.2.2.2.1 c.2.2.2.2.2.2.2.2.2.2.1 c.2.2.2.2.2.2.2.2.2.2.2.1 c.2.2.2.2.2.2.2.2.2.2.2.2.1 c.2.2.2.2.2.2.2.2.2.2.2.2.2.1 c.2.2.2.2.2.2.2.2.2.2.2.2.2.2.1 c.2.2.2.2.2.2.2.2.2.2.2.2.2.2.2.1 c.2.2.2.2.2.2.2.2.2.2.2.2.2.2.2.2.1 c.2.2.2.2.2.2.2.2.2.2.2.2.2.2.2.2.2.1 c.2.2.2.2.2.2.2.2.2.2.2.2.2.2.2.2.2.2.1 c.2.2.2.2.2.2.2.2.2.2.2.2.2.2.2.2.2.2.2.1 c.2.2.2.2.2.2.2.2.2.2.2.2.2.2.2.2.2.2.2.2
theorem fin (h : Pz bad.1 bad.2.1 bad.2.2.1 bad.2.2.2.1 bad.2.2.2.2.1 bad.2.2.2.2.2.1 bad.2.2.2.2.2.2.1 bad.2.2.2.2.2.2.2.1 bad.2.2.2.2.2.2.2.2.1 bad.2.2.2.2.2.2.2.2.2.1 bad.2.2.2.2.2.2.2.2.2.2.1 bad.2.2.2.2.2.2.2.2.2.2.2.1 bad.2.2.2.2.2.2.2.2.2.2.2.2.1 bad.2.2.2.2.2.2.2.2.2.2.2.2.2.1 bad.2.2.2.2.2.2.2.2.2.2.2.2.2.2.1 bad.2.2.2.2.2.2.2.2.2.2.2.2.2.2.2.1 bad.2.2.2.2.2.2.2.2.2.2.2.2.2.2.2.2.1 bad.2.2.2.2.2.2.2.2.2.2.2.2.2.2.2.2.2.1 bad.2.2.2.2.2.2.2.2.2.2.2.2.2.2.2.2.2.2.1 bad.2.2.2.2.2.2.2.2.2.2.2.2.2.2.2.2.2.2.2.1 bad.2.2.2.2.2.2.2.2.2.2.2.2.2.2.2.2.2.2.2.2) (c : Cx) : Pz c.1 c.2.1 c.2.2.1 c.2.2.2.1 c.2.2.2.2.1 c.2.2.2.2.2.1 c.2.2.2.2.2.2.1 c.2.2.2.2.2.2.2.1 c.2.2.2.2.2.2.2.2.1 c.2.2.2.2.2.2.2.2.2.1 c.2.2.2.2.2.2.2.2.2.2.1 c.2.2.2.2.2.2.2.2.2.2.2.1 c.2.2.2.2.2.2.2.2.2.2.2.2.1 c.2.2.2.2.2.2.2.2.2.2.2.2.2.1 c.2.2.2.2.2.2.2.2.2.2.2.2.2.2.1 c.2.2.2.2.2.2.2.2.2.2.2.2.2.2.2.1 c.2.2.2.2.2.2.2.2.2.2.2.2.2.2.2.2.1 c.2.2.2.2.2.2.2.2.2.2.2.2.2.2.2.2.2.1 c.2.2.2.2.2.2.2.2.2.2.2.2.2.2.2.2.2.2.1 c.2.2.2.2.2.2.2.2.2.2.2.2.2.2.2.2.2.2.2.1 c.2.2.2.2.2.2.2.2.2.2.2.2.2.2.2.2.2.2.2.2 := by
  delta bad at h
  exact Classical.byContradiction fun q => (@Classical.epsilon_spec Cx (fun c => ¬ Pz c.1 c.2.1 c.2.2.1 c.2.2.2.1 c.2.2.2.2.1 c.2.2.2.2.2.1 c.2.2.2.2.2.2.1 c.2.2.2.2.2.2.2.1 c.2.2.2.2.2.2.2.2.1 c.2.2.2.2.2.2.2.2.2.1 c.2.2.2.2.2.2.2.2.2.2.1 c.2.2.2.2.2.2.2.2.2.2.2.1 c.2.2.2.2.2.2.2.2.2.2.2.2.1 c.2.2.2.2.2.2.2.2.2.2.2.2.2.1 c.2.2.2.2.2.2.2.2.2.2.2.2.2.2.1 c.2.2.2.2.2.2.2.2.2.2.2.2.2.2.2.1 c.2.2.2.2.2.2.2.2.2.2.2.2.2.2.2.2.1 c.2.2.2.2.2.2.2.2.2.2.2.2.2.2.2.2.2.1 c.2.2.2.2.2.2.2.2.2.2.2.2.2.2.2.2.2.2.1 c.2.2.2.2.2.2.2.2.2.2.2.2.2.2.2.2.2.2.2.1 c.2.2.2.2.2.2.2.2.2.2.2.2.2.2.2.2.2.2.2.2) ⟨c, q⟩) h
noncomputable def w : World := bad.1
noncomputable def p : Program := bad.2.1
noncomputable def loose : List Str := bad.2.2.1
noncomputable def mean : ExcName → Option Value := bad.2.2.2.1
noncomputable def mg : Str → Option Value := bad.2.2.2.2.1
noncomputable def mb : Str → Option Value := bad.2.2.2.2.2.1
noncomputable def s : Shared := bad.2.2.2.2.2.2.1
noncomputable def dp : Nat := bad.2.2.2.2.2.2.2.1
noncomputable def un : Nat := bad.2.2.2.2.2.2.2.2.1
noncomputable def fr : Option (List Env) := bad.2.2.2.2.2.2.2.2.2.1
noncomputable def gd : Option (List Code) := bad.2.2.2.2.2.2.2.2.2.2.1
noncomputable def E : Value → Shared → Prop := bad.2.2.2.2.2.2.2.2.2.2.2.1
noncomputable def D : Nat := bad.2.2.2.2.2.2.2.2.2.2.2.2.1
noncomputable def l : Addr := bad.2.2.2.2.2.2.2.2.2.2.2.2.2.1
noncomputable def fa : Addr := bad.2.2.2.2.2.2.2.2.2.2.2.2.2.2.1
noncomputable def vs : List Value := bad.2.2.2.2.2.2.2.2.2.2.2.2.2.2.2.1
noncomputable def ys : List Str := bad.2.2.2.2.2.2.2.2.2.2.2.2.2.2.2.2.1
noncomputable def f : Str → Str → Str := bad.2.2.2.2.2.2.2.2.2.2.2.2.2.2.2.2.2.1
noncomputable def ok : Str → Str → Prop := bad.2.2.2.2.2.2.2.2.2.2.2.2.2.2.2.2.2.2.1
noncomputable def x : Str := bad.2.2.2.2.2.2.2.2.2.2.2.2.2.2.2.2.2.2.2.1
noncomputable def t : Tok := bad.2.2.2.2.2.2.2.2.2.2.2.2.2.2.2.2.2.2.2.2
theorem at_ (hf : Fn2 w p loose mean mg mb D fa f ok) (hfa : keepIn (hd.heap_39 w.params) (.ref fa) = true) (KX : (hd.heap_39 w.params).In s.heap) (T : Top p loose mean mg mb s.heap) (hroom : dp + (D + 1) < recursionLimit) (hl : s.heap.IsList l vs.toArray) (hys : StrsAre vs ys) (hok : ∀ i y, ys[i]? = some y → ok ((ys.take i).foldl f x) y) :
  wpAny (model PR w) (Ar dp un fr gd) (call (.ref 145) [.ref fa, .ref l, .str x t]) (Out s (IsS (ys.foldl f x))) E s := by
  (refine' enter (binds := [(Str.ofString "function", .ref fa), (Str.ofString "sequence", .ref l), (Str.ofString "initial", .str x t)]) KX T ?k6 ?k7 ?k8 ?k9 ?kB ?_ ?c2 ?c3 ?c4 ?c5; walk_at "My enter")
  k_steps
  (rename ItOf _ _ _ => hI0)
  (rename Fr _ _ _ _ => F1)
  (rename News _ _ _ _ => N1)
  refine for_list (l := l) (its := vs) (fun i m news => news = [] ∧ m (Str.ofString "function") = some (.ref fa) ∧ ∃ t, m (Str.ofString "value") = some (.str ((ys.take i).foldl f x) t)) rfl rfl rfl (.inl hl) F1 N1 hI0 (by simp) ⟨rfl, rfl, _, rfl⟩ ?_ ?_
  · rintro i v m₁ news₁ h tk it hv ⟨rfl, hm1, t1, hm2⟩ F2 N2 hn2
    obtain ⟨y, u, rfl, hy⟩ := hys.item i v hv
    have F3 := fr_pin (fr_pin F2 (x := Str.ofString "function") (v := .ref fa) (by with_unfolding_all exact hm1)) (x := Str.ofString "value") (v := .str ((ys.take i).foldl f x) t1) (by with_unfolding_all exact hm2)
    clear F1 N1 F2
    k_steps
    refine use_str (by k_asm) (by k_asm) (hf _ _ _ _ _ _ _ _ _ _ (by k_in) (Top.keeps T (Fr.keep (by k_asm))) (by walk_at "My room") (hok i y hy)) ?_
    intro t' h' tk' F' N'
    k_steps
    rename Fr _ _ _ _ => F4
    rename News _ _ _ _ => N4
    refine turn_end (news' := []) F4 N4 (by simp) (by simp) (by simp) ⟨rfl, by with_unfolding_all rfl, t', ?_⟩ (.inl rfl)
    have e : (ys.take (i + 1)).foldl f x = f ((ys.take i).foldl f x) y := by rw [List.take_add_one, hy]; simp
    rw [e]
    with_unfolding_all rfl
  · rintro m₁ news₁ h tk ⟨rfl, hm1, t1, hm2⟩ F2 N2
    have F3 := fr_pin F2 (x := Str.ofString "value") hm2
    clear F1 N1 F2
    k_steps
    dsimp only
    refine out_str F3 ?_
    rw [List.take_of_length_le (by rw [hys.len_eq]; exact Nat.le_refl _)]
end reduce_spec_c
theorem reduce_spec {w : World} {p : Program} {loose : List Str} {mean : ExcName → Option Value} {mg : Str → Option Value} {mb : Str → Option Value} {s : Shared} {dp : Nat} {un : Nat} {fr : Option (List Env)} {gd : Option (List Code)} {E : Value → Shared → Prop} {D : Nat} {l fa : Addr} {vs : List Value} {ys : List Str} {f : Str → Str → Str} {ok : Str → Str → Prop} {x : Str} {t : Tok} (hf : Fn2 w p loose mean mg mb D fa f ok) (hfa : keepIn (hd.heap_39 w.params) (.ref fa) = true)
    (KX : (hd.heap_39 w.params).In s.heap) (T : Top p loose mean mg mb s.heap) (hroom : dp + (D + 1) < recursionLimit) (hl : s.heap.IsList l vs.toArray) (hys : StrsAre vs ys)
    (hok : ∀ i y, ys[i]? = some y → ok ((ys.take i).foldl f x) y) :
    wpAny (model PR w) (Ar dp un fr gd) (call (.ref 145) [.ref fa, .ref l, .str x t]) (Out s (IsS (ys.foldl f x))) E s :=
  reduce_spec_c.fin reduce_spec_c.at_ (w, p, loose, mean, mg, mb, s, dp, un, fr, gd, E, D, l, fa, vs, ys, f, ok, x, t) hf hfa KX T hroom hl hys hok
end
section
section
variable {w : World} {p : Program} {loose : List Str} {mean : ExcName → Option Value} {mg mb : Str → Option Value} {s : Shared} {dp un : Nat} {fr : Option (List Env)} {gd : Option (List Code)} {E : Value → Shared → Prop}
theorem wp_of_peek2 {α : Type} {K : Frag} {M : Model} {A : Around} {E : Value → Shared → Prop} {Q : α → Shared → Prop} {s : Shared} {o : Obj} {r : Addr → α}
    (X : K.In s.heap) (q : Q (r s.heap.objs.size) { s with heap := s.heap.push o }) :
    ∀ (t : Sem α) (g : Addr → Option α), peek1 K ⟨M.prog, M.w.params⟩ t = some (o, g) → (∀ D, g D = some (r D)) → wpAny M A t Q E s := by
  intro t
  induction t with
  | rule _ k ih => intro g e hg Γ p hΓ; exact ih () g e hg Γ p hΓ
  | point _ k ih => intro g e hg Γ p hΓ; exact ih () g e hg Γ p hΓ
  | ask k ih => intro g e hg Γ p hΓ; exact ih _ g e hg Γ p hΓ
  | load a _ k ih =>
    intro g e hg Γ p hΓ
    simp only [peek1] at e
    split at e
    · rename_i ob ho; exact ⟨ob, X _ _ ho, ih ob g e hg Γ p hΓ⟩
    · cases e
  | alloc ob k _ =>
    intro g e hg
    have e : some (ob, fun D => peek K ⟨M.prog, M.w.params⟩ (k D)) = some (o, g) := e
    obtain ⟨e1, e2⟩ := Prod.mk.inj (Option.some.inj e)
    subst e1
    subst e2
    have X' : K.In (s.heap.push ob) := X.keeps fun b x hb => Heap.get?_push_of_some _ hb
    show wpAny M A (alloc ob >>= k) Q E s
    refine wpAny_bind (wpAny_alloc ?_)
    exact (Looks.of_peek (M := M) (h := s.heap.push ob) X' (hg s.heap.objs.size)).here (s := { s with heap := s.heap.push ob }) q
  | _ => intro g e; cases e
theorem enterStar {prog : Program} {w : World} {A : Around} {s : Shared} {K : Frag} {p : Program} {loose : List Str} {mean : ExcName → Option Value} {mg mb : Str → Option Value}
    {name qual : Str} {params : Arguments} {body : List Stmt} {scope : Scope} {dV kV doc pm cdv ct oc : Value} {an od : Option Addr} {osl : Array (Option Value)} {f : Addr} {args vs : List Value} {binds : Addr → List (Str × Value)} {g₁ : Addr → Option (List (Str × Value))}
    {Q : Value → Shared → Prop} {E : Value → Shared → Prop}
    (X : K.In s.heap) (T : Top p loose mean mg mb s.heap)
    (ho : K.lookup f = some ⟨oc, od, .func (fnOf name qual params body scope dV kV doc pm an cdv ct), osl⟩) (hcd : codeIn K cdv qual = true) (hroom : A.depth < recursionLimit)
    (hp : peek1 K ⟨prog, w.params⟩ (bindArgs (fnOf name qual params body scope dV kV doc pm an cdv ct) ⟨args, []⟩) = some (({ cls := .type "tuple", data := .seq vs.toArray } : Obj), g₁))
    (hg : ∀ D, g₁ D = some (binds D)) (hloc : ∀ D, ∀ y ∈ binds D, scope.names.lookup y.1 = some .local)
    (h : ∀ D L h₁, Fr s.heap L h₁ (fun y => (binds D).reverse.lookup y) → News s.heap L h₁ [(D, ({ cls := .type "tuple", data := .seq vs.toArray } : Obj))] →
      wpAny (model prog w) (A.deeper (envOf qual scope L f cdv)) (execs body (envOf qual scope L f cdv))
        (fun fl s' => Q (match fl with | .ret v => v | _ => .none) s') (fun _ _ => False)
        { s with heap := h₁, toks := s.toks + (binds D).length })
    (hco : scope.isCoroutine = false := by rfl) (hgen : scope.isGenerator = false := by rfl) (hk : scope.kind = .function := by rfl)
    (hcell : ∀ x ∈ scope.names, x.2 ≠ .cell := by decide) : wpAny (model prog w) A (call (.ref f) args) Q E s := by
  refine wpAny_call (codeAny_call_function (fd := fnOf name qual params body scope dV kV doc pm an cdv ct) (body := body) hroom (X _ _ ho) rfl hco hgen rfl (codeRec_of X hcd) ?_)
  refine wp_of_peek2 (o := ({ cls := .type "tuple", data := .seq vs.toArray } : Obj)) X (r := binds) ?_ _ g₁ hp hg
  have up : ∀ b o, s.heap.get? b = some o → (s.heap.push ({ cls := .type "tuple", data := .seq vs.toArray } : Obj)).get? b = some o := fun b o e => Heap.get?_push_of_some _ e
  refine wpAny_newFunctionEnv hcell (hloc _) (fun h₁ hns hsb => ⟨(T.nolimit.keeps up).fresh _ hsb, codeAny_func ?_⟩) hk
  have hk₁ : ∀ b o, (s.heap.push ({ cls := .type "tuple", data := .seq vs.toArray } : Obj)).get? b = some o → h₁.get? b = some o := fun b o e => hsb.extBut b o (Nat.ne_of_lt (Heap.lt_size e)) (Heap.get?_push_of_some _ e)
  refine wpAny_mono (h s.heap.objs.size _ h₁ ⟨hns, fun b o e => hk₁ b o (up b o e), ?_⟩ ?_) (fun _ _ x => x) fun _ _ x => x.elim
  · show s.heap.objs.size ≤ (s.heap.push _).objs.size
    rw [Heap.size_push]; exact Nat.le_succ _
  · intro q hq
    rw [List.mem_singleton.mp hq]
    refine ⟨hk₁ _ _ (Heap.get?_push_size _ rfl), ?_, Heap.get?_none_of_le (Nat.le_refl _)⟩
    show s.heap.objs.size ≠ (s.heap.push _).objs.size
    rw [Heap.size_push]; exact Nat.ne_of_lt (Nat.lt_succ_self _)

theorem enterC {prog : Program} {w : World} {A : Around} {s : Shared} {K : Frag} {p : Program} {loose : List Str} {mean : ExcName → Option Value} {mg mb : Str → Option Value}
    {name qual : Str} {params : Arguments} {body : List Stmt} {scope : Scope} {dV kV doc pm cdv ct oc : Value} {an od : Option Addr} {osl : Array (Option Value)} {f : Addr} {args : List Value} {binds : List (Str × Value)}
    {Q : Value → Shared → Prop} {E : Value → Shared → Prop}
    (X : K.In s.heap) (T : Top p loose mean mg mb s.heap)
    (ho : K.lookup f = some ⟨oc, od, .func (fnOf name qual params body scope dV kV doc pm an cdv ct), osl⟩) (hcd : codeIn K cdv qual = true) (hroom : A.depth < recursionLimit)
    (hbind : BindsTo s (fnOf name qual params body scope dV kV doc pm an cdv ct) ⟨args, []⟩ binds) (hkind : (binds.all fun y => scope.names.lookup y.1 == some .local || scope.names.lookup y.1 == some .cell) = true)
    (hnd : ((cellsFrom 0 scope.names []).map (·.1)).Nodup)
    (h : ∀ L h₁ tk cells, Fr s.heap L h₁ (bindL (envOfC qual scope L f cdv).kindOf binds fun _ => none) → News s.heap L h₁ cells →
      CellsAre (bindC (envOfC qual scope L f cdv).kindOf binds fun _ => none) (cellsFrom (L + 1) scope.names []) cells →
      wpAny (model prog w) (A.deeper (envOfC qual scope L f cdv)) (execs body (envOfC qual scope L f cdv))
        (fun fl s' => Q (match fl with | .ret v => v | _ => .none) s') (fun _ _ => False)
        { s with heap := h₁, toks := tk })
    (hco : scope.isCoroutine = false := by rfl) (hgen : scope.isGenerator = false := by rfl) (hk : scope.kind = .function := by rfl) : wpAny (model prog w) A (call (.ref f) args) Q E s := by
  refine wpAny_call (codeAny_call_function (fd := fnOf name qual params body scope dV kV doc pm an cdv ct) (body := body) hroom (X _ _ ho) rfl hco hgen rfl (codeRec_of X hcd) (hbind _ _ _ _ ?_))
  refine wpAny_newFunctionEnv_cells hk (kindsX hkind _) fun env' he s' x => ?_
  subst he
  refine ⟨T.nolimit.keeps x.toInCall.keep, codeAny_func ?_⟩
  obtain ⟨h₁, tk, rfl, _⟩ := x.done
  obtain ⟨cells, NC, Y⟩ := Cl.news (h₀ := s.heap) (Nat.le_refl _) fun n c hm => ⟨x.cell n c (lookup_of_mem_nodup (cellsFrom_names scope.names 0 (s.heap.objs.size + 1) [] [] rfl ▸ hnd) hm), x.above n c hm⟩
  exact wpAny_mono (h s.heap.objs.size h₁ tk cells ⟨x.toInCall.ns, x.toInCall.keep, Nat.le_refl _⟩ NC Y) (fun _ _ y => y) fun _ _ y => y.elim
end
end
section
section
variable {w : World} {p : Program} {loose : List Str} {mean : ExcName → Option Value} {mg mb : Str → Option Value} {s : Shared} {dp un : Nat} {fr : Option (List Env)} {gd : Option (List Code)} {E : Value → Shared → Prop}
noncomputable def joinF (x y : Str) : Str :=
  if (Txt.startswith y (Str.ofString "/")) = true then y
  else if ((x.length : Nat) : Int) = 0 then y
  else if Txt.endswith x (Str.ofString "/") = true then x ++ y
  else x ++ (Str.ofString "/" ++ y)
end
namespace join_spec_c
def Pz (w : World) (p : Program) (loose : List Str) (mean : ExcName → Option Value) (mg : Str → Option Value) (mb : Str → Option Value) (s : Shared) (dp : Nat) (un : Nat) (fr : Option (List Env)) (gd : Option (List Code)) (E : Value → Shared → Prop) (x : Str) (y : Str) (t : Tok) (u : Tok) : Prop := ∀ (KX : (hd.heap_39 w.params).In s.heap) (T : Top p loose mean mg mb s.heap) (hroom : dp + 6 < recursionLimit) (hx : x.length ≤ 90000) (hy : y.length ≤ 1000),
  wpAny (model PR w) (Ar dp un fr gd) (call (.ref 122) [.str x t, .str y u]) (Out s (IsS (joinF x y))) E s
abbrev Cx : Type := (World) × (Program) × (List Str) × (ExcName → Option Value) × (Str → Option Value) × (Str → Option Value) × (Shared) × (Nat) × (Nat) × (Option (List Env)) × (Option (List Code)) × (Value → Shared → Prop) × (Str) × (Str) × (Tok) × (Tok)
theorem ne : Nonempty Cx := ⟨(aWorld 0, default, [], (fun _ => none), (fun _ => none), (fun _ => none), ({} : Shared), (0 : Nat), (0 : Nat), none, none, (fun _ _ => True), Str.ofString "", Str.ofString "", default, default)⟩
@[irreducible] noncomputable def bad : Cx := @Classical.epsilon Cx ne fun c => ¬ Pz c.1 c.2.1 c.2.2.1 c.2.2.2.1 c.2.2.2.2.1 c.2.2.2.2.2.1 c.2.2.2.2.2.2.1 c.2.2.2.2.2.2.2.1 c.2.2.2.2.2.2.2.2.1 c.2.2.2.2.2.2.2.2.2.1 c.2.2.2.2.2.2.2.2.2.2.1 c.2.2.2.2.2.2.2.2.2.2.2.1 c.2.2.2.2.2.2.2.2.2.2.2.2.1 c.2.2.2.2.2.2.2.2.2.2.2.2.2.1 c.2.2.2.2.2.2.2.2.2.2.2.2.2.2.1 c.2.2.2.2.2.2.2.2.2.2.2.2.2.2.2
theorem fin (h : Pz bad.1 bad.2.1 bad.2.2.1 bad.2.2.2.1 bad.2.2.2.2.1 bad.2.2.2.2.2.1 bad.2.2.2.2.2.2.1 bad.2.2.2.2.2.2.2.1 bad.2.2.2.2.2.2.2.2.1 bad.2.2.2.2.2.2.2.2.2.1 bad.2.2.2.2.2.2.2.2.2.2.1 bad.2.2.2.2.2.2.2.2.2.2.2.1 bad.2.2.2.2.2.2.2.2.2.2.2.2.1 bad.2.2.2.2.2.2.2.2.2.2.2.2.2.1 bad.2.2.2.2.2.2.2.2.2.2.2.2.2.2.1 bad.2.2.2.2.2.2.2.2.2.2.2.2.2.2.2) (c : Cx) : Pz c.1 c.2.1 c.2.2.1 c.2.2.2.1 c.2.2.2.2.1 c.2.2.2.2.2.1 c.2.2.2.2.2.2.1 c.2.2.2.2.2.2.2.1 c.2.2.2.2.2.2.2.2.1 c.2.2.2.2.2.2.2.2.2.1 c.2.2.2.2.2.2.2.2.2.2.1 c.2.2.2.2.2.2.2.2.2.2.2.1 c.2.2.2.2.2.2.2.2.2.2.2.2.1 c.2.2.2.2.2.2.2.2.2.2.2.2.2.1 c.2.2.2.2.2.2.2.2.2.2.2.2.2.2.1 c.2.2.2.2.2.2.2.2.2.2.2.2.2.2.2 := by
  delta bad at h
  exact Classical.byContradiction fun q => (@Classical.epsilon_spec Cx (fun c => ¬ Pz c.1 c.2.1 c.2.2.1 c.2.2.2.1 c.2.2.2.2.1 c.2.2.2.2.2.1 c.2.2.2.2.2.2.1 c.2.2.2.2.2.2.2.1 c.2.2.2.2.2.2.2.2.1 c.2.2.2.2.2.2.2.2.2.1 c.2.2.2.2.2.2.2.2.2.2.1 c.2.2.2.2.2.2.2.2.2.2.2.1 c.2.2.2.2.2.2.2.2.2.2.2.2.1 c.2.2.2.2.2.2.2.2.2.2.2.2.2.1 c.2.2.2.2.2.2.2.2.2.2.2.2.2.2.1 c.2.2.2.2.2.2.2.2.2.2.2.2.2.2.2) ⟨c, q⟩) h
noncomputable def w : World := bad.1
noncomputable def p : Program := bad.2.1
noncomputable def loose : List Str := bad.2.2.1
noncomputable def mean : ExcName → Option Value := bad.2.2.2.1
noncomputable def mg : Str → Option Value := bad.2.2.2.2.1
noncomputable def mb : Str → Option Value := bad.2.2.2.2.2.1
noncomputable def s : Shared := bad.2.2.2.2.2.2.1
noncomputable def dp : Nat := bad.2.2.2.2.2.2.2.1
noncomputable def un : Nat := bad.2.2.2.2.2.2.2.2.1
noncomputable def fr : Option (List Env) := bad.2.2.2.2.2.2.2.2.2.1
noncomputable def gd : Option (List Code) := bad.2.2.2.2.2.2.2.2.2.2.1
noncomputable def E : Value → Shared → Prop := bad.2.2.2.2.2.2.2.2.2.2.2.1
noncomputable def x : Str := bad.2.2.2.2.2.2.2.2.2.2.2.2.1
noncomputable def y : Str := bad.2.2.2.2.2.2.2.2.2.2.2.2.2.1
noncomputable def t : Tok := bad.2.2.2.2.2.2.2.2.2.2.2.2.2.2.1
noncomputable def u : Tok := bad.2.2.2.2.2.2.2.2.2.2.2.2.2.2.2
theorem at_ (KX : (hd.heap_39 w.params).In s.heap) (T : Top p loose mean mg mb s.heap) (hroom : dp + 6 < recursionLimit) (hx : x.length ≤ 90000) (hy : y.length ≤ 1000) :
  wpAny (model PR w) (Ar dp un fr gd) (call (.ref 122) [.str x t, .str y u]) (Out s (IsS (joinF x y))) E s := by
  (refine' enterStar (vs := [.str y u]) (binds := fun D => [(Str.ofString "a", .str x t), (Str.ofString "p", .ref D)]) KX T ?k6 ?k7 ?k8 ?kP ?kG ?kB ?_ ?c2 ?c3 ?c4 ?c5; (case k6 => k_is); (case k7 => k_is); (case k8 => walk_at "My room"); (case kP => exact rfl); (case kG => exact fun _ => rfl); (case kB => exact fun _ => locs rfl); (case c5 => decide); (case c2 => exact rfl); (case c3 => exact rfl); (case c4 => exact rfl); intro D L h₁ F N; (try dsimp only))
  k_steps
  all_goals ((try dsimp only); refine out_str (by k_asm) ?_; simp only [joinF, *, if_true, Bool.false_eq_true, if_false, ite_self])
end join_spec_c
theorem join_spec {w : World} {p : Program} {loose : List Str} {mean : ExcName → Option Value} {mg : Str → Option Value} {mb : Str → Option Value} {s : Shared} {dp : Nat} {un : Nat} {fr : Option (List Env)} {gd : Option (List Code)} {E : Value → Shared → Prop} {x y : Str} {t u : Tok} (KX : (hd.heap_39 w.params).In s.heap) (T : Top p loose mean mg mb s.heap) (hroom : dp + 6 < recursionLimit) (hx : x.length ≤ 90000) (hy : y.length ≤ 1000) :
    wpAny (model PR w) (Ar dp un fr gd) (call (.ref 122) [.str x t, .str y u]) (Out s (IsS (joinF x y))) E s :=
  join_spec_c.fin join_spec_c.at_ (w, p, loose, mean, mg, mb, s, dp, un, fr, gd, E, x, y, t, u) KX T hroom hx hy
end
section
local macro_rules | `(tactic| walk_at "call ref") => `(tactic| (refine' use_bool ?F ?N (isabs_spec ?X ?T ?r ?l) ?_; walk_at "My use"; intro h' tk' F' N'; (try k_sweep)))
section
variable {w : World} {p : Program} {loose : List Str} {mean : ExcName → Option Value} {mg mb : Str → Option Value} {s : Shared} {dp un : Nat} {fr : Option (List Env)} {gd : Option (List Code)} {E : Value → Shared → Prop}
theorem strip_len (x : Str) : (stripF x).length ≤ x.length := by
  unfold stripF
  have h1 := Txt.slice_le x (some 1) none
  have h2 := Txt.slice_le x none (some (-1))
  have h3 := Txt.slice_le (Txt.slice x (some 1) none) none (some (-1))
  repeat' split
  all_goals omega
theorem act_len (x y : Str) : (actF x y).length ≤ x.length + 2 := by
  unfold actF
  have h1 := strip_len x
  have e : (Str.ofString "\"").length = 1 := by decide
  repeat' split
  · rw [Str.length_append, Str.length_append, e]; omega
  · omega
  · omega
theorem acts_len : ∀ (ys : List Str) (x : Str), (ys.foldl actF x).length ≤ x.length + 2 * ys.length
  | [], x => by simp
  | y :: r, x => by
    have h1 := act_len x y
    have h2 := acts_len r (actF x y)
    simp only [List.foldl_cons, List.length_cons]; omega
noncomputable def runF (x y : Str) : Str :=
  (Txt.split y (Str.ofString "/")).foldl actF (if Txt.startswith y (Str.ofString "/") = true then Str.ofString "x" else x)
theorem run_len (x y : Str) (hx : 1 ≤ x.length ∨ True) : (runF x y).length ≤ x.length + 1 + 2 * (y.length + 2) := by
  unfold runF
  have h1 := acts_len (Txt.split y (Str.ofString "/")) (if Txt.startswith y (Str.ofString "/") = true then Str.ofString "x" else x)
  have h2 := split_le y (Str.ofString "/")
  have h3 : (if Txt.startswith y (Str.ofString "/") = true then Str.ofString "x" else x).length ≤ x.length + 1 := by
    split
    · have e : (Str.ofString "x").length = 1 := by decide
      omega
    · omega
  omega
theorem act_fn2 : Fn2 w p loose mean mg mb 6 164 actF (fun x y => x.length ≤ 90000 ∧ y.length ≤ 1000) :=
  fun _ _ _ _ _ _ _ _ _ _ KX T hr hok => act_spec KX T hr hok.1 hok.2
theorem acts_ok {ys : List Str} {x : Str} (hx : x.length ≤ 80000) (hn : ys.length ≤ 1002) (hy : ∀ y ∈ ys, y.length ≤ 1000) (i : Nat) (y : Str) (e : ys[i]? = some y) : ((ys.take i).foldl actF x).length ≤ 90000 ∧ y.length ≤ 1000 := by
  refine ⟨?_, hy y (List.mem_of_getElem? e)⟩
  have h1 := acts_len (ys.take i) x
  have h2 : (ys.take i).length ≤ ys.length := by rw [List.length_take]; omega
  omega
theorem run_spec {x y : Str} {t u : Tok} (KX : (hd.heap_39 w.params).In s.heap) (T : Top p loose mean mg mb s.heap) (hroom : dp + 12 < recursionLimit) (hx : x.length ≤ 80000) (hy : y.length ≤ 1000) :
    wpAny (model PR w) (Ar dp un fr gd) (call (.ref 171) [.str x t, .str y u]) (Out s (IsS (runF x y))) E s := by
  (refine' enter (binds := [(Str.ofString "text", .str x t), (Str.ofString "path", .str y u)]) KX T ?k6 ?k7 ?k8 ?k9 ?kB ?_ ?c2 ?c3 ?c4 ?c5; walk_at "My enter")
  k_steps
  all_goals
    rename StrsAre _ _ => hs
    rename ∀ a, a ∈ List.map _ _ → Str.length a ≤ _ => hle
    rename List.map _ _ = Txt.split _ _ => hsp
    rename Fr _ _ _ _ => F1
    rename News _ _ _ _ => N1
    have hlen := split_le y (Str.ofString "/")
    rw [hsp] at hs hle
    have ex : (Str.ofString "x").length = 1 := by decide
    refine use_str F1 N1 (reduce_spec (D := 6) act_fn2 (by k_is) (by k_in) (Top.keeps T F1.keep) (by walk_at "My room") (News.isList N1 (.head _)) hs (acts_ok (by omega) (by omega) (fun z hz => Nat.le_trans (hle z hz) hy))) ?_
    intro t' h' tk' F' N'
    refine out_str F' ?_
    simp only [runF, *, if_true, Bool.false_eq_true, if_false]
end
end
section
section
variable {w : World} {p : Program} {loose : List Str} {mean : ExcName → Option Value} {mg mb : Str → Option Value} {s : Shared} {dp un : Nat} {fr : Option (List Env)} {gd : Option (List Code)} {E : Value → Shared → Prop}
section
variable {prog : Program} {A : Around} {s : Shared} {h₀ : Heap} {L l : Addr} {m : Str → Option Value} {news news' : List (Addr × Obj)} {n : Nat} {vi : List Value} {v : Value}
theorem my_truthy_nil {Q : Bool → Shared → Prop} (N : News h₀ L s.heap news) (hm : (l, W.listOf ([] : List Value).toArray n) ∈ news) (h : ∀ tk, Q false { s with toks := tk }) : wpAny (model prog w) A (truthy (.ref l)) Q E s :=
  wpAny_truthy_list (News.isList N hm) (by decide) (h _)
theorem my_truthy_snoc {Q : Bool → Shared → Prop} (N : News h₀ L s.heap news) (hm : (l, W.listOf (vi ++ [v]).toArray n) ∈ news) (hz : vi.length ≤ 1000000) (h : ∀ tk, Q true { s with toks := tk }) : wpAny (model prog w) A (truthy (.ref l)) Q E s := by
  refine wpAny_truthy_list (News.isList N hm) (by rw [List.size_toArray, List.length_append]; simp only [List.length_cons, List.length_nil]; omega) ?_
  have e : (!(vi ++ [v]).toArray.isEmpty) = true := by simp
  rw [e]; exact h _
theorem my_last {value slice : PySem.Expr} {u : Tok} {Q : Value → Shared → Prop} (N : News h₀ L s.heap news) (hm : (l, W.listOf (vi ++ [v]).toArray n) ∈ news) (h : Q v s)
    (hs : subscripted slice false (.ref l) (.int (-1) u) = operate [.ref l, .int (-1) u] (getItem (.ref l) (.int (-1) u)) := by with_unfolding_all rfl) (hg : ∀ r, letTemporaryGo value (.ref l) r = pure () := by intro _; with_unfolding_all rfl) :
    wpAny (model prog w) A (subscriptTail value slice (.ref l) (.int (-1) u)) Q E s :=
  subscriptTail_builtin (News.isList N hm).typeIs slot_list_getitem.lookup (wpAny_getItem_list_neg (News.isList N hm) (by decide) (by simp; omega) (by decide) (by
    have e : ((-1 : Int) + ((vi ++ [v]).toArray.size : Int)).toNat = vi.length := by simp; omega
    rw [e]; simp) h) hs hg
theorem my_pop {Q : Value → Shared → Prop} (F : Fr h₀ L s.heap m) (N : News h₀ L s.heap news) (U : Upd l (W.listOf (vi ++ [v]).toArray n) (W.listOf vi.toArray (n + 1)) news news') (hz : vi.length ≤ 1000000)
    (h : ∀ h', Fr h₀ L h' m → News h₀ L h' news' → Q v { s with heap := h' }) : wpAny (model prog w) A (call (.builtin "list.pop") [.ref l]) Q E s :=
  kl_pop F N (p := vi) (y := v) (kpa_last v vi) U (by simp [sizeLine_eq]; omega) h
theorem my_append {Q : Value → Shared → Prop} {cs : List Value} (F : Fr h₀ L s.heap m) (N : News h₀ L s.heap news) (U : Upd l (W.listOf cs.toArray n) (W.listOf (cs ++ [v]).toArray (n + 1)) news news') (hz : cs.length ≤ 1000000)
    (h : ∀ h', Fr h₀ L h' m → News h₀ L h' news' → Q .none { s with heap := h' }) : wpAny (model prog w) A (call (.builtin "list.append") [.ref l, v]) Q E s :=
  append_K F N (by have e : (cs ++ [v]).toArray = cs.toArray.push v := by simp
                   rw [e] at U; exact U) h (by rw [List.size_toArray, sizeLine_eq]; omega)
theorem snoc_cases {vs : List Value} {ys : List Str} (h : StrsAre vs ys) : (vs = [] ∧ ys = []) ∨ ∃ vi yi y t, vs = vi ++ [.str y t] ∧ ys = yi ++ [y] ∧ StrsAre vi yi := by
  induction h with
  | nil => exact .inl ⟨rfl, rfl⟩
  | cons a u h ih =>
    rcases ih with ⟨rfl, rfl⟩ | ⟨vi, yi, y, t, rfl, rfl, hi⟩
    · exact .inr ⟨[], [], a, u, rfl, rfl, .nil⟩
    · exact .inr ⟨.str a u :: vi, a :: yi, y, t, rfl, rfl, .cons a u hi⟩
end
end
end
section
section
variable {w : World} {p : Program} {loose : List Str} {mean : ExcName → Option Value} {mg mb : Str → Option Value} {s : Shared} {dp un : Nat} {fr : Option (List Env)} {gd : Option (List Code)} {E : Value → Shared → Prop}
theorem use_tup3 {M : Model} {A : Around} {E : Value → Shared → Prop} {s : Shared} {t : Sem Value} {x y z : Str} {Q : Value → Shared → Prop} {h₀ : Heap} {L : Addr} {m : Str → Option Value} {news : List (Addr × Obj)}
    (F : Fr h₀ L s.heap m) (N : News h₀ L s.heap news) (h : wpAny M A t (Out s (IsTup3 s x y z)) E s)
    (k : ∀ a t1 t2 t3 h' tk, Fr h₀ L h' m → News h₀ L h' ((a, ({ cls := .type "tuple", data := .seq [Value.str x t1, .str y t2, .str z t3].toArray } : Obj)) :: news) → AllNe a news → Q (.ref a) { s with heap := h', toks := tk }) : wpAny M A t Q E s :=
  use_spec F N h fun v h' tk hv F' N' => by
    obtain ⟨a, t1, t2, t3, rfl, ha, hf⟩ := hv
    exact k a t1 t2 t3 h' tk F' (news_new F N N' ha hf).1 (news_new F N N' ha hf).2
end
local macro_rules | `(tactic| walk_at "call ref") => `(tactic| (refine' use_tup3 ?F ?N (splitroot_spec ?X ?T ?r ?l) ?_; walk_at "My use"; intro a' t1' t2' t3' h' tk' F' N' l1'; (try k_sweep); simp only [AllNe, and_true] at l1'))
local macro_rules | `(tactic| walk_at "exec For Name Name cons nil") => `(tactic| k_dflt (refine wpAny_For ?_))
section
variable {w : World} {p : Program} {loose : List Str} {mean : ExcName → Option Value} {mg mb : Str → Option Value} {s : Shared} {dp un : Nat} {fr : Option (List Env)} {gd : Option (List Code)} {E : Value → Shared → Prop}
theorem splitF_len (x : Str) : (splitF x).2.length ≤ x.length ∧ (splitF x).1.length ≤ 1 + x.length := by
  unfold splitF
  have h1 := Txt.slice_le x (some 1) none
  have h2 := Txt.slice_le x none (some 2)
  have h3 := Txt.slice_le x (some 2) none
  have e1 : (Str.ofString "/").length = 1 := by decide
  have e2 : (Str.ofString "").length = 0 := by decide
  repeat' split
  all_goals (dsimp only; omega)
theorem ne3 {a b c I : Nat} {A B C : Obj} (h : a ≠ I ∧ b ≠ I ∧ c ≠ I) : ∀ q ∈ [((a : Addr), A), (b, B), (c, C)], q.1 ≠ I := by
  intro q hq
  simp only [List.mem_cons, List.not_mem_nil, or_false] at hq
  rcases hq with rfl | rfl | rfl
  · exact h.1
  · exact h.2.1
  · exact h.2.2
noncomputable def stepN (r : Str) (st : List Str) (c : Str) : List Str :=
  if ((c.length : Nat) : Int) = 0 then st
  else if (c == Str.ofString ".") = true then st
  else if (c != Str.ofString "..") = true then st ++ [c]
  else match st.getLast? with
    | none => if ((r.length : Nat) : Int) = 0 then st ++ [c] else st
    | some z => if (z == Str.ofString "..") = true then st ++ [c] else st.dropLast
noncomputable def normF (x : Str) : Str :=
  if ((x.length : Nat) : Int) = 0 then Str.ofString "."
  else if (((splitF x).1 ++ Txt.join (Str.ofString "/") ((Txt.split (splitF x).2 (Str.ofString "/")).foldl (stepN (splitF x).1) [])).length : Int) = 0 then Str.ofString "."
  else (splitF x).1 ++ Txt.join (Str.ofString "/") ((Txt.split (splitF x).2 (Str.ofString "/")).foldl (stepN (splitF x).1) [])
theorem stepN_mem (r : Str) (st : List Str) (c z : Str) (h : z ∈ stepN r st c) : z ∈ st ∨ z = c := by
  unfold stepN at h
  repeat' split at h
  all_goals first
    | exact .inl h
    | (rcases List.mem_append.mp h with h | h; exact .inl h; exact .inr (by simpa using h))
    | exact .inl (List.dropLast_subset _ h)
theorem stepN_len (r : Str) (st : List Str) (c : Str) : (stepN r st c).length ≤ st.length + 1 := by
  unfold stepN
  repeat' split
  all_goals (try simp only [List.length_append, List.length_cons, List.length_nil, List.length_dropLast])
  all_goals omega
theorem steps_mem (r : Str) : ∀ (l st : List Str) (z : Str), z ∈ l.foldl (stepN r) st → z ∈ st ∨ z ∈ l
  | [], _, _, h => .inl h
  | c :: l, st, z, h => by
    rcases steps_mem r l (stepN r st c) z h with h | h
    · rcases stepN_mem r st c z h with h | h
      · exact .inl h
      · exact .inr (h ▸ .head _)
    · exact .inr (.tail _ h)
theorem steps_len (r : Str) : ∀ (l st : List Str), (l.foldl (stepN r) st).length ≤ st.length + l.length
  | [], _ => Nat.le_refl _
  | c :: l, st => by
    have h1 := steps_len r l (stepN r st c)
    have h2 := stepN_len r st c
    simp only [List.foldl_cons, List.length_cons]; omega
theorem sum_bound (B : Nat) : ∀ (l : List Str), (∀ z ∈ l, z.length ≤ B) → (l.map (·.length)).sum ≤ l.length * B
  | [], _ => by simp
  | z :: l, h => by
    have h1 := sum_bound B l fun q hq => h q (.tail _ hq)
    have h2 := h z (.head _)
    simp only [List.map_cons, List.sum_cons, List.length_cons, Nat.add_mul, Nat.one_mul]; omega
theorem join_len (l : List Str) : (Txt.join (Str.ofString "/") l).length ≤ (l.map (·.length)).sum + l.length := by
  have h := StrLaws.join_length_le (Str.ofString "/") l
  have e : (Str.ofString "/").length = 1 := by decide
  rw [e, Nat.mul_one] at h
  have e2 : Txt.join (Str.ofString "/") l = Str.join (Str.ofString "/") l := StrLaws.glued_eq_join _ _
  rw [e2]
  exact h
end
local macro_rules | `(tactic| walk_at "truthy ref") => `(tactic| k_dflt (first | (refine' my_truthy_nil ?N ?m ?_; (case N => k_asm); (case m => k_mem); k_whole; intro tk') | (refine' my_truthy_snoc ?N ?m ?z ?_; (case N => k_asm); (case m => k_mem); (case z => omega); k_whole; intro tk')))
local macro_rules | `(tactic| walk_at "subscriptTail Name UnaryOp ref int") => `(tactic| k_dflt (refine' my_last ?N ?m ?_; (case N => k_asm); (case m => k_mem); k_whole))
local macro_rules | `(tactic| walk_at "call builtin:list.pop") => `(tactic| k_dflt (refine' my_pop ?F ?N ?U ?z ?_; walk_at "My fn"; (case U => k_upd); (case z => omega); k_whole; intro h' F' N'; (try k_sweep)))
local macro_rules | `(tactic| walk_at "call builtin:list.append") => `(tactic| k_dflt (refine' my_append ?F ?N ?U ?z ?_; walk_at "My fn"; (case U => k_upd); (case z => omega); k_whole; intro h' F' N'; (try k_sweep)))
section
variable {w : World} {p : Program} {loose : List Str} {mean : ExcName → Option Value} {mg mb : Str → Option Value} {s : Shared} {dp un : Nat} {fr : Option (List Env)} {gd : Option (List Code)} {E : Value → Shared → Prop}
noncomputable def nmFd (w : World) : Option FuncData := ((hd.heap_39 w.params).lookup 136).bind fun o => match o.data with | .func fd => some fd | _ => none
noncomputable def nmBody (w : World) : List Stmt := match nmFd w with | some fd => (match fd.body with | .stmts b => (match b.getD 6 (.Pass default) with | .For _ _ b _ _ => b | _ => []) | _ => []) | none => []
noncomputable def nmScope (w : World) : Scope := match nmFd w with | some fd => fd.scope | none => default
noncomputable def nmEnv (w : World) (L : Addr) : Env := envOf (Str.ofString "normpath") (nmScope w) L 136 (.ref 135)
abbrev NormJ (r : Str) (ys : List Str) (lN lc aT : Addr) (oc : Obj) (i : Nat) (m : Str → Option Value) (news : List (Addr × Obj)) : Prop :=
  ∃ cs n oa, news = [(lN, W.listOf (List.toArray cs) n), (lc, oc), (aT, oa)] ∧ StrsAre cs ((ys.take i).foldl (stepN r) []) ∧ cs.length ≤ i ∧
    m (Str.ofString "new_comps") = some (.ref lN) ∧ (∃ tt, m (Str.ofString "initial_slashes") = some (.str r tt)) ∧ (∃ tt, m (Str.ofString "sep") = some (.str (Str.ofString "/") tt)) ∧ (∃ tt, m (Str.ofString "dot") = some (.str (Str.ofString ".") tt)) ∧ ∃ tt, m (Str.ofString "dotdot") = some (.str (Str.ofString "..") tt)
end
namespace norm_body_c
def Pz (w : World) (p : Program) (loose : List Str) (mean : ExcName → Option Value) (mg : Str → Option Value) (mb : Str → Option Value) (s : Shared) (dp : Nat) (un : Nat) (fr : Option (List Env)) (gd : Option (List Code)) (E : Value → Shared → Prop) (s₂ : Shared) (r : Str) (y : Str) (u : Tok) (ys : List Str) (L : Addr) (lN : Addr) (lc : Addr) (aT : Addr) (I : Addr) (oc : Obj) (oa : Obj) (it : Obj) (i : Nat) (n : Nat) (tk : Nat) (m₁ : Str → Option Value) (h : Heap) (ti : Tok) (ts : Tok) (td : Tok) (tdd : Tok) : Prop := ∀ (cs : List Value) (KX : (hd.heap_39 w.params).In s.heap) (T : Top p loose mean mg mb s.heap) (hroom : dp + 12 < recursionLimit) (hcs : StrsAre cs ((ys.take i).foldl (stepN r) [])) (hci : cs.length ≤ i) (hm1 : m₁ (Str.ofString "new_comps") = some (.ref lN)) (hm2 : m₁ (Str.ofString "initial_slashes") = some (.str r ti)) (hm3 : m₁ (Str.ofString "sep") = some (.str (Str.ofString "/") ts)) (hm4 : m₁ (Str.ofString "dot") = some (.str (Str.ofString ".") td)) (hm5 : m₁ (Str.ofString "dotdot") = some (.str (Str.ofString "..") tdd)) (hy : ys[i]? = some y) (hyl : y.length ≤ 100000) (hil : i < 100000) (hlt : @LT.lt Nat _ lc lN ∧ @LT.lt Nat _ aT lN) (hr : r.length ≤ 2000) (F2 : Fr s.heap L h (fun z => if z = Str.ofString "comp" then some (.str y u) else m₁ z)) (N2 : News s.heap L h ((I, it) :: [(lN, W.listOf (List.toArray cs) n), (lc, oc), (aT, oa)])) (hn2 : AllNe I [(lN, W.listOf (List.toArray cs) n), (lc, oc), (aT, oa)]),
  wpAny (model PR w) ((Ar dp un fr gd).deeper (nmEnv w L)) (execs (nmBody w) (nmEnv w L)) (TurnEnd s₂ s.heap L I it (NormJ r ys lN lc aT oc (i + 1))) (fun _ _ => False) { s₂ with heap := h, toks := tk }
abbrev Cx : Type := (World) × (Program) × (List Str) × (ExcName → Option Value) × (Str → Option Value) × (Str → Option Value) × (Shared) × (Nat) × (Nat) × (Option (List Env)) × (Option (List Code)) × (Value → Shared → Prop) × (Shared) × (Str) × (Str) × (Tok) × (List Str) × (Addr) × (Addr) × (Addr) × (Addr) × (Addr) × (Obj) × (Obj) × (Obj) × (Nat) × (Nat) × (Nat) × (Str → Option Value) × (Heap) × (Tok) × (Tok) × (Tok) × (Tok)
theorem ne : Nonempty Cx := ⟨(aWorld 0, default, [], (fun _ => none), (fun _ => none), (fun _ => none), ({} : Shared), (0 : Nat), (0 : Nat), none, none, (fun _ _ => True), ({} : Shared), Str.ofString "", Str.ofString "", default, [], (0 : Nat), (0 : Nat), (0 : Nat), (0 : Nat), (0 : Nat), default, default, default, (0 : Nat), (0 : Nat), (0 : Nat), (fun _ => none), ({} : Heap), default, default, default, default)⟩
@[irreducible] noncomputable def bad : Cx := @Classical.epsilon Cx ne fun c => ¬ Pz c.1 c.2.1 c.2.2.1 c.2.2.2.1 c.2.2.2.2.1 c.2.2.2.2.2.1 c.2.2.2.2.2.2.1 c.2.2.2.2.2.2.2.1 c.2.2.2.2.2.2.2.2.1 c.2.2.2.2.2.2.2.2.2.1 c.2.2.2.2.2.2.2.2.2.2.1 c.2.2.2.2.2.2.2.2.2.2.2.1 c.2.2.2.2.2.2.2.2.2.2.2.2.1 c.2.2.2.2.2.2.2.2.2.2.2.2.2.1 c.2.2.2.2.2.2.2.2.2.2.2.2.2.2.1 c.2.2.2.2.2.2.2.2.2.2.2.2.2.2.2.1 c.2.2.2.2.2.2.2.2.2.2.2.2.2.2.2.2.1 c.2.2.2.2.2.2.2.2.2.2.2.2.2.2.2.2.2.1 c.2.2.2.2.2.2.2.2.2.2.2.2.2.2.2.2.2.2.1 c.2.2.2.2.2.2.2.2.2.2.2.2.2.2.2.2.2.2.2.1 c.2.2.2.2.2.2.2.2.2.2.2.2.2.2.2.2.2.2.2.2.1 c.2.2.2.2.2.2.2.2.2.2.2.2.2.2.2.2.2.2.2.2.2.1 c.2.2.2.2.2.2.2.2.2.2.2.2.2.2.2.2.2.2.2.2.2.2.1 c.2.2.2.2.2.2.2.2.2.2.2.2.2.2.2.2.2.2.2.2.2.2.2.1 c.2.2.2.2.2.2.2.2.2.2.2.2.2.2.2.2.2.2.2.2.2.2.2.2.1 c.2.2.2.2.2.2.2.2.2.2.2.2.2.2.2.2.2.2.2.2.2.2.2.2.2.1 c.2.2.2.2.2.2.2.2.2.2.2.2.2.2.2.2.2.2.2.2.2.2.2.2.2.2.1 c.2.2.2.2.2.2.2.2.2.2.2.2.2.2.2.2.2.2.2.2.2.2.2.2.2.2.2.1 c.2.2.2.2.2.2.2.2.2.2.2.2.2.2.2.2.2.2.2.2.2.2.2.2.2.2.2.2.1 c.2.2.2.2.2.2.2.2.2.2.2.2.2.2.2.2.2.2.2.2.2.2.2.2.2.2.2.2.2.1 c.2.2.2.2.2.2.2.2.2.2.2.2.2.2.2.2.2.2.2.2.2.2.2.2.2.2.2.2.2.2.1 c.2.2.2.2.2.2.2.2.2.2.2.2.2.2.2.2.2.2.2.2.2.2.2.2.2.2.2.2.2.2.2.1 c.2.2.2.2.2.2.2.2.2.2.2.2.2.2.2.2.2.2.2.2.2.2.2.2.2.2.2.2.2.2.2.2.1 c.2.2.2.2.2.2.2.2.2.2.2.2.2.2.2.2.2.2.2.2.2.2.2.2.2.2.2.2.2.2.2.2.2
theorem fin (h : Pz bad.1 bad.2.1 bad.2.2.1 bad.2.2.2.1 bad.2.2.2.2.1 bad.2.2.2.2.2.1 bad.2.2.2.2.2.2.1 bad.2.2.2.2.2.2.2.1 bad.2.2.2.2.2.2.2.2.1 bad.2.2.2.2.2.2.2.2.2.1 bad.2.2.2.2.2.2.2.2.2.2.1 bad.2.2.2.2.2.2.2.2.2.2.2.1 bad.2.2.2.2.2.2.2.2.2.2.2.2.1 bad.2.2.2.2.2.2.2.2.2.2.2.2.2.1 bad.2.2.2.2.2.2.2.2.2.2.2.2.2.2.1 bad.2.2.2.2.2.2.2.2.2.2.2.2.2.2.2.1 bad.2.2.2.2.2.2.2.2.2.2.2.2.2.2.2.2.1 bad.2.2.2.2.2.2.2.2.2.2.2.2.2.2.2.2.2.1 bad.2.2.2.2.2.2.2.2.2.2.2.2.2.2.2.2.2.2.1 bad.2.2.2.2.2.2.2.2.2.2.2.2.2.2.2.2.2.2.2.1 bad.2.2.2.2.2.2.2.2.2.2.2.2.2.2.2.2.2.2.2.2.1 bad.2.2.2.2.2.2.2.2.2.2.2.2.2.2.2.2.2.2.2.2.2.1 bad.2.2.2.2.2.2.2.2.2.2.2.2.2.2.2.2.2.2.2.2.2.2.1 bad.2.2.2.2.2.2.2.2.2.2.2.2.2.2.2.2.2.2.2.2.2.2.2.1 bad.2.2.2.2.2.2.2.2.2.2.2.2.2.2.2.2.2.2.2.2.2.2.2.2.1 bad.2.2.2.2.2.2.2.2.2.2.2.2.2.2.2.2.2.2.2.2.2.2.2.2.2.1 bad.2.2.2.2.2.2.2.2.2.2.2.2.2.2.2.2.2.2.2.2.2.2.2.2.2.2.1 bad.2.2.2.2.2.2.2.2.2.2.2.2.2.2.2.2.2.2.2.2.2.2.2.2.2.2.2.1 bad.2.2.2.2.2.2.2.2.2.2.2.2.2.2.2.2.2.2.2.2.2.2.2.2.2.2.2.2.1 bad.2.2.2.2.2.2.2.2.2.2.2.2.2.2.2.2.2.2.2.2.2.2.2.2.2.2.2.2.2.1 bad.2.2.2.2.2.2.2.2.2.2.2.2.2.2.2.2.2.2.2.2.2.2.2.2.2.2.2.2.2.2.1 bad.2.2.2.2.2.2.2.2.2.2.2.2.2.2.2.2.2.2.2.2.2.2.2.2.2.2.2.2.2.2.2.1 bad.2.2.2.2.2.2.2.2.2.2.2.2.2.2.2.2.2.2.2.2.2.2.2.2.2.2.2.2.2.2.2.2.1 bad.2.2.2.2.2.2.2.2.2.2.2.2.2.2.2.2.2.2.2.2.2.2.2.2.2.2.2.2.2.2.2.2.2) (c : Cx) : Pz c.1 c.2.1 c.2.2.1 c.2.2.2.1 c.2.2.2.2.1 c.2.2.2.2.2.1 c.2.2.2.2.2.2.1 c.2.2.2.2.2.2.2.1 c.2.2.2.2.2.2.2.2.1 c.2.2.2.2.2.2.2.2.2.1 c.2.2.2.2.2.2.2.2.2.2.1 c.2.2.2.2.2.2.2.2.2.2.2.1 c.2.2.2.2.2.2.2.2.2.2.2.2.1 c.2.2.2.2.2.2.2.2.2.2.2.2.2.1 c.2.2.2.2.2.2.2.2.2.2.2.2.2.2.1 c.2.2.2.2.2.2.2.2.2.2.2.2.2.2.2.1 c.2.2.2.2.2.2.2.2.2.2.2.2.2.2.2.2.1 c.2.2.2.2.2.2.2.2.2.2.2.2.2.2.2.2.2.1 c.2.2.2.2.2.2.2.2.2.2.2.2.2.2.2.2.2.2.1 c.2.2.2.2.2.2.2.2.2.2.2.2.2.2.2.2.2.2.2.1 c.2.2.2.2.2.2.2.2.2.2.2.2.2.2.2.2.2.2.2.2.1 c.2.2.2.2.2.2.2.2.2.2.2.2.2.2.2.2.2.2.2.2.2.1 c.2.2.2.2.2.2.2.2.2.2.2.2.2.2.2.2.2.2.2.2.2.2.1 c.2.2.2.2.2.2.2.2.2.2.2.2.2.2.2.2.2.2.2.2.2.2.2.1 c.2.2.2.2.2.2.2.2.2.2.2.2.2.2.2.2.2.2.2.2.2.2.2.2.1 c.2.2.2.2.2.2.2.2.2.2.2.2.2.2.2.2.2.2.2.2.2.2.2.2.2.1 c.2.2.2.2.2.2.2.2.2.2.2.2.2.2.2.2.2.2.2.2.2.2.2.2.2.2.1 c.2.2.2.2.2.2.2.2.2.2.2.2.2.2.2.2.2.2.2.2.2.2.2.2.2.2.2.1 c.2.2.2.2.2.2.2.2.2.2.2.2.2.2.2.2.2.2.2.2.2.2.2.2.2.2.2.2.1 c.2.2.2.2.2.2.2.2.2.2.2.2.2.2.2.2.2.2.2.2.2.2.2.2.2.2.2.2.2.1 c.2.2.2.2.2.2.2.2.2.2.2.2.2.2.2.2.2.2.2.2.2.2.2.2.2.2.2.2.2.2.1 c.2.2.2.2.2.2.2.2.2.2.2.2.2.2.2.2.2.2.2.2.2.2.2.2.2.2.2.2.2.2.2.1 c.2.2.2.2.2.2.2.2.2.2.2.2.2.2.2.2.2.2.2.2.2.2.2.2.2.2.2.2.2.2.2.2.1 c.2.2.2.2.2.2.2.2.2.2.2.2.2.2.2.2.2.2.2.2.2.2.2.2.2.2.2.2.2.2.2.2.2 := by
  delta bad at h
  exact Classical.byContradiction fun q => (@Classical.epsilon_spec Cx (fun c => ¬ Pz c.1 c.2.1 c.2.2.1 c.2.2.2.1 c.2.2.2.2.1 c.2.2.2.2.2.1 c.2.2.2.2.2.2.1 c.2.2.2.2.2.2.2.1 c.2.2.2.2.2.2.2.2.1 c.2.2.2.2.2.2.2.2.2.1 c.2.2.2.2.2.2.2.2.2.2.1 c.2.2.2.2.2.2.2.2.2.2.2.1 c.2.2.2.2.2.2.2.2.2.2.2.2.1 c.2.2.2.2.2.2.2.2.2.2.2.2.2.1 c.2.2.2.2.2.2.2.2.2.2.2.2.2.2.1 c.2.2.2.2.2.2.2.2.2.2.2.2.2.2.2.1 c.2.2.2.2.2.2.2.2.2.2.2.2.2.2.2.2.1 c.2.2.2.2.2.2.2.2.2.2.2.2.2.2.2.2.2.1 c.2.2.2.2.2.2.2.2.2.2.2.2.2.2.2.2.2.2.1 c.2.2.2.2.2.2.2.2.2.2.2.2.2.2.2.2.2.2.2.1 c.2.2.2.2.2.2.2.2.2.2.2.2.2.2.2.2.2.2.2.2.1 c.2.2.2.2.2.2.2.2.2.2.2.2.2.2.2.2.2.2.2.2.2.1 c.2.2.2.2.2.2.2.2.2.2.2.2.2.2.2.2.2.2.2.2.2.2.1 c.2.2.2.2.2.2.2.2.2.2.2.2.2.2.2.2.2.2.2.2.2.2.2.1 c.2.2.2.2.2.2.2.2.2.2.2.2.2.2.2.2.2.2.2.2.2.2.2.2.1 c.2.2.2.2.2.2.2.2.2.2.2.2.2.2.2.2.2.2.2.2.2.2.2.2.2.1 c.2.2.2.2.2.2.2.2.2.2.2.2.2.2.2.2.2.2.2.2.2.2.2.2.2.2.1 c.2.2.2.2.2.2.2.2.2.2.2.2.2.2.2.2.2.2.2.2.2.2.2.2.2.2.2.1 c.2.2.2.2.2.2.2.2.2.2.2.2.2.2.2.2.2.2.2.2.2.2.2.2.2.2.2.2.1 c.2.2.2.2.2.2.2.2.2.2.2.2.2.2.2.2.2.2.2.2.2.2.2.2.2.2.2.2.2.1 c.2.2.2.2.2.2.2.2.2.2.2.2.2.2.2.2.2.2.2.2.2.2.2.2.2.2.2.2.2.2.1 c.2.2.2.2.2.2.2.2.2.2.2.2.2.2.2.2.2.2.2.2.2.2.2.2.2.2.2.2.2.2.2.1 c.2.2.2.2.2.2.2.2.2.2.2.2.2.2.2.2.2.2.2.2.2.2.2.2.2.2.2.2.2.2.2.2.1 c.2.2.2.2.2.2.2.2.2.2.2.2.2.2.2.2.2.2.2.2.2.2.2.2.2.2.2.2.2.2.2.2.2) ⟨c, q⟩) h
noncomputable def w : World := bad.1
noncomputable def p : Program := bad.2.1
noncomputable def loose : List Str := bad.2.2.1
noncomputable def mean : ExcName → Option Value := bad.2.2.2.1
noncomputable def mg : Str → Option Value := bad.2.2.2.2.1
noncomputable def mb : Str → Option Value := bad.2.2.2.2.2.1
noncomputable def s : Shared := bad.2.2.2.2.2.2.1
noncomputable def dp : Nat := bad.2.2.2.2.2.2.2.1
noncomputable def un : Nat := bad.2.2.2.2.2.2.2.2.1
noncomputable def fr : Option (List Env) := bad.2.2.2.2.2.2.2.2.2.1
noncomputable def gd : Option (List Code) := bad.2.2.2.2.2.2.2.2.2.2.1
noncomputable def E : Value → Shared → Prop := bad.2.2.2.2.2.2.2.2.2.2.2.1
noncomputable def s₂ : Shared := bad.2.2.2.2.2.2.2.2.2.2.2.2.1
noncomputable def r : Str := bad.2.2.2.2.2.2.2.2.2.2.2.2.2.1
noncomputable def y : Str := bad.2.2.2.2.2.2.2.2.2.2.2.2.2.2.1
noncomputable def u : Tok := bad.2.2.2.2.2.2.2.2.2.2.2.2.2.2.2.1
noncomputable def ys : List Str := bad.2.2.2.2.2.2.2.2.2.2.2.2.2.2.2.2.1
noncomputable def L : Addr := bad.2.2.2.2.2.2.2.2.2.2.2.2.2.2.2.2.2.1
noncomputable def lN : Addr := bad.2.2.2.2.2.2.2.2.2.2.2.2.2.2.2.2.2.2.1
noncomputable def lc : Addr := bad.2.2.2.2.2.2.2.2.2.2.2.2.2.2.2.2.2.2.2.1
noncomputable def aT : Addr := bad.2.2.2.2.2.2.2.2.2.2.2.2.2.2.2.2.2.2.2.2.1
noncomputable def I : Addr := bad.2.2.2.2.2.2.2.2.2.2.2.2.2.2.2.2.2.2.2.2.2.1
noncomputable def oc : Obj := bad.2.2.2.2.2.2.2.2.2.2.2.2.2.2.2.2.2.2.2.2.2.2.1
noncomputable def oa : Obj := bad.2.2.2.2.2.2.2.2.2.2.2.2.2.2.2.2.2.2.2.2.2.2.2.1
noncomputable def it : Obj := bad.2.2.2.2.2.2.2.2.2.2.2.2.2.2.2.2.2.2.2.2.2.2.2.2.1
noncomputable def i : Nat := bad.2.2.2.2.2.2.2.2.2.2.2.2.2.2.2.2.2.2.2.2.2.2.2.2.2.1
noncomputable def n : Nat := bad.2.2.2.2.2.2.2.2.2.2.2.2.2.2.2.2.2.2.2.2.2.2.2.2.2.2.1
noncomputable def tk : Nat := bad.2.2.2.2.2.2.2.2.2.2.2.2.2.2.2.2.2.2.2.2.2.2.2.2.2.2.2.1
noncomputable def m₁ : Str → Option Value := bad.2.2.2.2.2.2.2.2.2.2.2.2.2.2.2.2.2.2.2.2.2.2.2.2.2.2.2.2.1
noncomputable def h : Heap := bad.2.2.2.2.2.2.2.2.2.2.2.2.2.2.2.2.2.2.2.2.2.2.2.2.2.2.2.2.2.1
noncomputable def ti : Tok := bad.2.2.2.2.2.2.2.2.2.2.2.2.2.2.2.2.2.2.2.2.2.2.2.2.2.2.2.2.2.2.1
noncomputable def ts : Tok := bad.2.2.2.2.2.2.2.2.2.2.2.2.2.2.2.2.2.2.2.2.2.2.2.2.2.2.2.2.2.2.2.1
noncomputable def td : Tok := bad.2.2.2.2.2.2.2.2.2.2.2.2.2.2.2.2.2.2.2.2.2.2.2.2.2.2.2.2.2.2.2.2.1
noncomputable def tdd : Tok := bad.2.2.2.2.2.2.2.2.2.2.2.2.2.2.2.2.2.2.2.2.2.2.2.2.2.2.2.2.2.2.2.2.2
theorem at_ (cs : List Value) (KX : (hd.heap_39 w.params).In s.heap) (T : Top p loose mean mg mb s.heap) (hroom : dp + 12 < recursionLimit) (hcs : StrsAre cs ((ys.take i).foldl (stepN r) [])) (hci : cs.length ≤ i) (hm1 : m₁ (Str.ofString "new_comps") = some (.ref lN)) (hm2 : m₁ (Str.ofString "initial_slashes") = some (.str r ti)) (hm3 : m₁ (Str.ofString "sep") = some (.str (Str.ofString "/") ts)) (hm4 : m₁ (Str.ofString "dot") = some (.str (Str.ofString ".") td)) (hm5 : m₁ (Str.ofString "dotdot") = some (.str (Str.ofString "..") tdd)) (hy : ys[i]? = some y) (hyl : y.length ≤ 100000) (hil : i < 100000) (hlt : @LT.lt Nat _ lc lN ∧ @LT.lt Nat _ aT lN) (hr : r.length ≤ 2000) (F2 : Fr s.heap L h (fun z => if z = Str.ofString "comp" then some (.str y u) else m₁ z)) (N2 : News s.heap L h ((I, it) :: [(lN, W.listOf (List.toArray cs) n), (lc, oc), (aT, oa)])) (hn2 : AllNe I [(lN, W.listOf (List.toArray cs) n), (lc, oc), (aT, oa)]) :
  wpAny (model PR w) ((Ar dp un fr gd).deeper (nmEnv w L)) (execs (nmBody w) (nmEnv w L)) (TurnEnd s₂ s.heap L I it (NormJ r ys lN lc aT oc (i + 1))) (fun _ _ => False) { s₂ with heap := h, toks := tk } := by
  show wpAny _ _ (execs (Stmt.If _ _ _ _ :: Stmt.If _ _ _ _ :: []) (envOf _ (Scope.mk _ _ _ _ _) _ _ _)) _ _ _
  have F3 := fr_pin (fr_pin (fr_pin (fr_pin F2 (x := Str.ofString "new_comps") (v := .ref lN) (by with_unfolding_all exact hm1)) (x := Str.ofString "initial_slashes") (v := .str r ti) (by with_unfolding_all exact hm2)) (x := Str.ofString "dot") (v := .str (Str.ofString ".") td) (by with_unfolding_all exact hm4)) (x := Str.ofString "dotdot") (v := .str (Str.ofString "..") tdd) (by with_unfolding_all exact hm5)
  simp only [AllNe, and_true] at hn2
  clear F2
  have e9 : ∀ q, (ys.take i).foldl (stepN r) [] = q → (ys.take (i + 1)).foldl (stepN r) [] = stepN r q y := by
    rintro q rfl; rw [List.take_add_one, hy]; simp
  rcases snoc_cases hcs with ⟨rfl, e⟩ | ⟨vi, yi, z, tz, rfl, e, hvi⟩
  · k_steps
    all_goals
      (try dsimp only)
      rename Fr _ _ _ _ => F4
      rename News _ _ _ _ => N4
      refine turn_end (J := NormJ r ys lN lc aT oc (i + 1)) F4 N4 (.head _) (fun q hq => .tail _ hq) (ne3 hn2) ⟨_, _, _, rfl, ?_, ?_, rfl, ⟨_, rfl⟩, ⟨ts, by with_unfolding_all exact hm3⟩, ⟨_, rfl⟩, ⟨_, rfl⟩⟩ (by first | exact .inl rfl | exact .inr rfl)
      · rw [e9 _ e]
        simp only [stepN, *, if_true, if_false, Bool.false_eq_true, List.getLast?_nil, List.nil_append] <;> first | exact .nil | exact .cons _ _ .nil
      · first | (simp; done) | (simp; omega)
  · have hvl : vi.length ≤ 100000 := by rw [List.length_append] at hci; omega
    rw [e] at hcs
    k_steps
    all_goals
      (try dsimp only)
      rename Fr _ _ _ _ => F4
      rename News _ _ _ _ => N4
      refine turn_end (J := NormJ r ys lN lc aT oc (i + 1)) F4 N4 (.head _) (fun q hq => .tail _ hq) (ne3 hn2) ⟨_, _, _, rfl, ?_, ?_, rfl, ⟨_, rfl⟩, ⟨ts, by with_unfolding_all exact hm3⟩, ⟨_, rfl⟩, ⟨_, rfl⟩⟩ (by first | exact .inl rfl | exact .inr rfl)
      · rw [e9 _ e]
        simp only [stepN, *, if_true, if_false, Bool.false_eq_true, List.getLast?_append, List.getLast?_singleton, Option.some_or, List.dropLast_concat] <;> first | exact hcs | exact hvi | exact StrsAre.append' hcs (.cons _ _ .nil)
      · first | (simp only [List.length_append, List.length_cons, List.length_nil] at hci ⊢ <;> done) | (simp only [List.length_append, List.length_cons, List.length_nil] at hci ⊢; omega) | (simp at hci ⊢; omega)
end norm_body_c
theorem norm_body {w : World} {p : Program} {loose : List Str} {mean : ExcName → Option Value} {mg : Str → Option Value} {mb : Str → Option Value} {s : Shared} {dp : Nat} {un : Nat} {fr : Option (List Env)} {gd : Option (List Code)} {E : Value → Shared → Prop} {s₂ : Shared} {r y : Str} {u : Tok} {ys : List Str} {L lN lc aT I : Addr} {oc oa it : Obj} {i n tk : Nat} {m₁ : Str → Option Value} {h : Heap} {ti ts td tdd : Tok} (cs : List Value) (KX : (hd.heap_39 w.params).In s.heap) (T : Top p loose mean mg mb s.heap) (hroom : dp + 12 < recursionLimit)
    (hcs : StrsAre cs ((ys.take i).foldl (stepN r) [])) (hci : cs.length ≤ i) (hm1 : m₁ (Str.ofString "new_comps") = some (.ref lN)) (hm2 : m₁ (Str.ofString "initial_slashes") = some (.str r ti)) (hm3 : m₁ (Str.ofString "sep") = some (.str (Str.ofString "/") ts)) (hm4 : m₁ (Str.ofString "dot") = some (.str (Str.ofString ".") td)) (hm5 : m₁ (Str.ofString "dotdot") = some (.str (Str.ofString "..") tdd))
    (hy : ys[i]? = some y) (hyl : y.length ≤ 100000) (hil : i < 100000) (hlt : @LT.lt Nat _ lc lN ∧ @LT.lt Nat _ aT lN) (hr : r.length ≤ 2000) (F2 : Fr s.heap L h (fun z => if z = Str.ofString "comp" then some (.str y u) else m₁ z)) (N2 : News s.heap L h ((I, it) :: [(lN, W.listOf (List.toArray cs) n), (lc, oc), (aT, oa)])) (hn2 : AllNe I [(lN, W.listOf (List.toArray cs) n), (lc, oc), (aT, oa)]) :
    wpAny (model PR w) ((Ar dp un fr gd).deeper (nmEnv w L)) (execs (nmBody w) (nmEnv w L)) (TurnEnd s₂ s.heap L I it (NormJ r ys lN lc aT oc (i + 1))) (fun _ _ => False) { s₂ with heap := h, toks := tk } :=
  norm_body_c.fin norm_body_c.at_ (w, p, loose, mean, mg, mb, s, dp, un, fr, gd, E, s₂, r, y, u, ys, L, lN, lc, aT, I, oc, oa, it, i, n, tk, m₁, h, ti, ts, td, tdd) cs KX T hroom hcs hci hm1 hm2 hm3 hm4 hm5 hy hyl hil hlt hr F2 N2 hn2
namespace norm_spec_c
def Pz (w : World) (p : Program) (loose : List Str) (mean : ExcName → Option Value) (mg : Str → Option Value) (mb : Str → Option Value) (s : Shared) (dp : Nat) (un : Nat) (fr : Option (List Env)) (gd : Option (List Code)) (E : Value → Shared → Prop) (x : Str) (t : Tok) : Prop := ∀ (KX : (hd.heap_39 w.params).In s.heap) (T : Top p loose mean mg mb s.heap) (hroom : dp + 12 < recursionLimit) (hx : x.length ≤ 1000),
  wpAny (model PR w) (Ar dp un fr gd) (call (.ref 136) [.str x t]) (Out s (IsS (normF x))) E s
abbrev Cx : Type := (World) × (Program) × (List Str) × (ExcName → Option Value) × (Str → Option Value) × (Str → Option Value) × (Shared) × (Nat) × (Nat) × (Option (List Env)) × (Option (List Code)) × (Value → Shared → Prop) × (Str) × (Tok)
theorem ne : Nonempty Cx := ⟨(aWorld 0, default, [], (fun _ => none), (fun _ => none), (fun _ => none), ({} : Shared), (0 : Nat), (0 : Nat), none, none, (fun _ _ => True), Str.ofString "", default)⟩
@[irreducible] noncomputable def bad : Cx := @Classical.epsilon Cx ne fun c => ¬ Pz c.1 c.2.1 c.2.2.1 c.2.2.2.1 c.2.2.2.2.1 c.2.2.2.2.2.1 c.2.2.2.2.2.2.1 c.2.2.2.2.2.2.2.1 c.2.2.2.2.2.2.2.2.1 c.2.2.2.2.2.2.2.2.2.1 c.2.2.2.2.2.2.2.2.2.2.1 c.2.2.2.2.2.2.2.2.2.2.2.1 c.2.2.2.2.2.2.2.2.2.2.2.2.1 c.2.2.2.2.2.2.2.2.2.2.2.2.2
theorem fin (h : Pz bad.1 bad.2.1 bad.2.2.1 bad.2.2.2.1 bad.2.2.2.2.1 bad.2.2.2.2.2.1 bad.2.2.2.2.2.2.1 bad.2.2.2.2.2.2.2.1 bad.2.2.2.2.2.2.2.2.1 bad.2.2.2.2.2.2.2.2.2.1 bad.2.2.2.2.2.2.2.2.2.2.1 bad.2.2.2.2.2.2.2.2.2.2.2.1 bad.2.2.2.2.2.2.2.2.2.2.2.2.1 bad.2.2.2.2.2.2.2.2.2.2.2.2.2) (c : Cx) : Pz c.1 c.2.1 c.2.2.1 c.2.2.2.1 c.2.2.2.2.1 c.2.2.2.2.2.1 c.2.2.2.2.2.2.1 c.2.2.2.2.2.2.2.1 c.2.2.2.2.2.2.2.2.1 c.2.2.2.2.2.2.2.2.2.1 c.2.2.2.2.2.2.2.2.2.2.1 c.2.2.2.2.2.2.2.2.2.2.2.1 c.2.2.2.2.2.2.2.2.2.2.2.2.1 c.2.2.2.2.2.2.2.2.2.2.2.2.2 := by
  delta bad at h
  exact Classical.byContradiction fun q => (@Classical.epsilon_spec Cx (fun c => ¬ Pz c.1 c.2.1 c.2.2.1 c.2.2.2.1 c.2.2.2.2.1 c.2.2.2.2.2.1 c.2.2.2.2.2.2.1 c.2.2.2.2.2.2.2.1 c.2.2.2.2.2.2.2.2.1 c.2.2.2.2.2.2.2.2.2.1 c.2.2.2.2.2.2.2.2.2.2.1 c.2.2.2.2.2.2.2.2.2.2.2.1 c.2.2.2.2.2.2.2.2.2.2.2.2.1 c.2.2.2.2.2.2.2.2.2.2.2.2.2) ⟨c, q⟩) h
noncomputable def w : World := bad.1
noncomputable def p : Program := bad.2.1
noncomputable def loose : List Str := bad.2.2.1
noncomputable def mean : ExcName → Option Value := bad.2.2.2.1
noncomputable def mg : Str → Option Value := bad.2.2.2.2.1
noncomputable def mb : Str → Option Value := bad.2.2.2.2.2.1
noncomputable def s : Shared := bad.2.2.2.2.2.2.1
noncomputable def dp : Nat := bad.2.2.2.2.2.2.2.1
noncomputable def un : Nat := bad.2.2.2.2.2.2.2.2.1
noncomputable def fr : Option (List Env) := bad.2.2.2.2.2.2.2.2.2.1
noncomputable def gd : Option (List Code) := bad.2.2.2.2.2.2.2.2.2.2.1
noncomputable def E : Value → Shared → Prop := bad.2.2.2.2.2.2.2.2.2.2.2.1
noncomputable def x : Str := bad.2.2.2.2.2.2.2.2.2.2.2.2.1
noncomputable def t : Tok := bad.2.2.2.2.2.2.2.2.2.2.2.2.2
theorem at_ (KX : (hd.heap_39 w.params).In s.heap) (T : Top p loose mean mg mb s.heap) (hroom : dp + 12 < recursionLimit) (hx : x.length ≤ 1000) :
  wpAny (model PR w) (Ar dp un fr gd) (call (.ref 136) [.str x t]) (Out s (IsS (normF x))) E s := by
  (refine' enter (binds := [(Str.ofString "path", .str x t)]) KX T ?k6 ?k7 ?k8 ?k9 ?kB ?_ ?c2 ?c3 ?c4 ?c5; walk_at "My enter")
  have hl2 := splitF_len x
  k_steps
  · rename StrsAre _ _ => hs
    rename ∀ a, a ∈ List.map _ _ → Str.length a ≤ _ => hle
    rename List.map _ _ = Txt.split _ _ => hsp
    rename Fr _ _ _ _ => F1
    rename News _ _ _ _ => N1
    have hlen := split_le (splitF x).2 (Str.ofString "/")
    rw [hsp] at hs hle
    rename_i aT t1 t2 t3 g8 gk tr g7 g6 g5 hL tkL lp g3 k0 hIs g2 lN g1 hlt g0
    obtain ⟨lc, hlc⟩ : ∃ z : Nat, z = hL.objs.size := ⟨_, rfl⟩
    have hlt' : lc < lN ∧ aT < lN := hlc ▸ hlt
    have N1' : News s.heap _ g0 [(lN, W.listOf ([] : List Value).toArray 0), (lc, ({ cls := .type "list", data := .seq (strValues lp).toArray } : Obj)), (aT, _)] := hlc ▸ N1
    have hni : ∀ q ∈ [(lN, W.listOf ([] : List Value).toArray 0), (lc, ({ cls := .type "list", data := .seq (strValues lp).toArray } : Obj)), (aT, _)], q.1 ≠ g0.objs.size := fun q hq => Nat.ne_of_lt (Heap.lt_size (N1' q hq).1)
    clear N1
    rw [← hlc]
    refine wpAny_pyIter_list (News.isList N1' (.tail _ (.head _))) ?_
    refine for_list (l := lc) (its := strValues lp) (o₀ := { cls := .type "list_iterator", data := .fields #[.ref lc, .int 0 0] }) (NormJ (splitF x).1 (Txt.split (splitF x).2 (Str.ofString "/")) lN lc aT ({ cls := .type "list", data := .seq (strValues lp).toArray } : Obj))
      rfl rfl rfl (.inr ?_) (F1.push _) (News.push F1 N1' _) ⟨rfl, rfl⟩ hni ⟨[], 0, _, rfl, .nil, Nat.zero_le _, rfl, ⟨_, rfl⟩, ⟨_, rfl⟩, ⟨_, rfl⟩, ⟨_, rfl⟩⟩ ?_ ?_
    · rintro i m₁ news₁ ⟨cs, n, oa, rfl, -⟩; exact ⟨_, .tail _ (.head _), rfl, _, rfl⟩
    · rintro i v m₁ news₁ h tk it hv ⟨cs, n, oa, rfl, hcs, hci, hm1, ⟨ti, hm2⟩, ⟨ts, hm3⟩, ⟨td, hm4⟩, ⟨tdd, hm5⟩⟩ F2 N2 hn2
      obtain ⟨y, u, rfl, hy⟩ := hs.item i v hv
      have hyl : y.length ≤ 100000 := by have := hle y (List.mem_of_getElem? hy); omega
      have hil : i < 100000 := by have := (List.getElem?_eq_some_iff.mp hy).1; omega
      exact norm_body (E := fun _ _ => True) cs KX T hroom hcs hci hm1 hm2 hm3 hm4 hm5 hy hyl hil hlt' (by omega) F2 N2 hn2
    · rintro m₁ news₁ h tk ⟨cs, n, oa, rfl, hcs, hci, hm1, ⟨ti, hm2⟩, ⟨ts, hm3⟩, ⟨td, hm4⟩, ⟨tdd, hm5⟩⟩ F2 N2
      have F3 := fr_pin (fr_pin (fr_pin (fr_pin F2 (x := Str.ofString "new_comps") (v := .ref lN) (by with_unfolding_all exact hm1)) (x := Str.ofString "initial_slashes") (v := .str (splitF x).1 ti) (by with_unfolding_all exact hm2)) (x := Str.ofString "dot") (v := .str (Str.ofString ".") td) (by with_unfolding_all exact hm4)) (x := Str.ofString "sep") (v := .str (Str.ofString "/") ts) (by with_unfolding_all exact hm3)
      clear F1 N1' F2 hni hIs
      rw [List.take_of_length_le (by rw [hs.len_eq]; exact Nat.le_refl _)] at hcs
      have hw1 := sum_bound 1000 _ fun z hz => by
        rcases steps_mem (splitF x).1 (Txt.split (splitF x).2 (Str.ofString "/")) [] z hz with h | h
        · cases h
        · have := hle z h; omega
      have hw2 := steps_len (splitF x).1 (Txt.split (splitF x).2 (Str.ofString "/")) []
      have hw3 := join_len ((Txt.split (splitF x).2 (Str.ofString "/")).foldl (stepN (splitF x).1) [])
      simp only [List.length_nil] at hw2
      have hj : (Txt.join (Str.ofString "/") ((Txt.split (splitF x).2 (Str.ofString "/")).foldl (stepN (splitF x).1) [])).length ≤ 1100000 := by omega
      k_steps
      refine join_listW (News.isList (by k_asm) (.head _)) hcs (by decide +kernel) (by omega) ?_
      intro tj kj
      k_steps
      all_goals
        rename Fr _ _ _ _ => F4
        refine out_str F4 ?_
        simp only [normF, *, if_true, if_false]
  · rename Fr _ _ _ _ => F1
    dsimp only
    refine out_str F1 ?_
    simp only [normF, *, if_true]
end norm_spec_c
theorem norm_spec {w : World} {p : Program} {loose : List Str} {mean : ExcName → Option Value} {mg : Str → Option Value} {mb : Str → Option Value} {s : Shared} {dp : Nat} {un : Nat} {fr : Option (List Env)} {gd : Option (List Code)} {E : Value → Shared → Prop} {x : Str} {t : Tok} (KX : (hd.heap_39 w.params).In s.heap) (T : Top p loose mean mg mb s.heap) (hroom : dp + 12 < recursionLimit) (hx : x.length ≤ 1000) :
    wpAny (model PR w) (Ar dp un fr gd) (call (.ref 136) [.str x t]) (Out s (IsS (normF x))) E s :=
  norm_spec_c.fin norm_spec_c.at_ (w, p, loose, mean, mg, mb, s, dp, un, fr, gd, E, x, t) KX T hroom hx
end
section
section
variable {w : World} {p : Program} {loose : List Str} {mean : ExcName → Option Value} {mg mb : Str → Option Value} {s : Shared} {dp un : Nat} {fr : Option (List Env)} {gd : Option (List Code)} {E : Value → Shared → Prop}
section
variable {prog : Program} {A : Around} {h₀ : Heap} {L l b : Addr} {m : Str → Option Value} {news : List (Addr × Obj)} {n n' : Nat} {v : Value} {x : Int} {u : Tok} {vs ws : List Value}
theorem my_mul {Q : Value → Shared → Prop} (F : Fr h₀ L s.heap m) (N : News h₀ L s.heap news) (hm : (l, W.listOf [v].toArray n) ∈ news) (hx : 0 ≤ x ∧ x ≤ 200)
    (h : ∀ D h', Fr h₀ L h' m → News h₀ L h' ((D, W.listOf (List.replicate x.toNat v).toArray 0) :: news) → (∀ p ∈ news, p.1 < D) → Q (.ref D) { s with heap := h' }) : wpAny (model prog w) A (binaryOp .Mult (.ref l) (.int x u)) Q E s :=
  KMa.mul (vs := [v]) F N (News.isList N hm) (by omega) (by omega) (by simp; omega) (lm_rep_flat_one v _) h
theorem my_add {Q : Value → Shared → Prop} (F : Fr h₀ L s.heap m) (N : News h₀ L s.heap news) (hl : (l, W.listOf vs.toArray n) ∈ news) (hb : (b, W.listOf ws.toArray n') ∈ news) (hz : vs.length + ws.length ≤ 1000000)
    (h : ∀ D h', Fr h₀ L h' m → News h₀ L h' ((D, W.listOf (vs ++ ws).toArray 0) :: news) → (∀ p ∈ news, p.1 < D) → Q (.ref D) { s with heap := h' }) : wpAny (model prog w) A (binaryOp .Add (.ref l) (.ref b)) Q E s :=
  add_lists F N (News.isList N hl) (News.isList N hb) (fun h' F' N' => h _ h' F' N' fun p hp => Heap.lt_size (N p hp).1) (by rw [sizeLine_eq]; omega)
theorem strs_rep (y : Str) (t : Tok) : ∀ k, StrsAre (List.replicate k (.str y t)) (List.replicate k y)
  | 0 => .nil
  | k + 1 => .cons _ _ (strs_rep y t k)
theorem my_join {y : Str} {t : Tok} {ys : List Str} {Q : Value → Shared → Prop} (N : News h₀ L s.heap news) (hl : (l, W.listOf vs.toArray n) ∈ news) (hy : StrsAre vs ys) (hsep : y.length ≤ 16) (hw : (ys.map (·.length)).sum + ys.length ≤ 1000000)
    (h : ∀ t' k, (Txt.join y ys).length ≤ 17000000 - 1000000 → Q (.str (Txt.join y ys) t') { s with toks := k }) : wpAny (model prog w) A (call (.builtin "str.join") [.str y t, .ref l]) Q E s := by
  refine join_listW (News.isList N hl) hy hsep (by omega) fun t' k => h t' k ?_
  have h1 := StrLaws.join_length_le y ys
  have h2 : Txt.join y ys = Str.join y ys := StrLaws.glued_eq_join _ _
  rw [h2]
  have h3 : ys.length * y.length ≤ ys.length * 16 := Nat.mul_le_mul_left _ hsep
  omega
end
theorem rep_weight (y : Str) (k : Nat) : ((List.replicate k y).map (·.length)).sum = k * y.length := by simp
noncomputable def pathF (r : Bool) (a b : Int) : Str :=
  if r = true then Str.ofString "/" ++ Txt.join (Str.ofString "/") (List.replicate b.toNat (Str.ofString "\""))
  else if ((Txt.join (Str.ofString "/") (List.replicate a.toNat (Str.ofString "..") ++ List.replicate b.toNat (Str.ofString "\""))).length : Int) = 0 then Str.ofString "."
  else Txt.join (Str.ofString "/") (List.replicate a.toNat (Str.ofString "..") ++ List.replicate b.toNat (Str.ofString "\""))
end
local macro_rules | `(tactic| walk_at "binaryOp Mult ref int") => `(tactic| k_dflt (refine' my_mul ?F ?N ?m ?x ?_; walk_at "My fn"; (case m => k_mem); (case x => k_asm); k_whole; intro D' h' F' N' l1'; (try k_lt l1'); (try k_sweep)))
local macro_rules | `(tactic| walk_at "binaryOp Add ref ref") => `(tactic| k_dflt (refine' my_add ?F ?N ?m ?m2 ?x ?_; walk_at "My fn"; (case m => k_mem); (case m2 => k_mem); (case x => (simp only [List.length_replicate]; omega)); k_whole; intro D' h' F' N' l1'; (try k_lt l1'); (try k_sweep)))
namespace path_spec_c
def Pz (w : World) (p : Program) (loose : List Str) (mean : ExcName → Option Value) (mg : Str → Option Value) (mb : Str → Option Value) (s : Shared) (dp : Nat) (un : Nat) (fr : Option (List Env)) (gd : Option (List Code)) (E : Value → Shared → Prop) (a : Int) (b : Int) (t : Tok) (u : Tok) : Prop := ∀ (r : Bool) (KX : (hd.heap_39 w.params).In s.heap) (T : Top p loose mean mg mb s.heap) (hroom : dp + 3 < recursionLimit) (ha : 0 ≤ a ∧ a ≤ 200) (hb : 0 ≤ b ∧ b ≤ 200),
  wpAny (model PR w) (Ar dp un fr gd) (call (.ref 185) [.bool r, .int a t, .int b u]) (Out s (IsS (pathF r a b))) E s
abbrev Cx : Type := (World) × (Program) × (List Str) × (ExcName → Option Value) × (Str → Option Value) × (Str → Option Value) × (Shared) × (Nat) × (Nat) × (Option (List Env)) × (Option (List Code)) × (Value → Shared → Prop) × (Int) × (Int) × (Tok) × (Tok)
theorem ne : Nonempty Cx := ⟨(aWorld 0, default, [], (fun _ => none), (fun _ => none), (fun _ => none), ({} : Shared), (0 : Nat), (0 : Nat), none, none, (fun _ _ => True), (0 : Int), (0 : Int), default, default)⟩
@[irreducible] noncomputable def bad : Cx := @Classical.epsilon Cx ne fun c => ¬ Pz c.1 c.2.1 c.2.2.1 c.2.2.2.1 c.2.2.2.2.1 c.2.2.2.2.2.1 c.2.2.2.2.2.2.1 c.2.2.2.2.2.2.2.1 c.2.2.2.2.2.2.2.2.1 c.2.2.2.2.2.2.2.2.2.1 c.2.2.2.2.2.2.2.2.2.2.1 c.2.2.2.2.2.2.2.2.2.2.2.1 c.2.2.2.2.2.2.2.2.2.2.2.2.1 c.2.2.2.2.2.2.2.2.2.2.2.2.2.1 c.2.2.2.2.2.2.2.2.2.2.2.2.2.2.1 c.2.2.2.2.2.2.2.2.2.2.2.2.2.2.2
theorem fin (h : Pz bad.1 bad.2.1 bad.2.2.1 bad.2.2.2.1 bad.2.2.2.2.1 bad.2.2.2.2.2.1 bad.2.2.2.2.2.2.1 bad.2.2.2.2.2.2.2.1 bad.2.2.2.2.2.2.2.2.1 bad.2.2.2.2.2.2.2.2.2.1 bad.2.2.2.2.2.2.2.2.2.2.1 bad.2.2.2.2.2.2.2.2.2.2.2.1 bad.2.2.2.2.2.2.2.2.2.2.2.2.1 bad.2.2.2.2.2.2.2.2.2.2.2.2.2.1 bad.2.2.2.2.2.2.2.2.2.2.2.2.2.2.1 bad.2.2.2.2.2.2.2.2.2.2.2.2.2.2.2) (c : Cx) : Pz c.1 c.2.1 c.2.2.1 c.2.2.2.1 c.2.2.2.2.1 c.2.2.2.2.2.1 c.2.2.2.2.2.2.1 c.2.2.2.2.2.2.2.1 c.2.2.2.2.2.2.2.2.1 c.2.2.2.2.2.2.2.2.2.1 c.2.2.2.2.2.2.2.2.2.2.1 c.2.2.2.2.2.2.2.2.2.2.2.1 c.2.2.2.2.2.2.2.2.2.2.2.2.1 c.2.2.2.2.2.2.2.2.2.2.2.2.2.1 c.2.2.2.2.2.2.2.2.2.2.2.2.2.2.1 c.2.2.2.2.2.2.2.2.2.2.2.2.2.2.2 := by
  delta bad at h
  exact Classical.byContradiction fun q => (@Classical.epsilon_spec Cx (fun c => ¬ Pz c.1 c.2.1 c.2.2.1 c.2.2.2.1 c.2.2.2.2.1 c.2.2.2.2.2.1 c.2.2.2.2.2.2.1 c.2.2.2.2.2.2.2.1 c.2.2.2.2.2.2.2.2.1 c.2.2.2.2.2.2.2.2.2.1 c.2.2.2.2.2.2.2.2.2.2.1 c.2.2.2.2.2.2.2.2.2.2.2.1 c.2.2.2.2.2.2.2.2.2.2.2.2.1 c.2.2.2.2.2.2.2.2.2.2.2.2.2.1 c.2.2.2.2.2.2.2.2.2.2.2.2.2.2.1 c.2.2.2.2.2.2.2.2.2.2.2.2.2.2.2) ⟨c, q⟩) h
noncomputable def w : World := bad.1
noncomputable def p : Program := bad.2.1
noncomputable def loose : List Str := bad.2.2.1
noncomputable def mean : ExcName → Option Value := bad.2.2.2.1
noncomputable def mg : Str → Option Value := bad.2.2.2.2.1
noncomputable def mb : Str → Option Value := bad.2.2.2.2.2.1
noncomputable def s : Shared := bad.2.2.2.2.2.2.1
noncomputable def dp : Nat := bad.2.2.2.2.2.2.2.1
noncomputable def un : Nat := bad.2.2.2.2.2.2.2.2.1
noncomputable def fr : Option (List Env) := bad.2.2.2.2.2.2.2.2.2.1
noncomputable def gd : Option (List Code) := bad.2.2.2.2.2.2.2.2.2.2.1
noncomputable def E : Value → Shared → Prop := bad.2.2.2.2.2.2.2.2.2.2.2.1
noncomputable def a : Int := bad.2.2.2.2.2.2.2.2.2.2.2.2.1
noncomputable def b : Int := bad.2.2.2.2.2.2.2.2.2.2.2.2.2.1
noncomputable def t : Tok := bad.2.2.2.2.2.2.2.2.2.2.2.2.2.2.1
noncomputable def u : Tok := bad.2.2.2.2.2.2.2.2.2.2.2.2.2.2.2
theorem at_ (r : Bool) (KX : (hd.heap_39 w.params).In s.heap) (T : Top p loose mean mg mb s.heap) (hroom : dp + 3 < recursionLimit) (ha : 0 ≤ a ∧ a ≤ 200) (hb : 0 ≤ b ∧ b ≤ 200) :
  wpAny (model PR w) (Ar dp un fr gd) (call (.ref 185) [.bool r, .int a t, .int b u]) (Out s (IsS (pathF r a b))) E s := by
  (refine' enter (binds := [(Str.ofString "rooted", .bool r), (Str.ofString "down", .int a t), (Str.ofString "up", .int b u)]) KX T ?k6 ?k7 ?k8 ?k9 ?kB ?_ ?c2 ?c3 ?c4 ?c5; walk_at "My enter")
  have e1 : (Str.ofString "\"").length = 1 := by decide
  have e2 : (Str.ofString "..").length = 2 := by decide
  cases r
  · k_steps
    refine my_join (by k_asm) (.head _) (StrsAre.append' (strs_rep _ _ _) (strs_rep _ _ _)) (by decide +kernel) (by rw [List.map_append, List.sum_append, rep_weight, rep_weight, e1, e2, List.length_append, List.length_replicate, List.length_replicate]; omega) ?_
    intro t' k' hl'
    k_steps
    all_goals (try dsimp only)
    all_goals (refine out_str (by k_asm) ?_; simp only [pathF, *, if_true, if_false, Bool.false_eq_true])
  · k_steps
    refine my_join (by k_asm) (.head _) (strs_rep _ _ _) (by decide +kernel) (by rw [rep_weight, e1, List.length_replicate]; omega) ?_
    intro t' k' hl'
    have e3 : (Str.ofString "/").length = 1 := by decide
    k_steps
    all_goals (try dsimp only)
    all_goals (refine out_str (by k_asm) ?_; simp only [pathF, *, if_true])
end path_spec_c
theorem path_spec {w : World} {p : Program} {loose : List Str} {mean : ExcName → Option Value} {mg : Str → Option Value} {mb : Str → Option Value} {s : Shared} {dp : Nat} {un : Nat} {fr : Option (List Env)} {gd : Option (List Code)} {E : Value → Shared → Prop} {r : Bool} {a b : Int} {t u : Tok} (KX : (hd.heap_39 w.params).In s.heap) (T : Top p loose mean mg mb s.heap) (hroom : dp + 3 < recursionLimit) (ha : 0 ≤ a ∧ a ≤ 200) (hb : 0 ≤ b ∧ b ≤ 200) :
    wpAny (model PR w) (Ar dp un fr gd) (call (.ref 185) [.bool r, .int a t, .int b u]) (Out s (IsS (pathF r a b))) E s :=
  path_spec_c.fin path_spec_c.at_ (w, p, loose, mean, mg, mb, s, dp, un, fr, gd, E, a, b, t, u) r KX T hroom ha hb
section
variable {w : World} {p : Program} {loose : List Str} {mean : ExcName → Option Value} {mg mb : Str → Option Value} {s : Shared} {dp un : Nat} {fr : Option (List Env)} {gd : Option (List Code)} {E : Value → Shared → Prop}
noncomputable def textF (r : Bool) (d k a : Int) (x : Str) (b : Int) : Str :=
  if r = true then Txt.mul (Str.ofString "\"") k ++ Str.ofString "x" ++ Txt.mul (Str.ofString "\"") k
  else if (x == Str.ofString "") = true then Txt.mul (Str.ofString "\"") k ++ Txt.mul (Str.ofString "\"") (a + b - 2 * d) ++ Txt.mul (Str.ofString "\"") k
  else Txt.mul (Str.ofString "\"") k ++ Txt.mul (Str.ofString "\"") (a - d) ++ x ++ Txt.mul (Str.ofString "\"") (b - d) ++ Txt.mul (Str.ofString "\"") k
end
namespace text_spec_c
def Pz (w : World) (p : Program) (loose : List Str) (mean : ExcName → Option Value) (mg : Str → Option Value) (mb : Str → Option Value) (s : Shared) (dp : Nat) (un : Nat) (fr : Option (List Env)) (gd : Option (List Code)) (E : Value → Shared → Prop) (d : Int) (k : Int) (a : Int) (b : Int) (x : Str) (t : Tok) (u : Tok) (v : Tok) (z : Tok) (y : Tok) : Prop := ∀ (r : Bool) (KX : (hd.heap_39 w.params).In s.heap) (T : Top p loose mean mg mb s.heap) (hroom : dp + 3 < recursionLimit) (ha : 0 ≤ a ∧ a ≤ 200) (hb : 0 ≤ b ∧ b ≤ 200) (hd : 0 ≤ d ∧ d ≤ 200) (hk : 0 ≤ k ∧ k ≤ 200) (hx : x.length ≤ 10),
  wpAny (model PR w) (Ar dp un fr gd) (call (.ref 192) [.bool r, .int d t, .int k u, .int a v, .str x z, .int b y]) (Out s (IsS (textF r d k a x b))) E s
abbrev Cx : Type := (World) × (Program) × (List Str) × (ExcName → Option Value) × (Str → Option Value) × (Str → Option Value) × (Shared) × (Nat) × (Nat) × (Option (List Env)) × (Option (List Code)) × (Value → Shared → Prop) × (Int) × (Int) × (Int) × (Int) × (Str) × (Tok) × (Tok) × (Tok) × (Tok) × (Tok)
theorem ne : Nonempty Cx := ⟨(aWorld 0, default, [], (fun _ => none), (fun _ => none), (fun _ => none), ({} : Shared), (0 : Nat), (0 : Nat), none, none, (fun _ _ => True), (0 : Int), (0 : Int), (0 : Int), (0 : Int), Str.ofString "", default, default, default, default, default)⟩
@[irreducible] noncomputable def bad : Cx := @Classical.epsilon Cx ne fun c => ¬ Pz c.1 c.2.1 c.2.2.1 c.2.2.2.1 c.2.2.2.2.1 c.2.2.2.2.2.1 c.2.2.2.2.2.2.1 c.2.2.2.2.2.2.2.1 c.2.2.2.2.2.2.2.2.1 c.2.2.2.2.2.2.2.2.2.1 c.2.2.2.2.2.2.2.2.2.2.1 c.2.2.2.2.2.2.2.2.2.2.2.1 c.2.2.2.2.2.2.2.2.2.2.2.2.1 c.2.2.2.2.2.2.2.2.2.2.2.2.2.1 c.2.2.2.2.2.2.2.2.2.2.2.2.2.2.1 c.2.2.2.2.2.2.2.2.2.2.2.2.2.2.2.1 c.2.2.2.2.2.2.2.2.2.2.2.2.2.2.2.2.1 c.2.2.2.2.2.2.2.2.2.2.2.2.2.2.2.2.2.1 c.2.2.2.2.2.2.2.2.2.2.2.2.2.2.2.2.2.2.1 c.2.2.2.2.2.2.2.2.2.2.2.2.2.2.2.2.2.2.2.1 c.2.2.2.2.2.2.2.2.2.2.2.2.2.2.2.2.2.2.2.2.1 c.2.2.2.2.2.2.2.2.2.2.2.2.2.2.2.2.2.2.2.2.2
theorem fin (h : Pz bad.1 bad.2.1 bad.2.2.1 bad.2.2.2.1 bad.2.2.2.2.1 bad.2.2.2.2.2.1 bad.2.2.2.2.2.2.1 bad.2.2.2.2.2.2.2.1 bad.2.2.2.2.2.2.2.2.1 bad.2.2.2.2.2.2.2.2.2.1 bad.2.2.2.2.2.2.2.2.2.2.1 bad.2.2.2.2.2.2.2.2.2.2.2.1 bad.2.2.2.2.2.2.2.2.2.2.2.2.1 bad.2.2.2.2.2.2.2.2.2.2.2.2.2.1 bad.2.2.2.2.2.2.2.2.2.2.2.2.2.2.1 bad.2.2.2.2.2.2.2.2.2.2.2.2.2.2.2.1 bad.2.2.2.2.2.2.2.2.2.2.2.2.2.2.2.2.1 bad.2.2.2.2.2.2.2.2.2.2.2.2.2.2.2.2.2.1 bad.2.2.2.2.2.2.2.2.2.2.2.2.2.2.2.2.2.2.1 bad.2.2.2.2.2.2.2.2.2.2.2.2.2.2.2.2.2.2.2.1 bad.2.2.2.2.2.2.2.2.2.2.2.2.2.2.2.2.2.2.2.2.1 bad.2.2.2.2.2.2.2.2.2.2.2.2.2.2.2.2.2.2.2.2.2) (c : Cx) : Pz c.1 c.2.1 c.2.2.1 c.2.2.2.1 c.2.2.2.2.1 c.2.2.2.2.2.1 c.2.2.2.2.2.2.1 c.2.2.2.2.2.2.2.1 c.2.2.2.2.2.2.2.2.1 c.2.2.2.2.2.2.2.2.2.1 c.2.2.2.2.2.2.2.2.2.2.1 c.2.2.2.2.2.2.2.2.2.2.2.1 c.2.2.2.2.2.2.2.2.2.2.2.2.1 c.2.2.2.2.2.2.2.2.2.2.2.2.2.1 c.2.2.2.2.2.2.2.2.2.2.2.2.2.2.1 c.2.2.2.2.2.2.2.2.2.2.2.2.2.2.2.1 c.2.2.2.2.2.2.2.2.2.2.2.2.2.2.2.2.1 c.2.2.2.2.2.2.2.2.2.2.2.2.2.2.2.2.2.1 c.2.2.2.2.2.2.2.2.2.2.2.2.2.2.2.2.2.2.1 c.2.2.2.2.2.2.2.2.2.2.2.2.2.2.2.2.2.2.2.1 c.2.2.2.2.2.2.2.2.2.2.2.2.2.2.2.2.2.2.2.2.1 c.2.2.2.2.2.2.2.2.2.2.2.2.2.2.2.2.2.2.2.2.2 := by
  delta bad at h
  exact Classical.byContradiction fun q => (@Classical.epsilon_spec Cx (fun c => ¬ Pz c.1 c.2.1 c.2.2.1 c.2.2.2.1 c.2.2.2.2.1 c.2.2.2.2.2.1 c.2.2.2.2.2.2.1 c.2.2.2.2.2.2.2.1 c.2.2.2.2.2.2.2.2.1 c.2.2.2.2.2.2.2.2.2.1 c.2.2.2.2.2.2.2.2.2.2.1 c.2.2.2.2.2.2.2.2.2.2.2.1 c.2.2.2.2.2.2.2.2.2.2.2.2.1 c.2.2.2.2.2.2.2.2.2.2.2.2.2.1 c.2.2.2.2.2.2.2.2.2.2.2.2.2.2.1 c.2.2.2.2.2.2.2.2.2.2.2.2.2.2.2.1 c.2.2.2.2.2.2.2.2.2.2.2.2.2.2.2.2.1 c.2.2.2.2.2.2.2.2.2.2.2.2.2.2.2.2.2.1 c.2.2.2.2.2.2.2.2.2.2.2.2.2.2.2.2.2.2.1 c.2.2.2.2.2.2.2.2.2.2.2.2.2.2.2.2.2.2.2.1 c.2.2.2.2.2.2.2.2.2.2.2.2.2.2.2.2.2.2.2.2.1 c.2.2.2.2.2.2.2.2.2.2.2.2.2.2.2.2.2.2.2.2.2) ⟨c, q⟩) h
noncomputable def w : World := bad.1
noncomputable def p : Program := bad.2.1
noncomputable def loose : List Str := bad.2.2.1
noncomputable def mean : ExcName → Option Value := bad.2.2.2.1
noncomputable def mg : Str → Option Value := bad.2.2.2.2.1
noncomputable def mb : Str → Option Value := bad.2.2.2.2.2.1
noncomputable def s : Shared := bad.2.2.2.2.2.2.1
noncomputable def dp : Nat := bad.2.2.2.2.2.2.2.1
noncomputable def un : Nat := bad.2.2.2.2.2.2.2.2.1
noncomputable def fr : Option (List Env) := bad.2.2.2.2.2.2.2.2.2.1
noncomputable def gd : Option (List Code) := bad.2.2.2.2.2.2.2.2.2.2.1
noncomputable def E : Value → Shared → Prop := bad.2.2.2.2.2.2.2.2.2.2.2.1
noncomputable def d : Int := bad.2.2.2.2.2.2.2.2.2.2.2.2.1
noncomputable def k : Int := bad.2.2.2.2.2.2.2.2.2.2.2.2.2.1
noncomputable def a : Int := bad.2.2.2.2.2.2.2.2.2.2.2.2.2.2.1
noncomputable def b : Int := bad.2.2.2.2.2.2.2.2.2.2.2.2.2.2.2.1
noncomputable def x : Str := bad.2.2.2.2.2.2.2.2.2.2.2.2.2.2.2.2.1
noncomputable def t : Tok := bad.2.2.2.2.2.2.2.2.2.2.2.2.2.2.2.2.2.1
noncomputable def u : Tok := bad.2.2.2.2.2.2.2.2.2.2.2.2.2.2.2.2.2.2.1
noncomputable def v : Tok := bad.2.2.2.2.2.2.2.2.2.2.2.2.2.2.2.2.2.2.2.1
noncomputable def z : Tok := bad.2.2.2.2.2.2.2.2.2.2.2.2.2.2.2.2.2.2.2.2.1
noncomputable def y : Tok := bad.2.2.2.2.2.2.2.2.2.2.2.2.2.2.2.2.2.2.2.2.2
theorem at_ (r : Bool) (KX : (hd.heap_39 w.params).In s.heap) (T : Top p loose mean mg mb s.heap) (hroom : dp + 3 < recursionLimit) (ha : 0 ≤ a ∧ a ≤ 200) (hb : 0 ≤ b ∧ b ≤ 200) (hd : 0 ≤ d ∧ d ≤ 200) (hk : 0 ≤ k ∧ k ≤ 200) (hx : x.length ≤ 10) :
  wpAny (model PR w) (Ar dp un fr gd) (call (.ref 192) [.bool r, .int d t, .int k u, .int a v, .str x z, .int b y]) (Out s (IsS (textF r d k a x b))) E s := by
  (refine' enter (binds := [(Str.ofString "rooted", .bool r), (Str.ofString "down", .int d t), (Str.ofString "up", .int k u), (Str.ofString "ahead", .int a v), (Str.ofString "core", .str x z), (Str.ofString "behind", .int b y)]) KX T ?k6 ?k7 ?k8 ?k9 ?kB ?_ ?c2 ?c3 ?c4 ?c5; walk_at "My enter")
  cases r
  all_goals k_steps
  all_goals (try dsimp only)
  all_goals (refine out_str (by k_asm) ?_; simp only [textF, *, if_true, if_false, Bool.false_eq_true])
end text_spec_c
theorem text_spec {w : World} {p : Program} {loose : List Str} {mean : ExcName → Option Value} {mg : Str → Option Value} {mb : Str → Option Value} {s : Shared} {dp : Nat} {un : Nat} {fr : Option (List Env)} {gd : Option (List Code)} {E : Value → Shared → Prop} {r : Bool} {d k a b : Int} {x : Str} {t u v z y : Tok} (KX : (hd.heap_39 w.params).In s.heap) (T : Top p loose mean mg mb s.heap) (hroom : dp + 3 < recursionLimit) (ha : 0 ≤ a ∧ a ≤ 200) (hb : 0 ≤ b ∧ b ≤ 200) (hd : 0 ≤ d ∧ d ≤ 200) (hk : 0 ≤ k ∧ k ≤ 200)
    (hx : x.length ≤ 10) :
    wpAny (model PR w) (Ar dp un fr gd) (call (.ref 192) [.bool r, .int d t, .int k u, .int a v, .str x z, .int b y]) (Out s (IsS (textF r d k a x b))) E s :=
  text_spec_c.fin text_spec_c.at_ (w, p, loose, mean, mg, mb, s, dp, un, fr, gd, E, d, k, a, b, x, t, u, v, z, y) r KX T hroom ha hb hd hk hx
end
section
section
variable {w : World} {p : Program} {loose : List Str} {mean : ExcName → Option Value} {mg mb : Str → Option Value} {s : Shared} {dp un : Nat} {fr : Option (List Env)} {gd : Option (List Code)} {E : Value → Shared → Prop}
theorem iter_for {prog : Program} {w : World} {A : Around} {E : Value → Shared → Prop} {s : Shared} {env : Env} {h₀ : Heap} {x : Str} {px : Pos} {body : List Stmt} {R : Result → Shared → Prop} {l : Addr} {its : List Value} {m : Str → Option Value} {news : List (Addr × Obj)}
    (J : Nat → (Str → Option Value) → Prop) (hh : A.handled = none) (hx : env.kindOf x = some .local) (hp : (env.scope.kind == .class || (env.scope.kind == .module && env.locals != env.globals)) = false)
    (F : Fr h₀ env.locals s.heap m) (N : News h₀ env.locals s.heap news)
    (hsrc : h₀.IsList l its.toArray ∨ ∃ o, (l, o) ∈ news ∧ o.cls = .type "list" ∧ ∃ n, o.data = .seq its.toArray n)
    (hj : J 0 m)
    (turn : ∀ I i v m₁ h tk it, its[i]? = some v → J i m₁ → Fr h₀ env.locals h (fun y => if y = x then some v else m₁ y) → News h₀ env.locals h ((I, it) :: news) → AllNe I news →
      wpAny (model prog w) A (execs body env) (TurnEnd s h₀ env.locals I it (fun m' news' => news' = news ∧ J (i + 1) m')) (fun _ _ => False) { s with heap := h, toks := tk })
    (done : ∀ m₁ h tk, J its.length m₁ → Fr h₀ env.locals h m₁ → News h₀ env.locals h news → R (.ok .next) { s with heap := h, toks := tk }) :
    wpAny (model prog w) A (pyIter (.ref l)) (fun it s₂ => codeAny (model prog w) A (.forLoop (.Name x px) it body [] env) R s₂) E s := by
  have hl : s.heap.IsList l its.toArray := by
    rcases hsrc with h | ⟨o, hm, hc, n, hd⟩
    · exact h.at fun o e => F.keep _ o e
    · exact ⟨o, N.get hm, hc, n, hd⟩
  refine wpAny_pyIter_list hl ?_
  refine for_list (s := { s with heap := s.heap.push _ }) (l := l) (its := its) (o₀ := { cls := .type "list_iterator", data := .fields #[.ref l, .int 0 0] }) (fun i m news' => news' = news ∧ J i m) hh hx hp (hsrc.imp id fun h i m₁ news₁ hJ => by obtain ⟨rfl, -⟩ := hJ; exact h)
    (F.push _) (News.push F N _) ⟨rfl, rfl⟩ (fun q hq => Nat.ne_of_lt (Heap.lt_size (N q hq).1)) ⟨rfl, hj⟩ ?_ ?_
  · rintro i v m₁ news₁ h tk it hv ⟨rfl, hJ⟩ F' N' ne
    exact wpAny_mono (turn _ i v m₁ h tk it hv hJ F' N' ne) (fun fl s' hq => hq) fun _ _ e => e
  · rintro m₁ news₁ h tk ⟨rfl, hJ⟩ F' N'
    exact done m₁ h tk hJ F' N'
theorem turn_end_c {s : Shared} {h₀ h' : Heap} {L I : Addr} {it : Obj} {J : (Str → Option Value) → Prop} {fl : Flow} {tk' : Nat} {m' : Str → Option Value} {news news' : List (Addr × Obj)}
    (F : Fr h₀ L h' m') (N : News h₀ L h' news) (ne : AllNe I news') (hs : ∀ p ∈ (I, it) :: news', p ∈ news) (hj : J m') (hf : fl = .next ∨ fl = .cont) :
    TurnEnd s h₀ L I it (fun m' n' => n' = news' ∧ J m') fl { s with heap := h', toks := tk' } := by
  have hne : ∀ {l : List (Addr × Obj)}, AllNe I l → ∀ p ∈ l, p.1 ≠ I := by
    intro l
    induction l with
    | nil => intro _ p hp; cases hp
    | cons q r ih =>
      intro h p hp
      rcases List.mem_cons.mp hp with rfl | hp
      · exact h.1
      · exact ih h.2 p hp
  exact turn_end F N (hs _ (.head _)) (fun p hp => hs _ (.tail _ hp)) (hne ne) ⟨rfl, hj⟩ hf
end
end
section
section
variable {w : World} {p : Program} {loose : List Str} {mean : ExcName → Option Value} {mg mb : Str → Option Value} {s : Shared} {dp un : Nat} {fr : Option (List Env)} {gd : Option (List Code)} {E : Value → Shared → Prop}
noncomputable def formNext (a : Int) (c : Str) : Int := if (c == Str.ofString "..") = true then (if (c == Str.ofString "\"") = true then a + 1 else a) - 1 else (if (c == Str.ofString "\"") = true then a + 1 else a)
noncomputable def formPart (st : Int × Int) (c : Str) : Int × Int := (formNext st.1 c, if formNext st.1 c < st.2 then formNext st.1 c else st.2)
noncomputable def formStart (st : Bool × Int × Int) (y : Str) : Bool × Int × Int := if (Txt.slice y none (some 1) == Str.ofString "/") = true then (true, 0, 0) else st
noncomputable def formPiece (st : Bool × Int × Int) (y : Str) : Bool × Int × Int := ((formStart st y).1, (Txt.split y (Str.ofString "/")).foldl formPart (formStart st y).2)
noncomputable def formF (ys : List Str) : Bool × Int × Int := ys.foldl formPiece (false, 0, 0)
abbrev IsForm (s : Shared) (r : Bool) (a b : Int) : Value → Heap → Prop := fun v h => ∃ D t1 t2, v = .ref D ∧ h.get? D = some { cls := .type "tuple", data := .seq [Value.bool r, .int a t1, .int b t2].toArray } ∧ s.heap.get? D = none
theorem out_form {s : Shared} {L : Addr} {h : Heap} {m : Str → Option Value} {news : List (Addr × Obj)} {D : Addr} {r : Bool} {a b a' b' : Int} {t1 t2 : Tok} {tk : Nat} (F : Fr s.heap L h m) (N : News s.heap L h news)
    (hm : (D, ({ cls := .type "tuple", data := .seq [Value.bool r, .int a' t1, .int b' t2].toArray } : Obj)) ∈ news) (e1 : a' = a) (e2 : b' = b) :
    Out s (IsForm s r a b) (.ref D) { s with heap := h, toks := tk } := by
  subst e1 e2
  exact ⟨⟨D, t1, t2, rfl, N.get hm, N.fresh hm⟩, h, tk, rfl, F.keep⟩
end
local macro_rules | `(tactic| walk_at "exec For Name Name cons nil") => `(tactic| k_dflt (refine wpAny_For ?_))
local macro_rules | `(tactic| walk_at "exec For Name Call cons nil") => `(tactic| k_dflt (refine wpAny_For ?_))
namespace form_spec_c
def Pz (w : World) (p : Program) (loose : List Str) (mean : ExcName → Option Value) (mg : Str → Option Value) (mb : Str → Option Value) (s : Shared) (dp : Nat) (un : Nat) (fr : Option (List Env)) (gd : Option (List Code)) (E : Value → Shared → Prop) (l : Addr) (vs : List Value) (ys : List Str) : Prop := ∀ (KX : (hd.heap_39 w.params).In s.heap) (T : Top p loose mean mg mb s.heap) (hroom : dp + 3 < recursionLimit) (hl : s.heap.IsList l vs.toArray) (hys : StrsAre vs ys) (hb : ∀ y ∈ ys, y.length ≤ 1000) (hn : ys.length ≤ 100),
  wpAny (model PR w) (Ar dp un fr gd) (call (.ref 178) [.ref l]) (Out s (IsForm s (formF ys).1 (-(formF ys).2.2) ((formF ys).2.1 - (formF ys).2.2))) E s
abbrev Cx : Type := (World) × (Program) × (List Str) × (ExcName → Option Value) × (Str → Option Value) × (Str → Option Value) × (Shared) × (Nat) × (Nat) × (Option (List Env)) × (Option (List Code)) × (Value → Shared → Prop) × (Addr) × (List Value) × (List Str)
theorem ne : Nonempty Cx := ⟨(aWorld 0, default, [], (fun _ => none), (fun _ => none), (fun _ => none), ({} : Shared), (0 : Nat), (0 : Nat), none, none, (fun _ _ => True), (0 : Nat), [], [])⟩
@[irreducible] noncomputable def bad : Cx := @Classical.epsilon Cx ne fun c => ¬ Pz c.1 c.2.1 c.2.2.1 c.2.2.2.1 c.2.2.2.2.1 c.2.2.2.2.2.1 c.2.2.2.2.2.2.1 c.2.2.2.2.2.2.2.1 c.2.2.2.2.2.2.2.2.1 c.2.2.2.2.2.2.2.2.2.1 c.2.2.2.2.2.2.2.2.2.2.1 c.2.2.2.2.2.2.2.2.2.2.2.1 c.2.2.2.2.2.2.2.2.2.2.2.2.1 c.2.2.2.2.2.2.2.2.2.2.2.2.2.1 c.2.2.2.2.2.2.2.2.2.2.2.2.2.2
theorem fin (h : Pz bad.1 bad.2.1 bad.2.2.1 bad.2.2.2.1 bad.2.2.2.2.1 bad.2.2.2.2.2.1 bad.2.2.2.2.2.2.1 bad.2.2.2.2.2.2.2.1 bad.2.2.2.2.2.2.2.2.1 bad.2.2.2.2.2.2.2.2.2.1 bad.2.2.2.2.2.2.2.2.2.2.1 bad.2.2.2.2.2.2.2.2.2.2.2.1 bad.2.2.2.2.2.2.2.2.2.2.2.2.1 bad.2.2.2.2.2.2.2.2.2.2.2.2.2.1 bad.2.2.2.2.2.2.2.2.2.2.2.2.2.2) (c : Cx) : Pz c.1 c.2.1 c.2.2.1 c.2.2.2.1 c.2.2.2.2.1 c.2.2.2.2.2.1 c.2.2.2.2.2.2.1 c.2.2.2.2.2.2.2.1 c.2.2.2.2.2.2.2.2.1 c.2.2.2.2.2.2.2.2.2.1 c.2.2.2.2.2.2.2.2.2.2.1 c.2.2.2.2.2.2.2.2.2.2.2.1 c.2.2.2.2.2.2.2.2.2.2.2.2.1 c.2.2.2.2.2.2.2.2.2.2.2.2.2.1 c.2.2.2.2.2.2.2.2.2.2.2.2.2.2 := by
  delta bad at h
  exact Classical.byContradiction fun q => (@Classical.epsilon_spec Cx (fun c => ¬ Pz c.1 c.2.1 c.2.2.1 c.2.2.2.1 c.2.2.2.2.1 c.2.2.2.2.2.1 c.2.2.2.2.2.2.1 c.2.2.2.2.2.2.2.1 c.2.2.2.2.2.2.2.2.1 c.2.2.2.2.2.2.2.2.2.1 c.2.2.2.2.2.2.2.2.2.2.1 c.2.2.2.2.2.2.2.2.2.2.2.1 c.2.2.2.2.2.2.2.2.2.2.2.2.1 c.2.2.2.2.2.2.2.2.2.2.2.2.2.1 c.2.2.2.2.2.2.2.2.2.2.2.2.2.2) ⟨c, q⟩) h
noncomputable def w : World := bad.1
noncomputable def p : Program := bad.2.1
noncomputable def loose : List Str := bad.2.2.1
noncomputable def mean : ExcName → Option Value := bad.2.2.2.1
noncomputable def mg : Str → Option Value := bad.2.2.2.2.1
noncomputable def mb : Str → Option Value := bad.2.2.2.2.2.1
noncomputable def s : Shared := bad.2.2.2.2.2.2.1
noncomputable def dp : Nat := bad.2.2.2.2.2.2.2.1
noncomputable def un : Nat := bad.2.2.2.2.2.2.2.2.1
noncomputable def fr : Option (List Env) := bad.2.2.2.2.2.2.2.2.2.1
noncomputable def gd : Option (List Code) := bad.2.2.2.2.2.2.2.2.2.2.1
noncomputable def E : Value → Shared → Prop := bad.2.2.2.2.2.2.2.2.2.2.2.1
noncomputable def l : Addr := bad.2.2.2.2.2.2.2.2.2.2.2.2.1
noncomputable def vs : List Value := bad.2.2.2.2.2.2.2.2.2.2.2.2.2.1
noncomputable def ys : List Str := bad.2.2.2.2.2.2.2.2.2.2.2.2.2.2
theorem at_ (KX : (hd.heap_39 w.params).In s.heap) (T : Top p loose mean mg mb s.heap) (hroom : dp + 3 < recursionLimit) (hl : s.heap.IsList l vs.toArray) (hys : StrsAre vs ys) (hb : ∀ y ∈ ys, y.length ≤ 1000) (hn : ys.length ≤ 100) :
  wpAny (model PR w) (Ar dp un fr gd) (call (.ref 178) [.ref l]) (Out s (IsForm s (formF ys).1 (-(formF ys).2.2) ((formF ys).2.1 - (formF ys).2.2))) E s := by
  (refine' enter (binds := [(Str.ofString "pieces", .ref l)]) KX T ?k6 ?k7 ?k8 ?k9 ?kB ?_ ?c2 ?c3 ?c4 ?c5; walk_at "My enter")
  k_steps
  (rename Fr _ _ _ _ => F1)
  (rename News _ _ _ _ => N1)
  refine wpAny_pyIter_list (hl.at fun o e => F1.keep _ o e) ?_
  refine for_list (l := l) (its := vs) (o₀ := { cls := .type "list_iterator", data := .fields #[.ref l, .int 0 0] }) (fun i m news => news = [] ∧ m (Str.ofString "rooted") = some (.bool ((ys.take i).foldl formPiece (false, 0, 0)).1) ∧ (∃ t, m (Str.ofString "total") = some (.int ((ys.take i).foldl formPiece (false, 0, 0)).2.1 t)) ∧ (∃ t, m (Str.ofString "lowest") = some (.int ((ys.take i).foldl formPiece (false, 0, 0)).2.2 t)))
    rfl rfl rfl (.inl hl) (F1.push _) (News.push F1 N1 _) ⟨rfl, rfl⟩ (by simp) ⟨rfl, rfl, ⟨_, rfl⟩, ⟨_, rfl⟩⟩ ?_ ?_
  · rintro i v m₁ news₁ h tk it hv ⟨rfl, hm1, ⟨t1, hm2⟩, ⟨t2, hm3⟩⟩ F2 N2 hn2
    obtain ⟨y, u, rfl, hy⟩ := hys.item i v hv
    have hyl : y.length ≤ 1000 := hb y (List.mem_of_getElem? hy)
    have e9 : (ys.take (i + 1)).foldl formPiece (false, 0, 0) = formPiece ((ys.take i).foldl formPiece (false, 0, 0)) y := by rw [List.take_add_one, hy]; simp
    rw [e9]
    generalize (ys.take i).foldl formPiece (false, 0, 0) = st at hm1 hm2 hm3 ⊢
    have F3 := fr_pin (fr_pin (fr_pin F2 (x := Str.ofString "rooted") (v := .bool st.1) (by with_unfolding_all exact hm1)) (x := Str.ofString "total") (v := .int st.2.1 t1) (by with_unfolding_all exact hm2)) (x := Str.ofString "lowest") (v := .int st.2.2 t2) (by with_unfolding_all exact hm3)
    clear F1 N1 F2
    refine cut_if (fun m' => m' (Str.ofString "piece") = some (.str y u) ∧ m' (Str.ofString "rooted") = some (.bool (formStart st y).1) ∧ (∃ t, m' (Str.ofString "total") = some (.int (formStart st y).2.1 t)) ∧ ∃ t, m' (Str.ofString "lowest") = some (.int (formStart st y).2.2 t)) F3 N2 ?_ (fun h2 tk2 m2 F4 N4 hR => ?_)
    · k_steps
      all_goals
        rename Fr _ _ _ _ => F4
        rename News _ _ _ _ => N4
        refine CutR.mk F4 N4 ⟨by with_unfolding_all rfl, ?_⟩
        first
          | (rw [show formStart st y = (true, 0, 0) from by simp only [formStart, *, if_true]]; exact ⟨rfl, ⟨_, rfl⟩, ⟨_, rfl⟩⟩)
          | (rw [show formStart st y = st from by simp only [formStart, *, if_false, Bool.false_eq_true]]; exact ⟨rfl, ⟨_, rfl⟩, ⟨_, rfl⟩⟩)
    obtain ⟨hp, hq1, ⟨t5, hq2⟩, ⟨t6, hq3⟩⟩ := hR
    clear F3 N2
    have F5 := fr_pin (fr_pin (fr_pin (fr_pin F4 hp) (x := Str.ofString "rooted") (v := .bool (formStart st y).1) (by with_unfolding_all exact hq1)) (x := Str.ofString "total") (v := .int (formStart st y).2.1 t5) (by with_unfolding_all exact hq2)) (x := Str.ofString "lowest") (v := .int (formStart st y).2.2 t6) (by with_unfolding_all exact hq3)
    clear F4
    dsimp only
    k_steps
    rename StrsAre _ _ => hs
    rename ∀ a, a ∈ List.map _ _ → Str.length a ≤ _ => hle
    rename List.map _ _ = Txt.split _ _ => hsp
    rename Fr _ _ _ _ => F4
    rename News _ _ _ _ => N4
    rw [hsp] at hs hle
    refine iter_for (its := strValues _) (fun j m => m (Str.ofString "rooted") = some (.bool (formStart st y).1) ∧ (∃ t, m (Str.ofString "total") = some (.int (((Txt.split y (Str.ofString "/")).take j).foldl formPart (formStart st y).2).1 t)) ∧ (∃ t, m (Str.ofString "lowest") = some (.int (((Txt.split y (Str.ofString "/")).take j).foldl formPart (formStart st y).2).2 t)))
      rfl rfl rfl F4 N4 (.inr ⟨_, .head _, rfl, _, rfl⟩)
      ⟨rfl, ⟨_, rfl⟩, ⟨_, rfl⟩⟩ ?_ ?_
    · rintro I2 j v2 m2 h2 tk2 it2 hv2 ⟨hq1, ⟨t3, hq2⟩, ⟨t4, hq3⟩⟩ F5 N5 ne5
      obtain ⟨c, u2, rfl, hc⟩ := hs.item j v2 hv2
      have hcl : c.length ≤ 1000 := Nat.le_trans (hle c (List.mem_of_getElem? hc)) hyl
      have e8 : ((Txt.split y (Str.ofString "/")).take (j + 1)).foldl formPart (formStart st y).2 = formPart (((Txt.split y (Str.ofString "/")).take j).foldl formPart (formStart st y).2) c := by rw [List.take_add_one, hc]; simp
      rw [e8]
      generalize ((Txt.split y (Str.ofString "/")).take j).foldl formPart (formStart st y).2 = q at hq2 hq3 ⊢
      have F6 := fr_pin (fr_pin (fr_pin F5 (x := Str.ofString "rooted") (v := .bool (formStart st y).1) (by with_unfolding_all exact hq1)) (x := Str.ofString "total") (v := .int q.1 t3) (by with_unfolding_all exact hq2)) (x := Str.ofString "lowest") (v := .int q.2 t4) (by with_unfolding_all exact hq3)
      clear F5 F4 N4
      refine cut_if (fun m' => m' (Str.ofString "part") = some (.str c u2) ∧ m' (Str.ofString "rooted") = some (.bool (formStart st y).1) ∧ (∃ t, m' (Str.ofString "total") = some (.int (if (c == Str.ofString "\"") = true then q.1 + 1 else q.1) t)) ∧ m' (Str.ofString "lowest") = some (.int q.2 t4)) F6 N5 ?_ (fun h3 tk3 m3 F7 N7 hR => ?_)
      · k_steps
        all_goals
          rename Fr _ _ _ _ => F7
          rename News _ _ _ _ => N7
          refine CutR.mk F7 N7 ⟨by with_unfolding_all rfl, by with_unfolding_all rfl, ?_, by with_unfolding_all rfl⟩
          simp only [*, if_true, if_false, Bool.false_eq_true]
          exact ⟨_, by with_unfolding_all rfl⟩
      obtain ⟨hp1, hp2, ⟨t7, hp3⟩, hp4⟩ := hR
      obtain ⟨T1, hT1⟩ : ∃ T : Int, T = (if (c == Str.ofString "\"") = true then q.1 + 1 else q.1) := ⟨_, rfl⟩
      rw [← hT1] at hp3
      have F8 := fr_pin (fr_pin (fr_pin (fr_pin F7 hp1) (x := Str.ofString "rooted") (v := .bool (formStart st y).1) (by with_unfolding_all exact hp2)) (x := Str.ofString "total") (v := .int T1 t7) (by with_unfolding_all exact hp3)) (x := Str.ofString "lowest") (v := .int q.2 t4) (by with_unfolding_all exact hp4)
      clear F6 F7 N5
      refine cut_if (fun m' => m' (Str.ofString "rooted") = some (.bool (formStart st y).1) ∧ (∃ t, m' (Str.ofString "total") = some (.int (if (c == Str.ofString "..") = true then T1 - 1 else T1) t)) ∧ m' (Str.ofString "lowest") = some (.int q.2 t4)) F8 N7 ?_ (fun h4 tk4 m4 F9 N9 hR => ?_)
      · k_steps
        all_goals
          rename Fr _ _ _ _ => F7
          rename News _ _ _ _ => N8
          refine CutR.mk F7 N8 ⟨by with_unfolding_all rfl, ?_, by with_unfolding_all rfl⟩
          simp only [*, if_true, if_false, Bool.false_eq_true]
          exact ⟨_, by with_unfolding_all rfl⟩
      obtain ⟨hp1, ⟨t8, hp2⟩, hp3⟩ := hR
      obtain ⟨T2, hT2⟩ : ∃ T : Int, T = formNext q.1 c := ⟨_, rfl⟩
      have e7 : (if (c == Str.ofString "..") = true then T1 - 1 else T1) = T2 := by rw [hT2, hT1]; rfl
      have e6 : formPart q c = (T2, if T2 < q.2 then T2 else q.2) := by rw [hT2]; rfl
      rw [e7] at hp2
      rw [e6]
      clear hT1 hT2 e7 e6
      have F10 := fr_pin (fr_pin (fr_pin F9 hp1) (x := Str.ofString "total") (v := .int T2 t8) (by with_unfolding_all exact hp2)) (x := Str.ofString "lowest") (v := .int q.2 t4) (by with_unfolding_all exact hp3)
      clear F8 F9 N7
      dsimp only
      k_steps
      all_goals
        rename Fr _ _ _ _ => F7
        rename News _ _ _ _ => N7
        refine turn_end_c F7 N7 ne5 (fun q hq => hq) ⟨by with_unfolding_all rfl, ⟨_, by with_unfolding_all rfl⟩, ?_⟩ (.inl rfl)
        simp only [*, if_true, if_false, Bool.false_eq_true]
        exact ⟨_, by with_unfolding_all rfl⟩
    · rintro m2 h2 tk2 ⟨hq1, ⟨t3, hq2⟩, ⟨t4, hq3⟩⟩ F5 N5
      rw [List.take_of_length_le (by rw [hs.len_eq]; exact Nat.le_refl _)] at hq2 hq3
      clear F4 N4
      k_steps
      exact turn_end_c (news' := []) F5 N5 trivial (fun q hq => .tail _ hq) ⟨hq1, ⟨_, hq2⟩, ⟨_, hq3⟩⟩ (.inl rfl)
  · rintro m₁ news₁ h tk ⟨rfl, hm1, ⟨t1, hm2⟩, ⟨t2, hm3⟩⟩ F2 N2
    rw [List.take_of_length_le (by rw [hys.len_eq]; exact Nat.le_refl _)] at hm1 hm2 hm3
    have F3 := fr_pin (fr_pin (fr_pin F2 (x := Str.ofString "rooted") hm1) (x := Str.ofString "total") (by with_unfolding_all exact hm2)) (x := Str.ofString "lowest") (by with_unfolding_all exact hm3)
    clear F1 N1 F2
    k_steps
    (try dsimp only)
    exact out_form (by k_asm) (by k_asm) (.head _) rfl rfl
end form_spec_c
theorem form_spec {w : World} {p : Program} {loose : List Str} {mean : ExcName → Option Value} {mg : Str → Option Value} {mb : Str → Option Value} {s : Shared} {dp : Nat} {un : Nat} {fr : Option (List Env)} {gd : Option (List Code)} {E : Value → Shared → Prop} {l : Addr} {vs : List Value} {ys : List Str} (KX : (hd.heap_39 w.params).In s.heap) (T : Top p loose mean mg mb s.heap) (hroom : dp + 3 < recursionLimit) (hl : s.heap.IsList l vs.toArray) (hys : StrsAre vs ys) (hb : ∀ y ∈ ys, y.length ≤ 1000) (hn : ys.length ≤ 100) :
    wpAny (model PR w) (Ar dp un fr gd) (call (.ref 178) [.ref l]) (Out s (IsForm s (formF ys).1 (-(formF ys).2.2) ((formF ys).2.1 - (formF ys).2.2))) E s :=
  form_spec_c.fin form_spec_c.at_ (w, p, loose, mean, mg, mb, s, dp, un, fr, gd, E, l, vs, ys) KX T hroom hl hys hb hn
end
section
section
variable {w : World} {p : Program} {loose : List Str} {mean : ExcName → Option Value} {mg mb : Str → Option Value} {s : Shared} {dp un : Nat} {fr : Option (List Env)} {gd : Option (List Code)} {E : Value → Shared → Prop}
def ElEnd (s₂ : Shared) (hb : Heap) (C : Addr) (trk : List (Addr × Obj)) (Rv : Nat → Value → Prop) (Ro : Nat → Obj → Prop) (i : Nat) (v : Value) (s₃ : Shared) : Prop :=
  ∃ h tk mc', s₃ = { s₂ with heap := h, toks := tk } ∧ Fr hb C h mc' ∧ ((News hb C h trk ∧ Rv i v) ∨ ∃ a o, v = .ref a ∧ News hb C h ((a, o) :: trk) ∧ (∀ p ∈ trk, p.1 ≠ a) ∧ Ro i o)
def REnt (Rv : Nat → Value → Prop) (Ro : Nat → Obj → Prop) (ents : List (Addr × Obj)) (i : Nat) (v : Value) : Prop := Rv i v ∨ ∃ a o, v = .ref a ∧ (a, o) ∈ ents ∧ Ro i o
def CElt (prog : Program) (w : World) (A : Around) (env : Env) (scope : Scope) (cl : List (Str × Addr)) (elt : Expr) (s : Shared) (B : Nat → (Str → Option Value) → Prop) (Rv : Nat → Value → Prop) (Ro : Nat → Obj → Prop) : Prop :=
  ∀ i C mc hb trk (s₂ : Shared), (∀ b o, s.heap.get? b = some o → hb.get? b = some o) → B i mc → Fr hb C s₂.heap mc → News hb C s₂.heap trk →
    wpAny (model prog w) A (eval elt (compEnvC scope cl C env)) (ElEnd s₂ hb C trk Rv Ro i) (fun _ _ => False) s₂
def CAsg (prog : Program) (w : World) (A : Around) (env : Env) (scope : Scope) (cl : List (Str × Addr)) (target : Expr) (s : Shared) (I : Addr) (P : Nat → Value → Prop) (St : Nat → Heap → Prop) (B : Nat → (Str → Option Value) → Prop) : Prop :=
  ∀ i v C mc hb (s₁ : Shared) (E : Value → Shared → Prop), (∀ b o, s.heap.get? b = some o → hb.get? b = some o) → P i v → St (i + 1) s₁.heap → Fr hb C s₁.heap mc →
    wpAny (model prog w) A (letOwnedTupleGo target (.ref I) v) (fun _ s₀ => wpAny (model prog w) A (assign target (compEnvC scope cl C env) v)
      (fun _ s₂ => ∃ h tk mc', s₂ = { s₁ with heap := h, toks := tk } ∧ h.Ns C mc' ∧ B i mc' ∧ ∀ b o, b ≠ C → s₁.heap.get? b = some o → h.get? b = some o) E s₀) E s₁
theorem cells_app : ∀ (names : List (Str × NameKind)) (n : Nat) (acc cl : List (Str × Addr)), cellsFrom n names (acc ++ cl) = cellsFrom n names acc ++ cl
  | [], _, _, _ => rfl
  | (x, k) :: r, n, acc, cl => by
    unfold cellsFrom
    split
    · exact cells_app r (n + 1) ((x, n) :: acc) cl
    · exact cells_app r n acc cl
noncomputable def ncells (scope : Scope) (C : Addr) : List (Str × Addr) := cellsFrom (C + 1) scope.names []
theorem comp_env_cells {M : Model} {A : Around} {E : Value → Shared → Prop} {s : Shared} {scope : Scope} {globals : Addr} {cl : List (Str × Addr)} {qual : Str} {outer : Env} {Q : Env → Shared → Prop}
    (h : ∀ h₁, h₁.Ns s.heap.objs.size (fun _ => none) → (∀ b o, s.heap.get? b = some o → h₁.get? b = some o) → (∀ n c, (n, c) ∈ ncells scope s.heap.objs.size → h₁.IsCell c none ∧ s.heap.objs.size < c) → ((ncells scope s.heap.objs.size).Pairwise fun x y => x.2 ≠ y.2) →
      Q { scope := scope, locals := s.heap.objs.size, globals := globals, cells := ncells scope s.heap.objs.size ++ cl, qual := qual, func := none, code := outer.code, frame := outer.frame, builtins := outer.builtins } { s with heap := h₁ }) :
    wpAny M A (newFunctionEnv scope globals cl [] qual none .none (some outer)) Q E s := by
  simp only [newFunctionEnv, Option.isSome_some, if_true]
  refine wpAny_bind (wpAny_alloc ?_)
  refine wpAny_bind (wpAny_layCells _ (fun name kind cells => by cases hkc : kind == NameKind.cell <;> simp [hkc]) _ _ _ _ ?_)
  have ok := cellsFrom_ok scope.names (s.heap.push { cls := .type "dict", data := .dict #[] }) (s.heap.objs.size + 1) [] ⟨fun _ _ hm => (nomatch hm), List.Pairwise.nil⟩ (by rw [Heap.size_push]; exact Nat.le_refl _)
  rw [Heap.size_push] at ok
  rw [show ({ s with heap := s.heap.push { cls := .type "dict", data := .dict #[] } } : Shared).heap.objs.size = s.heap.objs.size + 1 from Heap.size_push ..]
  have e := cells_app scope.names (s.heap.objs.size + 1) [] cl
  rw [List.nil_append] at e
  rw [e]
  rw [List.forIn_nil]
  refine wpAny_bind (wpAny_pure (wpAny_pure ?_))
  exact h _ ((Heap.Ns.new s.heap (.type "dict")).keeps (pushCells_keeps _ _)) (fun b o e => pushCells_keeps _ _ b o (Heap.get?_push_of_some _ e)) (fun n c hm => ⟨(ok.empty n c hm).1, (ok.empty n c hm).2⟩) ok.apart
/-- the cell objects as a ledger -/
theorem cell_ledger {h : Heap} : ∀ {l : List (Str × Addr)}, (∀ n c, (n, c) ∈ l → ∃ v, h.IsCell c v) → ∃ Lc : List (Addr × Obj), (∀ q ∈ Lc, h.get? q.1 = some q.2 ∧ ∃ n, (n, q.1) ∈ l) ∧ ∀ n c, (n, c) ∈ l → ∃ o, (c, o) ∈ Lc ∧ ∃ v, o.data = .cell v
  | [], _ => ⟨[], (fun q hq => by cases hq), fun n c hm => by cases hm⟩
  | (n, c) :: l, hh => by
    obtain ⟨Lc, h1, h2⟩ := cell_ledger (h := h) (l := l) fun n c hm => hh n c (.tail _ hm)
    obtain ⟨v, o, eo, ed⟩ := hh n c (.head _)
    refine ⟨(c, o) :: Lc, fun q hq => ?_, fun n' c' hm => ?_⟩
    · rcases List.mem_cons.mp hq with rfl | hq
      · exact ⟨eo, n, .head _⟩
      · obtain ⟨a, b, d⟩ := h1 q hq
        exact ⟨a, b, .tail _ d⟩
    · rcases List.mem_cons.mp hm with e | hm
      · cases e; exact ⟨o, .head _, v, ed⟩
      · obtain ⟨o', a, b⟩ := h2 n' c' hm
        exact ⟨o', .tail _ a, b⟩
def CEltX (prog : Program) (w : World) (A : Around) (env : Env) (scope : Scope) (cl : List (Str × Addr)) (elt : Expr) (s : Shared) (B : Nat → Addr → Heap → Prop) (Rv : Nat → Value → Prop) (Ro : Nat → Obj → Prop) : Prop :=
  ∀ i C mc hb trk (s₂ : Shared), (∀ b o, s.heap.get? b = some o → hb.get? b = some o) → B i C s₂.heap → Fr hb C s₂.heap mc → News hb C s₂.heap trk →
    wpAny (model prog w) A (eval elt (compEnvC scope (ncells scope C ++ cl) C env)) (ElEnd s₂ hb C trk Rv Ro i) (fun _ _ => False) s₂
def CAsgX (prog : Program) (w : World) (A : Around) (env : Env) (scope : Scope) (cl : List (Str × Addr)) (target : Expr) (s : Shared) (I : Addr) (P : Nat → Value → Prop) (St : Nat → Heap → Prop) (B : Nat → Addr → Heap → Prop) : Prop :=
  ∀ i v C mc hb (s₁ : Shared) (E : Value → Shared → Prop), (∀ b o, s.heap.get? b = some o → hb.get? b = some o) → P i v → St (i + 1) s₁.heap → Fr hb C s₁.heap mc → (∀ n c, (n, c) ∈ ncells scope C → (∃ v, s₁.heap.IsCell c v) ∧ C < c) → ((ncells scope C).Pairwise fun x y => x.2 ≠ y.2) →
    wpAny (model prog w) A (letOwnedTupleGo target (.ref I) v) (fun _ s₀ => wpAny (model prog w) A (assign target (compEnvC scope (ncells scope C ++ cl) C env) v)
      (fun _ s₂ => ∃ h tk mc', s₂ = { s₁ with heap := h, toks := tk } ∧ h.Ns C mc' ∧ B i C h ∧ (∀ n c, (n, c) ∈ ncells scope C → ∃ v, h.IsCell c v) ∧ ∀ b o, b ≠ C → (∀ n, (n, b) ∉ ncells scope C) → s₁.heap.get? b = some o → h.get? b = some o) E s₀) E s₁
end
namespace comp_coreX_c
def Pz (prog : Program) (w : World) (A : Around) (E : Value → Shared → Prop) (s : Shared) (env : Env) (scope : Scope) (cl : List (Str × Addr)) (elt : Expr) (target : Expr) (iter : Expr) (pos : Pos) (cpos : Pos) (Q : Value → Shared → Prop) (use : Option (Value → Sem Unit)) (Rv : Nat → Value → Prop) (Ro : Nat → Obj → Prop) (B : Nat → Addr → Heap → Prop) (P : Nat → Value → Prop) (n : Nat) : Prop := ∀ (hclos : closureFor scope env = pure cl) (hkind : scope.kind = .function) (hnames : ∀ y ∈ scope.names, y.2 = .local → scope.names.lookup y.1 = some .local) (hn : n ≤ 100000) (hit : wpAny (model prog w) A (eval iter env) (fun xv s₁ => wpAny (model prog w) A (pyIter xv) (fun it s₂ => ∃ I fp St, it = .ref I ∧ Walks prog w A I fp [I] n P St ∧ St 0 s₂.heap ∧ (∀ i h, St i h → ∃ o, h.get? I = some o) ∧ (∀ i h h' o, St i h → h.get? I = some o → h'.get? I = some o → (∀ b o, b < s₂.heap.objs.size → (s₂.heap.hide I).get? b = some o → h'.get? b = some o) → St i h') ∧ (∀ b ∈ fp, b < s₂.heap.objs.size) ∧ Keeps s s₂ ∧ s.heap.get? I = none ∧
      CAsgX prog w A env scope cl target s I P St B) E s₁) E s) (helt : CEltX prog w A env scope cl elt s B Rv Ro) (done : ∀ D C h' tk mc (ys : List Value) ents k, ys.length = n → (∀ i y, ys[i]? = some y → REnt Rv Ro ents i y) → (∀ p ∈ ents, h'.get? p.1 = some p.2 ∧ s.heap.get? p.1 = none ∧ p.1 ≠ D ∧ p.1 ≠ C) → h'.get? D = some (PySem.W.listOf ys.toArray k) → s.heap.get? D = none → s.heap.get? C = none → D ≠ C → h'.Ns C mc → (∀ b o, s.heap.get? b = some o → h'.get? b = some o) → compPost (model prog w) A E use Q (.ref D) C (.ok .next) { s with heap := h', toks := tk }) (hs : ∀ x, foldedSetIterable iter env x = pure x),
  wpAny (model prog w) A (comprehension (.ListComp elt [⟨target, iter, [], 0⟩] scope pos) scope env cpos (newList []) false (eval iter env) use) Q E s
abbrev Cx : Type := (Program) × (World) × (Around) × (Value → Shared → Prop) × (Shared) × (Env) × (Scope) × (List (Str × Addr)) × (Expr) × (Expr) × (Expr) × (Pos) × (Pos) × (Value → Shared → Prop) × (Option (Value → Sem Unit)) × (Nat → Value → Prop) × (Nat → Obj → Prop) × (Nat → Addr → Heap → Prop) × (Nat → Value → Prop) × (Nat)
theorem ne : Nonempty Cx := ⟨(default, aWorld 0, ({ handled := none, depth := 0, frames := none, guards := none, units := 0 } : Around), (fun _ _ => True), ({} : Shared), ({ scope := default, locals := (0 : Nat), globals := (0 : Nat), cells := [] } : Env), default, [], default, default, default, default, default, (fun _ _ => True), none, (fun _ _ => True), (fun _ _ => True), (fun _ _ _ => True), (fun _ _ => True), (0 : Nat))⟩
@[irreducible] noncomputable def bad : Cx := @Classical.epsilon Cx ne fun c => ¬ Pz c.1 c.2.1 c.2.2.1 c.2.2.2.1 c.2.2.2.2.1 c.2.2.2.2.2.1 c.2.2.2.2.2.2.1 c.2.2.2.2.2.2.2.1 c.2.2.2.2.2.2.2.2.1 c.2.2.2.2.2.2.2.2.2.1 c.2.2.2.2.2.2.2.2.2.2.1 c.2.2.2.2.2.2.2.2.2.2.2.1 c.2.2.2.2.2.2.2.2.2.2.2.2.1 c.2.2.2.2.2.2.2.2.2.2.2.2.2.1 c.2.2.2.2.2.2.2.2.2.2.2.2.2.2.1 c.2.2.2.2.2.2.2.2.2.2.2.2.2.2.2.1 c.2.2.2.2.2.2.2.2.2.2.2.2.2.2.2.2.1 c.2.2.2.2.2.2.2.2.2.2.2.2.2.2.2.2.2.1 c.2.2.2.2.2.2.2.2.2.2.2.2.2.2.2.2.2.2.1 c.2.2.2.2.2.2.2.2.2.2.2.2.2.2.2.2.2.2.2
theorem fin (h : Pz bad.1 bad.2.1 bad.2.2.1 bad.2.2.2.1 bad.2.2.2.2.1 bad.2.2.2.2.2.1 bad.2.2.2.2.2.2.1 bad.2.2.2.2.2.2.2.1 bad.2.2.2.2.2.2.2.2.1 bad.2.2.2.2.2.2.2.2.2.1 bad.2.2.2.2.2.2.2.2.2.2.1 bad.2.2.2.2.2.2.2.2.2.2.2.1 bad.2.2.2.2.2.2.2.2.2.2.2.2.1 bad.2.2.2.2.2.2.2.2.2.2.2.2.2.1 bad.2.2.2.2.2.2.2.2.2.2.2.2.2.2.1 bad.2.2.2.2.2.2.2.2.2.2.2.2.2.2.2.1 bad.2.2.2.2.2.2.2.2.2.2.2.2.2.2.2.2.1 bad.2.2.2.2.2.2.2.2.2.2.2.2.2.2.2.2.2.1 bad.2.2.2.2.2.2.2.2.2.2.2.2.2.2.2.2.2.2.1 bad.2.2.2.2.2.2.2.2.2.2.2.2.2.2.2.2.2.2.2) (c : Cx) : Pz c.1 c.2.1 c.2.2.1 c.2.2.2.1 c.2.2.2.2.1 c.2.2.2.2.2.1 c.2.2.2.2.2.2.1 c.2.2.2.2.2.2.2.1 c.2.2.2.2.2.2.2.2.1 c.2.2.2.2.2.2.2.2.2.1 c.2.2.2.2.2.2.2.2.2.2.1 c.2.2.2.2.2.2.2.2.2.2.2.1 c.2.2.2.2.2.2.2.2.2.2.2.2.1 c.2.2.2.2.2.2.2.2.2.2.2.2.2.1 c.2.2.2.2.2.2.2.2.2.2.2.2.2.2.1 c.2.2.2.2.2.2.2.2.2.2.2.2.2.2.2.1 c.2.2.2.2.2.2.2.2.2.2.2.2.2.2.2.2.1 c.2.2.2.2.2.2.2.2.2.2.2.2.2.2.2.2.2.1 c.2.2.2.2.2.2.2.2.2.2.2.2.2.2.2.2.2.2.1 c.2.2.2.2.2.2.2.2.2.2.2.2.2.2.2.2.2.2.2 := by
  delta bad at h
  exact Classical.byContradiction fun q => (@Classical.epsilon_spec Cx (fun c => ¬ Pz c.1 c.2.1 c.2.2.1 c.2.2.2.1 c.2.2.2.2.1 c.2.2.2.2.2.1 c.2.2.2.2.2.2.1 c.2.2.2.2.2.2.2.1 c.2.2.2.2.2.2.2.2.1 c.2.2.2.2.2.2.2.2.2.1 c.2.2.2.2.2.2.2.2.2.2.1 c.2.2.2.2.2.2.2.2.2.2.2.1 c.2.2.2.2.2.2.2.2.2.2.2.2.1 c.2.2.2.2.2.2.2.2.2.2.2.2.2.1 c.2.2.2.2.2.2.2.2.2.2.2.2.2.2.1 c.2.2.2.2.2.2.2.2.2.2.2.2.2.2.2.1 c.2.2.2.2.2.2.2.2.2.2.2.2.2.2.2.2.1 c.2.2.2.2.2.2.2.2.2.2.2.2.2.2.2.2.2.1 c.2.2.2.2.2.2.2.2.2.2.2.2.2.2.2.2.2.2.1 c.2.2.2.2.2.2.2.2.2.2.2.2.2.2.2.2.2.2.2) ⟨c, q⟩) h
noncomputable def prog : Program := bad.1
noncomputable def w : World := bad.2.1
noncomputable def A : Around := bad.2.2.1
noncomputable def E : Value → Shared → Prop := bad.2.2.2.1
noncomputable def s : Shared := bad.2.2.2.2.1
noncomputable def env : Env := bad.2.2.2.2.2.1
noncomputable def scope : Scope := bad.2.2.2.2.2.2.1
noncomputable def cl : List (Str × Addr) := bad.2.2.2.2.2.2.2.1
noncomputable def elt : Expr := bad.2.2.2.2.2.2.2.2.1
noncomputable def target : Expr := bad.2.2.2.2.2.2.2.2.2.1
noncomputable def iter : Expr := bad.2.2.2.2.2.2.2.2.2.2.1
noncomputable def pos : Pos := bad.2.2.2.2.2.2.2.2.2.2.2.1
noncomputable def cpos : Pos := bad.2.2.2.2.2.2.2.2.2.2.2.2.1
noncomputable def Q : Value → Shared → Prop := bad.2.2.2.2.2.2.2.2.2.2.2.2.2.1
noncomputable def use : Option (Value → Sem Unit) := bad.2.2.2.2.2.2.2.2.2.2.2.2.2.2.1
noncomputable def Rv : Nat → Value → Prop := bad.2.2.2.2.2.2.2.2.2.2.2.2.2.2.2.1
noncomputable def Ro : Nat → Obj → Prop := bad.2.2.2.2.2.2.2.2.2.2.2.2.2.2.2.2.1
noncomputable def B : Nat → Addr → Heap → Prop := bad.2.2.2.2.2.2.2.2.2.2.2.2.2.2.2.2.2.1
noncomputable def P : Nat → Value → Prop := bad.2.2.2.2.2.2.2.2.2.2.2.2.2.2.2.2.2.2.1
noncomputable def n : Nat := bad.2.2.2.2.2.2.2.2.2.2.2.2.2.2.2.2.2.2.2
theorem at_ (hclos : closureFor scope env = pure cl) (hkind : scope.kind = .function) (hnames : ∀ y ∈ scope.names, y.2 = .local → scope.names.lookup y.1 = some .local) (hn : n ≤ 100000) (hit : wpAny (model prog w) A (eval iter env) (fun xv s₁ => wpAny (model prog w) A (pyIter xv) (fun it s₂ => ∃ I fp St, it = .ref I ∧ Walks prog w A I fp [I] n P St ∧ St 0 s₂.heap ∧ (∀ i h, St i h → ∃ o, h.get? I = some o) ∧ (∀ i h h' o, St i h → h.get? I = some o → h'.get? I = some o → (∀ b o, b < s₂.heap.objs.size → (s₂.heap.hide I).get? b = some o → h'.get? b = some o) → St i h') ∧ (∀ b ∈ fp, b < s₂.heap.objs.size) ∧ Keeps s s₂ ∧ s.heap.get? I = none ∧
      CAsgX prog w A env scope cl target s I P St B) E s₁) E s) (helt : CEltX prog w A env scope cl elt s B Rv Ro) (done : ∀ D C h' tk mc (ys : List Value) ents k, ys.length = n → (∀ i y, ys[i]? = some y → REnt Rv Ro ents i y) → (∀ p ∈ ents, h'.get? p.1 = some p.2 ∧ s.heap.get? p.1 = none ∧ p.1 ≠ D ∧ p.1 ≠ C) → h'.get? D = some (PySem.W.listOf ys.toArray k) → s.heap.get? D = none → s.heap.get? C = none → D ≠ C → h'.Ns C mc → (∀ b o, s.heap.get? b = some o → h'.get? b = some o) → compPost (model prog w) A E use Q (.ref D) C (.ok .next) { s with heap := h', toks := tk }) (hs : ∀ x, foldedSetIterable iter env x = pure x) :
  wpAny (model prog w) A (comprehension (.ListComp elt [⟨target, iter, [], 0⟩] scope pos) scope env cpos (newList []) false (eval iter env) use) Q E s := by
  refine wpAny_comprehension_free (use := use) rfl hs hclos hkind hnames (wpAny_mono hit (fun xv s₁ h₁ => wpAny_mono h₁ (fun it s₂ h₂ => ?_) fun _ _ e => e) fun _ _ e => e)
  obtain ⟨I, fp, St, rfl, WK, hst, hIo, hSt₀, hfp, ⟨g₂, tk₂, rfl, keep₂⟩, hIs, hasg⟩ := h₂
  dsimp only at hst hfp hSt₀
  refine wpAny_newObj_type (comp_env_cells (fun h₁ hns₁ hsb₁ hcl₁ hap => ?_))
  dsimp only at hns₁ hsb₁ hcl₁ hap ⊢
  generalize hH2 : g₂.push { cls := .type "list", dict := none, data := .seq ([] : List Value).toArray } = H2 at hns₁ hsb₁ hcl₁ hap ⊢
  have hC : H2.objs.size = g₂.objs.size + 1 := by rw [← hH2, Heap.size_push]
  generalize hDg : g₂.objs.size = D at *
  generalize hCg : H2.objs.size = C at *
  have hDC : D ≠ C := by rw [hC]; exact Nat.ne_of_lt (Nat.lt_succ_self _)
  have below : ∀ b, b < D → b ≠ C ∧ b ≠ D := fun b hb => ⟨by rw [hC]; exact Nat.ne_of_lt (Nat.lt_succ_of_lt hb), Nat.ne_of_lt hb⟩
  have bc : ∀ n c, (n, c) ∈ ncells scope C → D < c ∧ C < c := fun n c hm => ⟨Nat.lt_trans (by rw [hC]; exact Nat.lt_succ_self _) (hcl₁ n c hm).2, (hcl₁ n c hm).2⟩
  have nc : ∀ b, b ≤ D → ∀ n, (n, b) ∉ ncells scope C := fun b hb n hm => Nat.lt_irrefl _ (Nat.lt_of_lt_of_le (bc n b hm).1 hb)
  have hDf : D ∉ fp := fun hm => Nat.lt_irrefl _ (hfp _ hm)
  have hCf : C ∉ fp := fun hm => by have := hfp _ hm; rw [hC] at this; exact Nat.lt_irrefl _ (Nat.lt_of_succ_lt this)
  have old : ∀ b o, g₂.get? b = some o → h₁.get? b = some o := fun b o e => hsb₁ b o (hH2 ▸ Heap.get?_push_of_some _ e)
  have hacc : h₁.get? D = some (PySem.W.listOf ([] : List Value).toArray 0) := hsb₁ _ _ (by rw [← hH2, ← hDg]; exact Heap.get?_push_size (o := { cls := .type "list", dict := none, data := .seq ([] : List Value).toArray }) g₂ rfl)
  have hst₁ : St 0 h₁ := WK.frame _ _ _ hst fun b _ o e => old b o e
  have hIw : I ∈ fp := WK.sub I (.head _)
  have hCI : C ≠ I := fun e => hCf (e ▸ hIw)
  have hDI : D ≠ I := fun e => hDf (e ▸ hIw)
  have hb0 : ∀ b o, s.heap.get? b = some o → (g₂.hide I).get? b = some o := fun b o e => (Heap.hide_ne g₂ (fun q : b = I => by rw [q, hIs] at e; cases e)).trans (keep₂ b o e)
  have hbI : ∀ b o, (g₂.hide I).get? b = some o → b ≠ I ∧ b ≠ C ∧ b ≠ D ∧ g₂.get? b = some o := fun b o e => by
    have e' := Heap.of_hide e
    exact ⟨fun q => (by rw [q, Heap.hide_self] at e; cases e), (below b (hDg ▸ Heap.lt_size e')).1, (below b (hDg ▸ Heap.lt_size e')).2, e'⟩
  have hCb : (g₂.hide I).objs.size ≤ C := by rw [Heap.hide_size, hDg, hC]; exact Nat.le_succ _
  have hsn : ∀ a, h₁.get? a = none → s.heap.get? a = none := fun a e => by
    cases q : s.heap.get? a with
    | none => rfl
    | some o => rw [old a o (keep₂ a o q)] at e; cases e
  have hDs : s.heap.get? D = none := by
    cases q : s.heap.get? D with
    | none => rfl
    | some o => have := keep₂ D o q; rw [← hDg, Heap.get?_none_of_le (Nat.le_refl _)] at this; cases this
  have hSt : ∀ i h h' {o : Obj}, St i h → h.get? I = some o → h'.get? I = some o → (∀ b o, b < D → (g₂.hide I).get? b = some o → h'.get? b = some o) → St i h' := fun i h h' o a b c d => hSt₀ i h h' o a b c fun b' o' hb' e => d b' o' (hDg ▸ hb') e
  have hDh : (g₂.hide I).get? D = none := (Heap.hide_ne g₂ hDI).trans (by rw [← hDg]; exact Heap.get?_none_of_le (Nat.le_refl _))
  have hs0 : ∀ a, (g₂.hide I).get? a = none → s.heap.get? a = none := fun a e => by
    cases q : s.heap.get? a with
    | none => rfl
    | some o => rw [hb0 a o q] at e; cases e
  have loop : codeAny (model prog w) A (.compLoop (.ListComp elt [⟨target, iter, [], 0⟩] scope pos) 0 (.ref I) (.ref D) (compEnvC scope (ncells scope C ++ cl) C env)) (compPost (model prog w) A E use Q (.ref D) C) { s with heap := h₁, toks := tk₂ } := by
    obtain ⟨INV, hINV⟩ : ∃ INV : Nat → Shared → Prop, INV = (fun k s' => ∃ i h tk mc ys ents c, s' = { s with heap := h, toks := tk } ∧ St i h ∧ i ≤ n ∧ k = n + 1 - i ∧ h.Ns C mc ∧ h.get? D = some (PySem.W.listOf (ys : List Value).toArray c) ∧ ys.length = i ∧
      (∀ j y, ys[j]? = some y → REnt Rv Ro ents j y) ∧ (∀ p ∈ ents, h.get? p.1 = some p.2 ∧ (g₂.hide I).get? p.1 = none ∧ p.1 ≠ I ∧ p.1 ≠ C ∧ p.1 ≠ D ∧ ∀ n, (n, p.1) ∉ ncells scope C) ∧ (∀ b o, (g₂.hide I).get? b = some o → h.get? b = some o) ∧ ∀ n c, (n, c) ∈ ncells scope C → ∃ v, h.IsCell c v) := ⟨_, rfl⟩
    refine kcp_loop INV ?_ (n + 1) (by rw [hINV]; exact ⟨0, h₁, _, _, [], [], 0, rfl, hst₁, Nat.zero_le _, rfl, hns₁, hacc, rfl, (fun j y e => by cases j <;> cases e), (fun p hp => by cases hp), (fun b o e => old b o (hbI b o e).2.2.2), fun n c hm => ⟨_, (hcl₁ n c hm).1⟩⟩)
    intro k s' hk
    rw [hINV] at hk
    obtain ⟨i, h, tk, mc, ys, ents, c, rfl, hsti, hi, rfl, hns, hD, hyl, hye, hen, hkeep, hcl⟩ := hk
    have hIlt : I < D := hDg ▸ hfp I hIw
    by_cases hlt : i < n
    · refine WK.item i _ _ _ hlt hsti fun v ha tka hPv hsta hka => ?_
      have hkA : ∀ b o, b ≠ I → h.get? b = some o → ha.get? b = some o := fun b o hb e => hka b o (by simpa using hb) e
      have FA : Fr (g₂.hide I) C ha mc := ⟨hns.at' fun o e => hkA _ o hCI e, fun b o e => hkA b o (hbI b o e).1 (hkeep b o e), hCb⟩
      refine wpAny_mono (hasg i v C mc (g₂.hide I) { s with heap := ha, toks := tka } _ hb0 hPv hsta FA (fun n c hm => ⟨by obtain ⟨v, o, e, d⟩ := hcl n c hm; exact ⟨v, o, hkA c o (fun q => nc I (Nat.le_of_lt hIlt) n (q ▸ hm)) e, d⟩, (bc n c hm).2⟩) hap) (fun _ s₀ h₀ => wpAny_mono h₀ (fun _ s₂ h₂ => ?_) fun _ _ e => e) fun _ _ e => e
      obtain ⟨hbp, tkb, mc', rfl, hnsb, hB, hclb, hkb⟩ := h₂
      have hkB : ∀ b o, b ≠ I → b ≠ C → (∀ n, (n, b) ∉ ncells scope C) → h.get? b = some o → hbp.get? b = some o := fun b o h1 h2 h3 e => hkb b o h2 h3 (hkA b o h1 e)
      have FB : Fr (g₂.hide I) C hbp mc' := ⟨hnsb, fun b o e => hkB b o (hbI b o e).1 (hbI b o e).2.1 (nc b (Nat.le_of_lt (hDg ▸ Heap.lt_size (hbI b o e).2.2.2))) (hkeep b o e), hCb⟩
      have stB : St (i + 1) hbp := WK.frame _ _ _ hsta fun b hb o e => hkb b o (fun q => hCf (q ▸ hb)) (nc b (Nat.le_of_lt (hDg ▸ hfp b hb))) e
      obtain ⟨oI, hIb⟩ := hIo _ _ stB
      have hDb : hbp.get? D = some (PySem.W.listOf ys.toArray c) := hkB D _ hDI hDC (nc D (Nat.le_refl _)) hD
      obtain ⟨Lc, hLc1, hLc2⟩ := cell_ledger hclb
      have NB : News (g₂.hide I) C hbp ((D, PySem.W.listOf ys.toArray c) :: (I, oI) :: (Lc ++ ents)) := by
        intro p hp
        rcases List.mem_cons.mp hp with rfl | hp
        · exact ⟨hDb, hDC, hDh⟩
        rcases List.mem_cons.mp hp with rfl | hp
        · exact ⟨hIb, Ne.symm hCI, Heap.hide_self _ _⟩
        rcases List.mem_append.mp hp with hp | hp
        · obtain ⟨e1, nn, e2⟩ := hLc1 p hp
          refine ⟨e1, Nat.ne_of_gt (bc nn _ e2).2, ?_⟩
          cases q : (g₂.hide I).get? p.1 with
          | none => rfl
          | some o => exact absurd (Heap.lt_size (hbI _ o q).2.2.2) (by rw [hDg]; exact Nat.not_lt.mpr (Nat.le_of_lt (bc nn _ e2).1))
        · exact ⟨hkB _ _ (hen p hp).2.2.1 (hen p hp).2.2.2.1 (hen p hp).2.2.2.2.2 (hen p hp).1, (hen p hp).2.2.2.1, (hen p hp).2.1⟩
      refine wpAny_mono (helt i C mc' (g₂.hide I) _ { s with heap := hbp, toks := tkb } hb0 hB FB NB) (fun y s₃ h₃ => ?_) fun _ _ e => e.elim
      obtain ⟨hc, tkc, mc2, rfl, FC, hRE⟩ := h₃
      have NC : News (g₂.hide I) C hc ((D, PySem.W.listOf ys.toArray c) :: (I, oI) :: (Lc ++ ents)) := by
        rcases hRE with ⟨N, -⟩ | ⟨a, o, -, N, -, -⟩
        · exact N
        · exact fun p hp => N p (.tail _ hp)
      have hDc : hc.get? D = some (PySem.W.listOf ys.toArray c) := (NC _ (.head _)).1
      have hsz : ys.toArray.size ≤ sizeLine := by rw [List.size_toArray, sizeLine_eq]; omega
      refine wpAny_list_append_plain (hsz := hsz) (s := { s with heap := hc, toks := tkc }) (items := ys.toArray) ⟨c, hDc⟩ fun hd hpl hsd => ?_
      obtain ⟨c', hpl⟩ := hpl
      have hkd : ∀ b o, b ≠ D → hc.get? b = some o → hd.get? b = some o := fun b o h1 e => hsd.extBut b o h1 e
      have stD : St (i + 1) hd := hSt _ _ _ stB hIb (hkd _ _ (Ne.symm hDI) (NC _ (.tail _ (.head _))).1) fun b o hb e => hkd b o (below b hb).2 (FC.keep b o e)
      have key : ∃ ents', (∀ p ∈ ents, p ∈ ents') ∧ REnt Rv Ro ents' i y ∧ ∀ p ∈ ents', hc.get? p.1 = some p.2 ∧ (g₂.hide I).get? p.1 = none ∧ p.1 ≠ I ∧ p.1 ≠ C ∧ p.1 ≠ D ∧ ∀ n, (n, p.1) ∉ ncells scope C := by
        have hold : ∀ p ∈ ents, hc.get? p.1 = some p.2 ∧ (g₂.hide I).get? p.1 = none ∧ p.1 ≠ I ∧ p.1 ≠ C ∧ p.1 ≠ D ∧ ∀ n, (n, p.1) ∉ ncells scope C := fun p hp => ⟨(NC _ (.tail _ (.tail _ (List.mem_append_right _ hp)))).1, (hen p hp).2⟩
        rcases hRE with ⟨-, hv⟩ | ⟨a, o, rfl, N, hne, ho⟩
        · exact ⟨ents, fun p hp => hp, .inl hv, hold⟩
        · refine ⟨(a, o) :: ents, fun p hp => .tail _ hp, .inr ⟨a, o, rfl, .head _, ho⟩, fun p hp => ?_⟩
          rcases List.mem_cons.mp hp with rfl | hp
          · exact ⟨(N _ (.head _)).1, (N _ (.head _)).2.2, Ne.symm (hne _ (.tail _ (.head _))), (N _ (.head _)).2.1, Ne.symm (hne _ (.head _)), fun nn hm => by
            obtain ⟨oc, h1, -⟩ := hLc2 nn _ hm
            exact hne _ (.tail _ (.tail _ (List.mem_append_left _ h1))) rfl⟩
          · exact hold p hp
      obtain ⟨ents', hsub, hRy, hall⟩ := key
      refine ⟨n + 1 - (i + 1), by omega, ?_⟩
      rw [hINV]
      refine ⟨i + 1, hd, tkc, mc2, ys ++ [y], ents', c', rfl, stD, hlt, rfl, FC.ns.sameBut hsd (Ne.symm hDC), by simpa using hpl, by rw [List.length_append, hyl]; rfl, ?_, fun p hp => ⟨hkd _ _ (hall p hp).2.2.2.2.1 (hall p hp).1, (hall p hp).2⟩, (fun b o e => hkd b o (hbI b o e).2.2.1 (FC.keep b o e)), fun nn cc hm => by
        obtain ⟨oc, h1, v, h2⟩ := hLc2 nn cc hm
        exact ⟨v, oc, hkd _ _ (Nat.ne_of_gt (bc nn cc hm).1) (NC _ (.tail _ (.tail _ (List.mem_append_left _ h1)))).1, h2⟩⟩
      intro j z hz
      rcases Nat.lt_trichotomy j ys.length with hj | hj | hj
      · rw [List.getElem?_append_left hj] at hz
        rcases hye j z hz with q | ⟨a, o, e1, e2, e3⟩
        · exact .inl q
        · exact .inr ⟨a, o, e1, hsub _ e2, e3⟩
      · subst hj
        simp at hz
        subst hz
        rw [hyl]; exact hRy
      · have hnone : (ys ++ [y])[j]? = none := List.getElem?_eq_none (by rw [List.length_append, List.length_singleton]; omega)
        rw [hnone] at hz; cases hz
    · have hin : i = n := by omega
      subst hin
      refine WK.done _ _ _ hsti fun ha tka hka => ?_
      have hkA : ∀ b o, b ≠ I → h.get? b = some o → ha.get? b = some o := fun b o hb e => hka b o (by simpa using hb) e
      have hCs : s.heap.get? C = none := by
        cases q : s.heap.get? C with
        | none => rfl
        | some o => exact absurd rfl (hbI C o (hb0 C o q)).2.1
      exact done D C ha tka mc ys ents c hyl hye (fun p hp => ⟨hkA _ _ (hen p hp).2.2.1 (hen p hp).1, hs0 _ (hen p hp).2.1, (hen p hp).2.2.2.2.1, (hen p hp).2.2.2.1⟩) (hkA D _ hDI hD) hDs hCs hDC (hns.at' fun o e => hkA _ o hCI e) fun b o e => hkA b o (hbI b o (hb0 b o e)).1 (hkeep b o (hb0 b o e))
  exact codeAny_compStart_list loop (WK.self 0 _ _ _ hst₁ loop)
end comp_coreX_c
theorem comp_coreX {prog : Program} {w : World} {A : Around} {E : Value → Shared → Prop} {s : Shared} {env : Env} {scope : Scope} {cl : List (Str × Addr)} {elt target iter : Expr} {pos cpos : Pos} {Q : Value → Shared → Prop}
    (use : Option (Value → Sem Unit)) (Rv : Nat → Value → Prop) (Ro : Nat → Obj → Prop) (B : Nat → Addr → Heap → Prop) (P : Nat → Value → Prop) (n : Nat)
    (hclos : closureFor scope env = pure cl) (hkind : scope.kind = .function)
    (hnames : ∀ y ∈ scope.names, y.2 = .local → scope.names.lookup y.1 = some .local) (hn : n ≤ 100000)
    (hit : wpAny (model prog w) A (eval iter env) (fun xv s₁ => wpAny (model prog w) A (pyIter xv) (fun it s₂ => ∃ I fp St, it = .ref I ∧ Walks prog w A I fp [I] n P St ∧ St 0 s₂.heap ∧ (∀ i h, St i h → ∃ o, h.get? I = some o) ∧ (∀ i h h' o, St i h → h.get? I = some o → h'.get? I = some o → (∀ b o, b < s₂.heap.objs.size → (s₂.heap.hide I).get? b = some o → h'.get? b = some o) → St i h') ∧ (∀ b ∈ fp, b < s₂.heap.objs.size) ∧ Keeps s s₂ ∧ s.heap.get? I = none ∧
      CAsgX prog w A env scope cl target s I P St B) E s₁) E s)
    (helt : CEltX prog w A env scope cl elt s B Rv Ro)
    (done : ∀ D C h' tk mc (ys : List Value) ents k, ys.length = n → (∀ i y, ys[i]? = some y → REnt Rv Ro ents i y) → (∀ p ∈ ents, h'.get? p.1 = some p.2 ∧ s.heap.get? p.1 = none ∧ p.1 ≠ D ∧ p.1 ≠ C) → h'.get? D = some (PySem.W.listOf ys.toArray k) → s.heap.get? D = none → s.heap.get? C = none → D ≠ C → h'.Ns C mc → (∀ b o, s.heap.get? b = some o → h'.get? b = some o) → compPost (model prog w) A E use Q (.ref D) C (.ok .next) { s with heap := h', toks := tk })
    (hs : ∀ x, foldedSetIterable iter env x = pure x := by intro _; rfl) :
    wpAny (model prog w) A (comprehension (.ListComp elt [⟨target, iter, [], 0⟩] scope pos) scope env cpos (newList []) false (eval iter env) use) Q E s :=
  comp_coreX_c.fin comp_coreX_c.at_ (prog, w, A, E, s, env, scope, cl, elt, target, iter, pos, cpos, Q, use, Rv, Ro, B, P, n) hclos hkind hnames hn hit helt done hs
section
variable {w : World} {p : Program} {loose : List Str} {mean : ExcName → Option Value} {mg mb : Str → Option Value} {s : Shared} {dp un : Nat} {fr : Option (List Env)} {gd : Option (List Code)} {E : Value → Shared → Prop}
theorem cells_none : ∀ (names : List (Str × NameKind)) (n : Nat) (acc : List (Str × Addr)), (∀ y ∈ names, y.2 ≠ .cell) → cellsFrom n names acc = acc
  | [], _, _, _ => rfl
  | (x, k) :: r, n, acc, h => by
    unfold cellsFrom
    have hk : (k == NameKind.cell) = false := by
      have := h (x, k) (.head _)
      cases k <;> first | rfl | exact absurd rfl this
    rw [hk]
    exact cells_none r n acc fun y hy => h y (.tail _ hy)
theorem ncells_none {scope : Scope} (C : Addr) (h : ∀ y ∈ scope.names, y.2 ≠ .cell) : ncells scope C = [] := cells_none _ _ _ h
theorem comp_coreU {prog : Program} {w : World} {A : Around} {E : Value → Shared → Prop} {s : Shared} {env : Env} {scope : Scope} {cl : List (Str × Addr)} {elt target iter : Expr} {pos cpos : Pos} {Q : Value → Shared → Prop}
    (use : Option (Value → Sem Unit)) (Rv : Nat → Value → Prop) (Ro : Nat → Obj → Prop) (B : Nat → (Str → Option Value) → Prop) (P : Nat → Value → Prop) (n : Nat)
    (hclos : closureFor scope env = pure cl) (hcell : ∀ y ∈ scope.names, y.2 ≠ .cell) (hkind : scope.kind = .function)
    (hnames : ∀ y ∈ scope.names, y.2 = .local → scope.names.lookup y.1 = some .local) (hn : n ≤ 100000)
    (hit : wpAny (model prog w) A (eval iter env) (fun xv s₁ => wpAny (model prog w) A (pyIter xv) (fun it s₂ => ∃ I fp St, it = .ref I ∧ Walks prog w A I fp [I] n P St ∧ St 0 s₂.heap ∧ (∀ i h, St i h → ∃ o, h.get? I = some o) ∧ (∀ i h h' o, St i h → h.get? I = some o → h'.get? I = some o → (∀ b o, b < s₂.heap.objs.size → (s₂.heap.hide I).get? b = some o → h'.get? b = some o) → St i h') ∧ (∀ b ∈ fp, b < s₂.heap.objs.size) ∧ Keeps s s₂ ∧ s.heap.get? I = none ∧
      CAsg prog w A env scope cl target s I P St B) E s₁) E s)
    (helt : CElt prog w A env scope cl elt s B Rv Ro)
    (done : ∀ D C h' tk mc (ys : List Value) ents k, ys.length = n → (∀ i y, ys[i]? = some y → REnt Rv Ro ents i y) → (∀ p ∈ ents, h'.get? p.1 = some p.2 ∧ s.heap.get? p.1 = none ∧ p.1 ≠ D ∧ p.1 ≠ C) → h'.get? D = some (PySem.W.listOf ys.toArray k) → s.heap.get? D = none → s.heap.get? C = none → D ≠ C → h'.Ns C mc → (∀ b o, s.heap.get? b = some o → h'.get? b = some o) → compPost (model prog w) A E use Q (.ref D) C (.ok .next) { s with heap := h', toks := tk })
    (hs : ∀ x, foldedSetIterable iter env x = pure x := by intro _; rfl) :
    wpAny (model prog w) A (comprehension (.ListComp elt [⟨target, iter, [], 0⟩] scope pos) scope env cpos (newList []) false (eval iter env) use) Q E s := by
  have hnc := fun C => ncells_none C hcell
  refine comp_coreX use Rv Ro (fun i C h => ∃ mc, h.Ns C mc ∧ B i mc) P n hclos hkind hnames hn (wpAny_mono hit (fun xv s₁ h₁ => wpAny_mono h₁ (fun it s₂ h₂ => ?_) fun _ _ e => e) fun _ _ e => e) ?_ done hs
  · obtain ⟨I, fp, St, e, WK, a1, a2, a3, a4, a5, a6, hasg⟩ := h₂
    refine ⟨I, fp, St, e, WK, a1, a2, a3, a4, a5, a6, ?_⟩
    intro i v C mc hb s₁ E h1 h2 h3 h4 _ _
    rw [hnc C, List.nil_append]
    refine wpAny_mono (hasg i v C mc hb s₁ E h1 h2 h3 h4) (fun _ s₀ h₀ => wpAny_mono h₀ (fun _ s₂ h₂ => ?_) fun _ _ e => e) fun _ _ e => e
    obtain ⟨h, tk, mc', e, hns, hB, hk⟩ := h₂
    exact ⟨h, tk, mc', e, hns, ⟨mc', hns, hB⟩, (fun n c hm => by cases hm), fun b o hb' _ e => hk b o hb' e⟩
  · intro i C mc hb trk s₂ h1 h2 h3 h4
    rw [hnc C, List.nil_append]
    obtain ⟨mc', hns, hB⟩ := h2
    exact helt i C mc' hb trk s₂ h1 hB ⟨hns, h3.keep, h3.above⟩ h4
theorem comp_core {prog : Program} {w : World} {A : Around} {E : Value → Shared → Prop} {s : Shared} {env : Env} {scope : Scope} {cl : List (Str × Addr)} {elt target iter : Expr} {pos : Pos} {Q : Value → Shared → Prop}
    (Rv : Nat → Value → Prop) (Ro : Nat → Obj → Prop) (B : Nat → (Str → Option Value) → Prop) (P : Nat → Value → Prop) (n : Nat)
    (hclos : closureFor scope env = pure cl) (hcell : ∀ y ∈ scope.names, y.2 ≠ .cell) (hkind : scope.kind = .function)
    (hnames : ∀ y ∈ scope.names, y.2 = .local → scope.names.lookup y.1 = some .local) (hn : n ≤ 100000)
    (hit : wpAny (model prog w) A (eval iter env) (fun xv s₁ => wpAny (model prog w) A (pyIter xv) (fun it s₂ => ∃ I fp St, it = .ref I ∧ Walks prog w A I fp [I] n P St ∧ St 0 s₂.heap ∧ (∀ i h, St i h → ∃ o, h.get? I = some o) ∧ (∀ i h h' o, St i h → h.get? I = some o → h'.get? I = some o → (∀ b o, b < s₂.heap.objs.size → (s₂.heap.hide I).get? b = some o → h'.get? b = some o) → St i h') ∧ (∀ b ∈ fp, b < s₂.heap.objs.size) ∧ Keeps s s₂ ∧ s.heap.get? I = none ∧
      CAsg prog w A env scope cl target s I P St B) E s₁) E s)
    (helt : CElt prog w A env scope cl elt s B Rv Ro)
    (done : ∀ D h' tk (ys : List Value) ents k, ys.length = n → (∀ i y, ys[i]? = some y → REnt Rv Ro ents i y) → (∀ p ∈ ents, h'.get? p.1 = some p.2 ∧ s.heap.get? p.1 = none ∧ p.1 ≠ D) → h'.get? D = some (PySem.W.listOf ys.toArray k) → s.heap.get? D = none → (∀ b o, s.heap.get? b = some o → h'.get? b = some o) → Q (.ref D) { s with heap := h', toks := tk })
    (hs : ∀ x, foldedSetIterable iter env x = pure x := by intro _; rfl) :
    wpAny (model prog w) A (eval (.ListComp elt [⟨target, iter, [], 0⟩] scope pos) env) Q E s := by
  rw [eval_ListComp]
  refine comp_coreU none Rv Ro B P n hclos hcell hkind hnames hn hit helt (fun D C h' tk mc ys ents k hyl hye hen hD hDs hCs hDC hnC hkp => ?_) hs
  exact ⟨mc, hnC, fun h'' hs' => done D h'' tk ys ents k hyl hye (fun p hp => ⟨hs'.extBut _ _ (hen p hp).2.2.2 (hen p hp).1, (hen p hp).2.1, (hen p hp).2.2.1⟩) (hs'.extBut _ _ hDC hD) hDs fun b o e => hs'.extBut b o (fun q => by rw [q, hCs] at e; cases e) (hkp b o e)⟩
end
end
section
section
variable {w : World} {p : Program} {loose : List Str} {mean : ExcName → Option Value} {mg mb : Str → Option Value} {s : Shared} {dp un : Nat} {fr : Option (List Env)} {gd : Option (List Code)} {E : Value → Shared → Prop}
section
variable {M : Model} {A : Around} {s : Shared} {hb : Heap} {C c : Addr} {mc : Str → Option Value} {scope : Scope} {cl : List (Str × Addr)} {env : Env} {x : Str} {pos : Pos} {v : Value} {Q : Value → Shared → Prop} {K : Frag} {o : Obj}
theorem nameP_L (F : Fr hb C s.heap mc) (hv : mc x = some v) (h : Q v s) (hk : scope.kind = .function := by rfl) (hx : (compEnvC scope cl C env).kindOf x = some .local := by rfl) (hd : (x == ("__debug__" : Str)) = false := by decide) :
    wpAny M A (eval (.Name x pos) (compEnvC scope cl C env)) Q E s := wpAny_Name (wpAny_loadName_local (env := compEnvC scope cl C env) hk hx F.ns hv h) hd
theorem nameP_K (F : Fr hb C s.heap mc) (X : K.In hb) (T : Top p loose mean mg mb hb) (e : nsIn K mainGlobals x = some (some v)) (h : Q v s) (hg : env.globals = mainGlobals := by rfl)
    (hk : scope.kind = .function := by rfl) (hx : (compEnvC scope cl C env).kindOf x = some .globalImplicit := by rfl) (hd : (x == ("__debug__" : Str)) = false := by decide) :
    wpAny M A (eval (.Name x pos) (compEnvC scope cl C env)) Q E s :=
  Name_function_global (env := compEnvC scope cl C env) hk hx (loadGlobal_global (env := compEnvC scope cl C env) (mg := mg) (by show s.heap.Ns env.globals mg; rw [hg]; exact T.g.keeps F.keep) (mg_of X T.g e) h) hd
theorem nameP_B (F : Fr hb C s.heap mc) (X : K.In hb) (T : Top p loose mean mg mb hb) (e : nsIn K mainGlobals x = some none) (hv : bootBuiltins x = some v) (hn : x ≠ "__name__") (h : Q v s) (hg : env.globals = mainGlobals := by rfl) (hbi : env.builtins = builtinsNs := by rfl)
    (hk : scope.kind = .function := by rfl) (hx : (compEnvC scope cl C env).kindOf x = some .globalImplicit := by rfl) (hd : (x == ("__debug__" : Str)) = false := by decide) :
    wpAny M A (eval (.Name x pos) (compEnvC scope cl C env)) Q E s :=
  Name_function_global (env := compEnvC scope cl C env) hk hx (loadGlobal_builtin (env := compEnvC scope cl C env) (mg := mg) (mb := mb) (by show s.heap.Ns env.globals mg; rw [hg]; exact T.g.keeps F.keep) (mg_none_of X T.g e) (by show s.heap.Ns env.builtins mb; rw [hbi]; exact T.b.keeps F.keep) ((T.builtins x hn).trans hv) h) hd
theorem nameP_C (F : Fr hb C s.heap mc) (hc : cl.lookup x = some c) (ho : hb.get? c = some o) (hd : o.data = .cell (some v)) (h : Q v s)
    (hk : scope.kind = .function := by rfl) (hx : (compEnvC scope cl C env).kindOf x = some .cell := by rfl) (hb : (x == ("__debug__" : Str)) = false := by decide) :
    wpAny M A (eval (.Name x pos) (compEnvC scope cl C env)) Q E s := wpAny_Name (wpAny_loadName_cell (env := compEnvC scope cl C env) hk hx hc ⟨o, F.keep _ _ ho, hd⟩ h) hb
end
section
variable {prog : Program} {A : Around} {env : Env} {scope : Scope} {cl : List (Str × Addr)} {elt iter : Expr} {x : Str} {px pos : Pos} {Q : Value → Shared → Prop}
theorem casg_name {I : Addr} {P : Nat → Value → Prop} {St : Nat → Heap → Prop} (hkind : scope.kind = .function) (hx : scope.names.lookup x = some .local) :
    CAsg prog w A env scope cl (.Name x px) s I P St (fun i mc => ∃ v, P i v ∧ mc x = some v) := by
  intro i v C mc hb s₁ E hk hP hst F
  refine wpAny_of_eq (a := ()) rfl ?_
  refine wpAny_assign_Name (wpAny_storeName_local (lookup_relabel_local hx) F.ns (fun h₂ hn₂ hs₂ => ?_) (by simp [compEnvC, relabel, hkind]))
  exact ⟨h₂, _, _, rfl, hn₂, ⟨v, hP, by simp⟩, fun b o hne e => hs₂.extBut b o hne e⟩
theorem comp_listN {l : Addr} {its : List Value} (Rv : Nat → Value → Prop) (Ro : Nat → Obj → Prop) (hh : A.handled = none)
    (hclos : closureFor scope env = pure cl) (hcell : ∀ y ∈ scope.names, y.2 ≠ .cell) (hkind : scope.kind = .function)
    (hnames : ∀ y ∈ scope.names, y.2 = .local → scope.names.lookup y.1 = some .local) (hx : scope.names.lookup x = some .local) (hn : its.length ≤ 100000)
    (hit : wpAny (model prog w) A (eval iter env) (fun xv s₁ => xv = .ref l ∧ Keeps s s₁ ∧ s₁.heap.IsList l its.toArray) E s)
    (helt : CElt prog w A env scope cl elt s (fun i mc => ∃ v, its[i]? = some v ∧ mc x = some v) Rv Ro)
    (done : ∀ D h' tk (ys : List Value) ents k, ys.length = its.length → (∀ i y, ys[i]? = some y → REnt Rv Ro ents i y) → (∀ p ∈ ents, h'.get? p.1 = some p.2 ∧ s.heap.get? p.1 = none ∧ p.1 ≠ D) → h'.get? D = some (PySem.W.listOf ys.toArray k) → s.heap.get? D = none → (∀ b o, s.heap.get? b = some o → h'.get? b = some o) → Q (.ref D) { s with heap := h', toks := tk })
    (hs : ∀ x, foldedSetIterable iter env x = pure x := by intro _; rfl) :
    wpAny (model prog w) A (eval (.ListComp elt [⟨.Name x px, iter, [], 0⟩] scope pos) env) Q E s := by
  refine comp_core Rv Ro (fun i mc => ∃ v, its[i]? = some v ∧ mc x = some v) (fun i v => its[i]? = some v) its.length hclos hcell hkind hnames hn (wpAny_mono hit (fun xv s₁ h₁ => ?_) fun _ _ e => e) helt done hs
  obtain ⟨rfl, ⟨g, tk, rfl, hk⟩, hl⟩ := h₁
  refine wpAny_pyIter_list hl ?_
  have hlt : l < g.objs.size := by obtain ⟨_, e, _⟩ := hl; exact Heap.lt_size e
  have up : ∀ b o, g.get? b = some o → (g.push { cls := .type "list_iterator", data := .fields #[.ref l, .int 0 0] }).get? b = some o := fun b o e => Heap.get?_push_of_some _ e
  refine ⟨g.objs.size, [g.objs.size, l], (fun i h => h.IsListIter g.objs.size l i ∧ h.IsList l its.toArray), rfl, ?_, ⟨⟨_, Heap.get?_push_size _ rfl, rfl, rfl⟩, hl.push _⟩, fun i h st => by obtain ⟨o, e, _⟩ := st.1; exact ⟨o, e⟩, ?_, ?_, ⟨_, _, rfl, fun b o e => up b o (hk b o e)⟩, ?_, casg_name hkind hx⟩
  · have WL := Walks.list (prog := prog) (w := w) hh g.objs.size l (Nat.ne_of_lt hlt) its.toArray
    simpa using WL
  · intro i h h' o st e e' kk
    obtain ⟨o', q, r⟩ := st.1
    rw [e] at q; cases q
    obtain ⟨ol, hol, rl⟩ := hl
    exact ⟨⟨o, e', r⟩, ⟨ol, kk l ol (by show l < (g.push _).objs.size; rw [Heap.size_push]; exact Nat.lt_succ_of_lt hlt) ((Heap.hide_ne _ (Nat.ne_of_lt hlt)).trans (up _ _ hol)), rl⟩⟩
  · intro b hb
    show b < (g.push _).objs.size
    rw [Heap.size_push]
    rcases List.mem_cons.mp hb with rfl | hb
    · exact Nat.lt_succ_self _
    · rw [List.mem_singleton.mp hb]; exact Nat.lt_succ_of_lt hlt
  · cases q : s.heap.get? g.objs.size with
    | none => rfl
    | some o => have := hk _ o q; rw [Heap.get?_none_of_le (Nat.le_refl _)] at this; cases this
theorem comp_range {a b : Int} {n : Nat} (Rv : Nat → Value → Prop) (Ro : Nat → Obj → Prop) (hh : A.handled = none)
    (hclos : closureFor scope env = pure cl) (hcell : ∀ y ∈ scope.names, y.2 ≠ .cell) (hkind : scope.kind = .function)
    (hnames : ∀ y ∈ scope.names, y.2 = .local → scope.names.lookup y.1 = some .local) (hx : scope.names.lookup x = some .local) (hn : n ≤ 100000)
    (hsm : Builtin.Range.small a b 1 = true) (hrn : Builtin.Range.rangeSize a b 1 = ((n : Nat) : Int))
    (hit : wpAny (model prog w) A (eval iter env) (fun xv s₁ => ∃ r t u v, xv = .ref r ∧ Keeps s s₁ ∧ IsRange s₁.heap r a b 1 t u v) E s)
    (helt : CElt prog w A env scope cl elt s (fun i mc => ∃ v, (i < n ∧ ∃ t, v = .int (a + (i : Int)) t) ∧ mc x = some v) Rv Ro)
    (done : ∀ D h' tk (ys : List Value) ents k, ys.length = n → (∀ i y, ys[i]? = some y → REnt Rv Ro ents i y) → (∀ p ∈ ents, h'.get? p.1 = some p.2 ∧ s.heap.get? p.1 = none ∧ p.1 ≠ D) → h'.get? D = some (PySem.W.listOf ys.toArray k) → s.heap.get? D = none → (∀ b o, s.heap.get? b = some o → h'.get? b = some o) → Q (.ref D) { s with heap := h', toks := tk })
    (hs : ∀ x, foldedSetIterable iter env x = pure x := by intro _; rfl) :
    wpAny (model prog w) A (eval (.ListComp elt [⟨.Name x px, iter, [], 0⟩] scope pos) env) Q E s := by
  refine comp_core Rv Ro (fun i mc => ∃ v, (i < n ∧ ∃ t, v = .int (a + (i : Int)) t) ∧ mc x = some v) (fun i v => i < n ∧ ∃ t, v = .int (a + (i : Int)) t) n hclos hcell hkind hnames hn (wpAny_mono hit (fun xv s₁ h₁ => ?_) fun _ _ e => e) helt done hs
  obtain ⟨r, t, u, v, rfl, ⟨g, tk, rfl, hk⟩, hr⟩ := h₁
  refine wpAny_pyIter_range hr hsm ?_
  refine ⟨g.objs.size, [g.objs.size], _, rfl, (LCg.range_walks hh a n).bound, (by show IsRangeIter _ _ _ _ _; rw [hrn]; simpa using Heap.get?_push_size _ rfl), fun i h st => ⟨_, st⟩, ?_, ?_, ⟨_, _, rfl, fun b o e => Heap.get?_push_of_some _ (hk b o e)⟩, ?_, casg_name hkind hx⟩
  · intro i h h' o st e e' kk
    have st' : h.get? g.objs.size = some _ := st
    show h'.get? g.objs.size = some _
    rw [e', ← e]; exact st'
  · intro b hb
    rw [List.mem_singleton.mp hb]
    show g.objs.size < (g.push _).objs.size
    rw [Heap.size_push]; exact Nat.lt_succ_self _
  · cases q : s.heap.get? g.objs.size with
    | none => rfl
    | some o => have := hk _ o q; rw [Heap.get?_none_of_le (Nat.le_refl _)] at this; cases this
end
def StopC (P : Prop) : Prop := P
theorem stopC {P : Prop} (h : StopC P) : P := h
theorem StopC.go {P : Prop} (h : P) : StopC P := h
def RangeGot (s : Shared) (a b : Int) (xv : Value) (s₁ : Shared) : Prop := ∃ r t u v, xv = .ref r ∧ Keeps s s₁ ∧ IsRange s₁.heap r a b 1 t u v
def ListGot (s : Shared) (l : Addr) (its : List Value) (xv : Value) (s₁ : Shared) : Prop := xv = .ref l ∧ Keeps s s₁ ∧ s₁.heap.IsList l its.toArray
section
variable {prog : Program} {A : Around} {h₀ : Heap} {L l : Addr} {m : Str → Option Value} {news : List (Addr × Obj)}
theorem ints_of {us : List Value} (h : ∀ v ∈ us, ∃ i t, v = .int i t) : ∃ ms, IntsAre us ms := by
  induction us with
  | nil => exact ⟨[], .nil⟩
  | cons v r ih =>
    obtain ⟨ms, hm⟩ := ih fun q hq => h q (.tail _ hq)
    obtain ⟨i, t, rfl⟩ := h v (.head _)
    exact ⟨i :: ms, .cons i t hm⟩
theorem ints_mem {us : List Value} {ms : List Int} (h : IntsAre us ms) : ∀ v ∈ us, ∃ i t, v = .int i t := by
  induction h with
  | nil => intro v hv; cases hv
  | cons i t _ ih =>
    intro v hv
    rcases List.mem_cons.mp hv with rfl | hv
    · exact ⟨i, t, rfl⟩
    · exact ih v hv
theorem pick_mem {its : Array Value} {lo hi st : Option Int} {v : Value} (h : v ∈ (slicePick its lo hi st).toList) : v ∈ its.toList := by
  unfold slicePick at h
  simp only [List.mem_filterMap] at h
  obtain ⟨i, _, e⟩ := h
  obtain ⟨hlt, e⟩ := Array.getElem?_eq_some_iff.mp e
  rw [← e]
  exact Array.getElem_mem_toList hlt
theorem my_slice3 {value slice : PySem.Expr} {its : Array Value} {vl vu vk : Value} {lo hi st : Option Int} {ms : List Int} {ops : List Value} {Q : Value → Shared → Prop} (F : Fr h₀ L s.heap m) (N : News h₀ L s.heap news) (hl : s.heap.IsList l its) (hints : IntsAre its.toList ms) (pl : IsPart vl lo) (pu : IsPart vu hi) (pk : IsPart vk st) (h0 : st ≠ some 0)
    (h : ∀ D us ws h', Fr h₀ L h' m → News h₀ L h' ((D, PySem.W.listOf (List.toArray us) 0) :: news) → (∀ p ∈ news, p.1 < D) → IntsAre us ws → us.length ≤ its.size → Q (.ref D) { s with heap := h' })
    (hs : subscripted slice false (.ref l) (.ref s.heap.objs.size) = operate ops (getItem (.ref l) (.ref s.heap.objs.size))) (ht : ∀ r, letTemporaryGo value (.ref l) r = pure ()) (hz : its.size ≤ sizeLine) :
    wpAny (model prog w) A (subscriptTail value slice (.ref l) (.ref s.heap.objs.size)) Q E { s with heap := s.heap.push { cls := .type "slice", data := .fields #[vl, vu, vk] } } := by
  obtain ⟨ws, hw⟩ := ints_of (us := (slicePick its lo hi st).toList) fun v hv => ints_mem hints v (pick_mem hv)
  exact kmk_slice3_lit F N hl pl pu pk h0 rfl (fun D h' F' N' l1 => h D _ ws h' F' N' l1 hw (by rw [Array.length_toList]; exact slicePick_size_le its lo hi st)) hs ht hz
end
theorem elend_v {s₂ : Shared} {hb h : Heap} {C : Addr} {trk news : List (Addr × Obj)} {Rv : Nat → Value → Prop} {Ro : Nat → Obj → Prop} {i : Nat} {v : Value} {mc : Str → Option Value} {tk : Nat} (F : Fr hb C h mc) (N : News hb C h news) (hs : ∀ p ∈ trk, p ∈ news) (hv : Rv i v) :
    ElEnd s₂ hb C trk Rv Ro i v { s₂ with heap := h, toks := tk } := ⟨h, tk, mc, rfl, F, .inl ⟨fun p hp => N p (hs p hp), hv⟩⟩
theorem elend_o {s₂ : Shared} {hb h : Heap} {C a : Addr} {trk news : List (Addr × Obj)} {Rv : Nat → Value → Prop} {Ro : Nat → Obj → Prop} {i : Nat} {o : Obj} {mc : Str → Option Value} {tk : Nat} (F : Fr hb C h mc) (N : News hb C h news) (hs : ∀ p ∈ (a, o) :: trk, p ∈ news) (hne : ∀ p ∈ trk, p.1 ≠ a) (hv : Ro i o) :
    ElEnd s₂ hb C trk Rv Ro i (.ref a) { s₂ with heap := h, toks := tk } := ⟨h, tk, mc, rfl, F, .inr ⟨a, o, rfl, fun p hp => N p (hs p hp), hne, hv⟩⟩
theorem range_facts : ∀ H : Fin 41, Builtin.Range.small 0 ((H.val : Nat) : Int) 1 = true ∧ Builtin.Range.rangeSize 0 ((H.val : Nat) : Int) 1 = ((H.val : Nat) : Int) := by decide +kernel
theorem range_small {H : Nat} (h : H ≤ 40) : Builtin.Range.small 0 ((H : Nat) : Int) 1 = true := (range_facts ⟨H, by omega⟩).1
theorem range_size {H : Nat} (h : H ≤ 40) : Builtin.Range.rangeSize 0 ((H : Nat) : Int) 1 = ((H : Nat) : Int) := (range_facts ⟨H, by omega⟩).2
end
end
section
section
variable {w : World} {p : Program} {loose : List Str} {mean : ExcName → Option Value} {mg mb : Str → Option Value} {s : Shared} {dp un : Nat} {fr : Option (List Env)} {gd : Option (List Code)} {E : Value → Shared → Prop}
theorem iter_acc {prog : Program} {w : World} {A : Around} {E : Value → Shared → Prop} {s : Shared} {env : Env} {h₀ : Heap} {x : Str} {px : Pos} {body : List Stmt} {R : Result → Shared → Prop} {l lp : Addr} {its cs₀ : List Value} {n₀ : Nat} {m : Str → Option Value} {rest : List (Addr × Obj)}
    (J : Nat → (Str → Option Value) → List Value → Prop) (hh : A.handled = none) (hx : env.kindOf x = some .local) (hp : (env.scope.kind == .class || (env.scope.kind == .module && env.locals != env.globals)) = false)
    (F : Fr h₀ env.locals s.heap m) (N : News h₀ env.locals s.heap ((lp, PySem.W.listOf cs₀.toArray n₀) :: rest))
    (hsrc : h₀.IsList l its.toArray ∨ ∃ o, (l, o) ∈ rest ∧ o.cls = .type "list" ∧ ∃ n, o.data = .seq its.toArray n)
    (hj : J 0 m cs₀)
    (turn : ∀ I i v m₁ h tk it cs n, its[i]? = some v → J i m₁ cs → Fr h₀ env.locals h (fun y => if y = x then some v else m₁ y) → News h₀ env.locals h ((I, it) :: (lp, PySem.W.listOf cs.toArray n) :: rest) → lp ≠ I → AllNe I rest →
      wpAny (model prog w) A (execs body env) (TurnEnd s h₀ env.locals I it (fun m' news' => ∃ cs' n', news' = (lp, PySem.W.listOf (cs' : List Value).toArray n') :: rest ∧ J (i + 1) m' cs')) (fun _ _ => False) { s with heap := h, toks := tk })
    (done : ∀ m₁ h tk cs n, J its.length m₁ cs → Fr h₀ env.locals h m₁ → News h₀ env.locals h ((lp, PySem.W.listOf cs.toArray n) :: rest) → R (.ok .next) { s with heap := h, toks := tk }) :
    wpAny (model prog w) A (pyIter (.ref l)) (fun it s₂ => codeAny (model prog w) A (.forLoop (.Name x px) it body [] env) R s₂) E s := by
  have hl : s.heap.IsList l its.toArray := by
    rcases hsrc with h | ⟨o, hm, hc, n, hd⟩
    · exact h.at fun o e => F.keep _ o e
    · exact ⟨o, N.get (.tail _ hm), hc, n, hd⟩
  refine wpAny_pyIter_list hl ?_
  refine for_list (s := { s with heap := s.heap.push _ }) (l := l) (its := its) (o₀ := { cls := .type "list_iterator", data := .fields #[.ref l, .int 0 0] }) (fun i m news' => ∃ cs n, news' = (lp, PySem.W.listOf (cs : List Value).toArray n) :: rest ∧ J i m cs) hh hx hp
    (hsrc.imp id fun h i m₁ news₁ hJ => by obtain ⟨cs, n, rfl, -⟩ := hJ; obtain ⟨o, hm, r⟩ := h; exact ⟨o, .tail _ hm, r⟩)
    (F.push _) (News.push F N _) ⟨rfl, rfl⟩ (fun q hq => Nat.ne_of_lt (Heap.lt_size (N q hq).1)) ⟨cs₀, n₀, rfl, hj⟩ ?_ ?_
  · rintro i v m₁ news₁ h tk it hv ⟨cs, n, rfl, hJ⟩ F' N' ne
    exact wpAny_mono (turn _ i v m₁ h tk it cs n hv hJ F' N' ne.1 ne.2) (fun fl s' hq => hq) fun _ _ e => e
  · rintro m₁ news₁ h tk ⟨cs, n, rfl, hJ⟩ F' N'
    exact done m₁ h tk cs n hJ F' N'
def WhileEnd (s : Shared) (h₀ : Heap) (L : Addr) (news : List (Addr × Obj)) (k : Nat) (J : Nat → (Str → Option Value) → Prop) (fl : Flow) (s' : Shared) : Prop :=
  (fl = .next ∨ fl = .cont) ∧ ∃ h' tk' m' k', s' = { s with heap := h', toks := tk' } ∧ Fr h₀ L h' m' ∧ News h₀ L h' news ∧ k' < k ∧ J k' m'
def WhileOut (s : Shared) (h₀ : Heap) (L : Addr) (news : List (Addr × Obj)) (m₁ : Str → Option Value) (s' : Shared) : Prop := ∃ h' tk', s' = { s with heap := h', toks := tk' } ∧ Fr h₀ L h' m₁ ∧ News h₀ L h' news
theorem while_c {prog : Program} {w : World} {A : Around} {E : Value → Shared → Prop} {s : Shared} {env : Env} {h₀ : Heap} {test : Expr} {body : List Stmt} {pos : Pos} {Q : Flow → Shared → Prop} {m : Str → Option Value} {news : List (Addr × Obj)} {k₀ : Nat}
    (J : Nat → (Str → Option Value) → Prop) (P : Nat → Prop)
    (F : Fr h₀ env.locals s.heap m) (N : News h₀ env.locals s.heap news) (hj : J k₀ m)
    (turn : ∀ k m₁ h tk, J k m₁ → Fr h₀ env.locals h m₁ → News h₀ env.locals h news →
      wpAny (model prog w) A (isTrue test env (eval test env)) (fun b s₂ => if b = true then wpAny (model prog w) A (execs body env) (WhileEnd s h₀ env.locals news k J) (fun _ _ => False) s₂ else P k ∧ WhileOut s h₀ env.locals news m₁ s₂) (fun _ _ => False) { s with heap := h, toks := tk })
    (done : ∀ k m₁ h tk, J k m₁ → P k → Fr h₀ env.locals h m₁ → News h₀ env.locals h news → Q .next { s with heap := h, toks := tk }) :
    wpAny (model prog w) A (exec (.While test body [] pos) env) Q E s := by
  refine wpAny_While ?_
  refine codeAny_whileLoop (fun n s' => ∃ h tk m₁, s' = { s with heap := h, toks := tk } ∧ Fr h₀ env.locals h m₁ ∧ News h₀ env.locals h news ∧ J n m₁) ?_ k₀ ⟨s.heap, s.toks, m, rfl, F, N, hj⟩
  rintro n s' ⟨h, tk, m₁, rfl, F₁, N₁, hJ⟩
  refine wpAny_mono (turn n m₁ h tk hJ F₁ N₁) (fun b s₂ hb => ?_) fun _ _ e => e.elim
  cases b with
  | true =>
    simp only [if_true] at hb ⊢
    refine wpAny_mono hb (fun fl s₃ h₃ => ?_) fun _ _ e => e.elim
    obtain ⟨hfl, h', tk', m', k', rfl, F', N', hlt, hJ'⟩ := h₃
    rcases hfl with rfl | rfl <;> exact ⟨k', hlt, h', tk', m', rfl, F', N', hJ'⟩
  | false =>
    simp only [Bool.false_eq_true, if_false] at hb ⊢
    obtain ⟨hP, h', tk', rfl, F', N'⟩ := hb
    exact wpAny_execs_nil (done n m₁ h' tk' hJ hP F' N')
theorem while_end {s : Shared} {h₀ h' : Heap} {L : Addr} {news : List (Addr × Obj)} {k k' : Nat} {J : Nat → (Str → Option Value) → Prop} {fl : Flow} {tk' : Nat} {m' : Str → Option Value} {news' : List (Addr × Obj)} (F : Fr h₀ L h' m') (N : News h₀ L h' news') (hs : ∀ p ∈ news, p ∈ news') (hlt : k' < k) (hj : J k' m') (hf : fl = .next ∨ fl = .cont) :
    WhileEnd s h₀ L news k J fl { s with heap := h', toks := tk' } := ⟨hf, h', tk', m', k', rfl, F, fun p hp => N p (hs p hp), hlt, hj⟩
theorem while_out {s : Shared} {h₀ h' : Heap} {L : Addr} {news news' : List (Addr × Obj)} {m₁ : Str → Option Value} {tk' : Nat} (F : Fr h₀ L h' m₁) (N : News h₀ L h' news') (hs : ∀ p ∈ news, p ∈ news') : WhileOut s h₀ L news m₁ { s with heap := h', toks := tk' } := ⟨h', tk', rfl, F, fun p hp => N p (hs p hp)⟩

theorem ints_item {us : List Value} {ms : List Int} (h : IntsAre us ms) : ∀ (i : Nat) (v : Value), us[i]? = some v → ∃ z t, ms[i]? = some z ∧ v = .int z t := by
  induction h with
  | nil => intro i v hv; cases i <;> cases hv
  | cons z t _ ih =>
    intro i v hv
    cases i with
    | zero => cases hv; exact ⟨z, t, rfl, rfl⟩
    | succ i => exact ih i v hv

theorem allNe_mem {I : Nat} : ∀ {l : List (Addr × Obj)}, AllNe I l → ∀ p ∈ l, p.1 ≠ I
  | [], _, _, hp => by cases hp
  | q :: r, h, p, hp => by
    rcases List.mem_cons.mp hp with rfl | hp
    · exact h.1
    · exact allNe_mem h.2 p hp
theorem turn_end_a {s : Shared} {h₀ h' : Heap} {L I : Addr} {it : Obj} {J : (Str → Option Value) → List (Addr × Obj) → Prop} {fl : Flow} {tk' : Nat} {m' : Str → Option Value} {news news' : List (Addr × Obj)}
    (F : Fr h₀ L h' m') (N : News h₀ L h' news) (ne : AllNe I news') (hs : ∀ p ∈ (I, it) :: news', p ∈ news) (hj : J m' news') (hf : fl = .next ∨ fl = .cont) :
    TurnEnd s h₀ L I it J fl { s with heap := h', toks := tk' } := turn_end F N (hs _ (.head _)) (fun p hp => hs _ (.tail _ hp)) (allNe_mem ne) hj hf
end
end
section
local macro_rules | `(tactic| walk_at "eval ListComp") => `(tactic| (refine stopC ?_))
local macro_rules | `(tactic| walk_at "eval Name") => `(tactic| k_dflt (first
  | ((refine' nameP_L ?F ?v ?_ ?a ?b ?c); (case F => k_asm); (case a => rfl); (case b => rfl); (case c => decide); (case v => rfl); k_whole)
  | ((refine' nameP_C ?F ?c ?o ?d ?_ ?a ?b ?e); (case F => k_asm); (case a => rfl); (case b => rfl); (case e => decide); (case c => rfl); (case o => k_asm); (case d => k_asm); k_whole)
  | ((refine' nameP_K ?F ?X ?T ?e ?_ ?a ?b ?c ?d); (case F => k_asm); (case X => k_asm); (case T => k_asm); (case a => rfl); (case b => rfl); (case c => rfl); (case d => decide); (case e => k_is); k_whole)
  | ((refine' nameP_B ?F ?X ?T ?e ?v ?n ?_ ?g ?i ?a ?b ?c); (case F => k_asm); (case X => k_asm); (case T => k_asm); (case g => rfl); (case i => rfl); (case a => rfl); (case b => rfl); (case c => decide); (case e => k_is); (case v => boot_fast); (case n => decide); k_whole)))
local macro_rules | `(tactic| walk_at "call type:range") => `(tactic| ((with_reducible show wpAny _ _ (call _ [_]) _ _ _); k_dflt (refine' range1_rows ?F ?N ?_; walk_at "My fn"; k_whole; intro h' tk' t1 u1 v1 hR' F' N' hK')))
section
local macro_rules | `(tactic| walk_at "subscriptTail Name Slice ref ref") => `(tactic| ((with_reducible show wpAny _ _ (subscriptTail _ (PySem.Expr.Slice _ _ (some _) _) (Value.ref _) (Value.ref _)) _ _ _); k_dflt (refine' my_slice3 ?F ?N ?l ?i ?p ?q ?k ?o ?_ ?s ?t ?z; walk_at "My fn"; (case l => first | assumption | (refine Heap.IsList.at (by assumption) (fun o e => Fr.keep (by assumption) _ o e))); (case i => k_asm); (case p => kmk_part); (case q => kmk_part); (case k => kmk_part); (case o => (intro q; have q2 := Option.some.inj q; omega)); (case s => with_unfolding_all rfl); (case t => kmk_pure); (case z => (rw [List.size_toArray, sizeLine_eq]; omega)); k_whole; intro D' us' ws' h' F' N' l1' hI' hz'; (try k_sweep))))
local macro_rules | `(tactic| walk_at "binaryOp Add ref ref") => `(tactic| k_dflt (refine' my_add (vs := [_, _, _]) ?F ?N ?m ?m2 ?x ?_; walk_at "My fn"; (case m => k_mem); (case m2 => k_mem); (case x => (simp only [List.length_cons, List.length_nil]; omega)); k_whole; intro D' h' F' N' l1'; (try k_lt l1'); (try k_sweep)))
local macro_rules | `(tactic| walk_at "exec For Name Name cons nil") => `(tactic| k_dflt (refine wpAny_For ?_))
local macro_rules | `(tactic| walk_at "pyIter ref") => `(tactic| (refine stopC ?_))
local macro_rules | `(tactic| walk_at "exec While Name cons nil") => `(tactic| (refine stopC ?_))
section
variable {w : World} {p : Program} {loose : List Str} {mean : ExcName → Option Value} {mg mb : Str → Option Value} {s : Shared} {dp un : Nat} {fr : Option (List Env)} {gd : Option (List Code)} {E : Value → Shared → Prop}
noncomputable def tabN (k : Nat) : Str := match k with
  | 0 => Str.ofString "\""
  | 1 => Str.ofString ".."
  | 2 => Str.ofString "\""
  | 3 => Str.ofString "."
  | _ => Str.ofString ""
noncomputable def figsN : Nat → Nat → Str → Str
  | 0, _, x => x
  | n + 1, f, x => if f = 0 then x else figsN n (f / 5) (x ++ Str.ofString "/" ++ tabN (f % 5))
noncomputable def pieceOf (z : Int) : Str := figsN 5 ((z.fdiv 4).fmod 625).toNat (if z.fmod 4 = 3 then Str.ofString "/." else Str.ofString ".")
theorem tab_len (c : Nat) : (tabN c).length ≤ 2 := by
  unfold tabN
  split <;> decide +kernel
theorem fdiv5 (k : Nat) : ((k : Nat) : Int).fdiv 5 = ((k / 5 : Nat) : Int) := by
  rw [Int.fdiv_eq_ediv_of_nonneg _ (by decide)]; omega
theorem figs_step {nn k : Nat} {e : Int} {x target : Str} (hfig : figsN nn k x = target) (hk : ((k : Nat) : Int) ≠ 0) (hk5 : k < 5 ^ nn) (hm : ((k : Nat) : Int).fmod 5 = e) (hxl : x.length + 3 * nn ≤ 17) :
    ∃ n', nn = n' + 1 ∧ figsN n' (k / 5) (x ++ Str.ofString "/" ++ tabN e.toNat) = target ∧ k / 5 < 5 ^ n' ∧ k / 5 < k ∧ (x ++ Str.ofString "/" ++ tabN e.toNat).length + 3 * n' ≤ 17 := by
  cases nn with
  | zero => simp at hk5; omega
  | succ n' =>
    have hk0 : k ≠ 0 := by omega
    rw [figsN, if_neg hk0] at hfig
    rw [Int.fmod_eq_emod_of_nonneg _ (by decide)] at hm
    have he : k % 5 = e.toNat := by omega
    rw [he] at hfig
    have h2 := tab_len e.toNat
    have e1 : (Str.ofString "/").length = 1 := by decide
    refine ⟨n', rfl, hfig, ?_, ?_, ?_⟩
    · rw [Nat.pow_succ, Nat.mul_comm] at hk5; exact Nat.div_lt_of_lt_mul hk5
    · exact Nat.div_lt_self (Nat.pos_of_ne_zero hk0) (by decide)
    · rw [Str.length_append, Str.length_append, e1]; omega
end
local macro_rules | `(tactic| walk_at "call builtin:list.append") => `(tactic| k_dflt (refine' my_append ?F ?N ?U ?z ?_; walk_at "My fn"; (case U => k_upd); (case z => omega); k_whole; intro h' F' N'; (try k_sweep)))
section
variable {w : World} {p : Program} {loose : List Str} {mean : ExcName → Option Value} {mg mb : Str → Option Value} {s : Shared} {dp un : Nat} {fr : Option (List Env)} {gd : Option (List Code)} {E : Value → Shared → Prop}
def IsPieces (s : Shared) : Value → Heap → Prop := fun v h => ∃ D cs n, ∃ zs : List Int, v = .ref D ∧ h.get? D = some (PySem.W.listOf (List.toArray cs) n) ∧ s.heap.get? D = none ∧ StrsAre cs (zs.map pieceOf) ∧ (∀ z ∈ zs, 0 ≤ z) ∧ zs.length ≤ 6
end
namespace pieces_spec_c
def Pz (w : World) (p : Program) (loose : List Str) (mean : ExcName → Option Value) (mg : Str → Option Value) (mb : Str → Option Value) (s : Shared) (dp : Nat) (un : Nat) (fr : Option (List Env)) (gd : Option (List Code)) (E : Value → Shared → Prop) (l : Addr) (vs : List Value) (ns : List Int) : Prop := ∀ (KX : (hd.heap_39 w.params).In s.heap) (T : Top p loose mean mg mb s.heap) (hroom : dp + 3 < recursionLimit) (hl : s.heap.IsList l vs.toArray) (hys : IntsAre vs ns) (hn : ns.length ≤ 40),
  wpAny (model PR w) (Ar dp un fr gd) (call (.ref 157) [.ref l]) (Out s (IsPieces s)) E s
abbrev Cx : Type := (World) × (Program) × (List Str) × (ExcName → Option Value) × (Str → Option Value) × (Str → Option Value) × (Shared) × (Nat) × (Nat) × (Option (List Env)) × (Option (List Code)) × (Value → Shared → Prop) × (Addr) × (List Value) × (List Int)
theorem ne : Nonempty Cx := ⟨(aWorld 0, default, [], (fun _ => none), (fun _ => none), (fun _ => none), ({} : Shared), (0 : Nat), (0 : Nat), none, none, (fun _ _ => True), (0 : Nat), [], [])⟩
@[irreducible] noncomputable def bad : Cx := @Classical.epsilon Cx ne fun c => ¬ Pz c.1 c.2.1 c.2.2.1 c.2.2.2.1 c.2.2.2.2.1 c.2.2.2.2.2.1 c.2.2.2.2.2.2.1 c.2.2.2.2.2.2.2.1 c.2.2.2.2.2.2.2.2.1 c.2.2.2.2.2.2.2.2.2.1 c.2.2.2.2.2.2.2.2.2.2.1 c.2.2.2.2.2.2.2.2.2.2.2.1 c.2.2.2.2.2.2.2.2.2.2.2.2.1 c.2.2.2.2.2.2.2.2.2.2.2.2.2.1 c.2.2.2.2.2.2.2.2.2.2.2.2.2.2
theorem fin (h : Pz bad.1 bad.2.1 bad.2.2.1 bad.2.2.2.1 bad.2.2.2.2.1 bad.2.2.2.2.2.1 bad.2.2.2.2.2.2.1 bad.2.2.2.2.2.2.2.1 bad.2.2.2.2.2.2.2.2.1 bad.2.2.2.2.2.2.2.2.2.1 bad.2.2.2.2.2.2.2.2.2.2.1 bad.2.2.2.2.2.2.2.2.2.2.2.1 bad.2.2.2.2.2.2.2.2.2.2.2.2.1 bad.2.2.2.2.2.2.2.2.2.2.2.2.2.1 bad.2.2.2.2.2.2.2.2.2.2.2.2.2.2) (c : Cx) : Pz c.1 c.2.1 c.2.2.1 c.2.2.2.1 c.2.2.2.2.1 c.2.2.2.2.2.1 c.2.2.2.2.2.2.1 c.2.2.2.2.2.2.2.1 c.2.2.2.2.2.2.2.2.1 c.2.2.2.2.2.2.2.2.2.1 c.2.2.2.2.2.2.2.2.2.2.1 c.2.2.2.2.2.2.2.2.2.2.2.1 c.2.2.2.2.2.2.2.2.2.2.2.2.1 c.2.2.2.2.2.2.2.2.2.2.2.2.2.1 c.2.2.2.2.2.2.2.2.2.2.2.2.2.2 := by
  delta bad at h
  exact Classical.byContradiction fun q => (@Classical.epsilon_spec Cx (fun c => ¬ Pz c.1 c.2.1 c.2.2.1 c.2.2.2.1 c.2.2.2.2.1 c.2.2.2.2.2.1 c.2.2.2.2.2.2.1 c.2.2.2.2.2.2.2.1 c.2.2.2.2.2.2.2.2.1 c.2.2.2.2.2.2.2.2.2.1 c.2.2.2.2.2.2.2.2.2.2.1 c.2.2.2.2.2.2.2.2.2.2.2.1 c.2.2.2.2.2.2.2.2.2.2.2.2.1 c.2.2.2.2.2.2.2.2.2.2.2.2.2.1 c.2.2.2.2.2.2.2.2.2.2.2.2.2.2) ⟨c, q⟩) h
noncomputable def w : World := bad.1
noncomputable def p : Program := bad.2.1
noncomputable def loose : List Str := bad.2.2.1
noncomputable def mean : ExcName → Option Value := bad.2.2.2.1
noncomputable def mg : Str → Option Value := bad.2.2.2.2.1
noncomputable def mb : Str → Option Value := bad.2.2.2.2.2.1
noncomputable def s : Shared := bad.2.2.2.2.2.2.1
noncomputable def dp : Nat := bad.2.2.2.2.2.2.2.1
noncomputable def un : Nat := bad.2.2.2.2.2.2.2.2.1
noncomputable def fr : Option (List Env) := bad.2.2.2.2.2.2.2.2.2.1
noncomputable def gd : Option (List Code) := bad.2.2.2.2.2.2.2.2.2.2.1
noncomputable def E : Value → Shared → Prop := bad.2.2.2.2.2.2.2.2.2.2.2.1
noncomputable def l : Addr := bad.2.2.2.2.2.2.2.2.2.2.2.2.1
noncomputable def vs : List Value := bad.2.2.2.2.2.2.2.2.2.2.2.2.2.1
noncomputable def ns : List Int := bad.2.2.2.2.2.2.2.2.2.2.2.2.2.2
theorem at_ (KX : (hd.heap_39 w.params).In s.heap) (T : Top p loose mean mg mb s.heap) (hroom : dp + 3 < recursionLimit) (hl : s.heap.IsList l vs.toArray) (hys : IntsAre vs ns) (hn : ns.length ≤ 40) :
  wpAny (model PR w) (Ar dp un fr gd) (call (.ref 157) [.ref l]) (Out s (IsPieces s)) E s := by
  (refine' enterC (binds := [(Str.ofString "script", .ref l)]) KX T ?k6 ?k7 ?k8 ?k9 ?kB ?kD ?_ ?c2 ?c3 ?c4; (case k6 => k_is); (case k7 => k_is); (case k8 => walk_at "My room"); (case k9 => exact BindsTo.of_eq rfl); (case kB => exact rfl); (case kD => decide +kernel); (case c2 => exact rfl); (case c3 => exact rfl); (case c4 => exact rfl); intro L h₁ tk cells F N Y; k_cells Y; (try simp only [List.cons_append, List.nil_append] at N); (try dsimp only))
  have hln := hys.length
  k_steps
  refine StopC.go ?_
  rename Fr _ _ _ _ => F1
  rename News _ _ _ _ => N1
  rename Obj.data _ = Data.cell (bindC _ _ _ _) => dS
  rename Obj.data _ = Data.cell (some (Value.int _ _)) => dH
  obtain ⟨H, hH, hH3⟩ : ∃ H : Nat, (if ((ns.length : Nat) : Int) < 3 then ((ns.length : Nat) : Int) else 3) = (H : Int) ∧ H ≤ 3 := by
    by_cases h : ((ns.length : Nat) : Int) < 3
    · exact ⟨ns.length, by rw [if_pos h], by omega⟩
    · exact ⟨3, by rw [if_neg h]; rfl, Nat.le_refl _⟩
  rw [hH] at dH
  refine comp_range (a := 0) (b := (H : Int)) (n := H) (fun _ v => ∃ z t, 0 ≤ z ∧ v = .int z t) (fun _ _ => False) rfl rfl (by decide) rfl (by decide) rfl (by omega) (range_small (by omega)) (range_size (by omega)) ?_ ?_ ?_
  · refine wpAny_mono (Q := RangeGot _ _ _) ?_ (fun _ _ h => h) (fun _ _ e => e)
    k_steps
    exact ⟨_, _, _, _, rfl, ⟨_, _, rfl, by assumption⟩, by assumption⟩
  · intro i C mc hb trk s₂ hk hB F N
    obtain ⟨v, ⟨hiH, t, rfl⟩, hx⟩ := hB
    have KX' := (KX.keeps F1.keep).keeps hk
    have T' := (T.keeps F1.keep).keeps hk
    have hcS := hk _ _ (News.get N1 (.tail _ (.tail _ (.head _))))
    have hcH := hk _ _ (News.get N1 (.tail _ (.head _)))
    have hlb : hb.IsList l vs.toArray := (hl.at fun o e => F1.keep _ o e).at fun o e => hk _ o e
    have F3 := fr_pin F hx
    clear F F1 N1 KX T
    k_steps
    rename Fr _ _ _ _ => F4
    rename News _ _ _ _ => N4
    exact elend_v F4 N4 (fun p hp => by first | exact hp | exact .tail _ hp | exact .tail _ (.tail _ hp)) ⟨_, _, by split <;> omega, rfl⟩
  · intro D h' tk' ys ents k hyl hye hen hD hDs hkp
    have F2 := fr_up F1 hkp
    have N2 := news_new F1 N1 (news_up N1 hkp) hD hDs
    have hints : ∃ ms, IntsAre ys ms ∧ ∀ z ∈ ms, 0 ≤ z := by
      have hall : ∀ v ∈ ys, ∃ z t, 0 ≤ z ∧ v = .int z t := fun v hv => by
        obtain ⟨i, hi⟩ := List.getElem?_of_mem hv
        rcases hye i v hi with h | ⟨a, o, -, -, h⟩
        · exact h
        · exact h.elim
      clear hye hyl hD N2
      induction ys with
      | nil => exact ⟨[], .nil, fun _ h => by cases h⟩
      | cons v r ih =>
        obtain ⟨ms, h1, h2⟩ := ih fun q hq => hall q (.tail _ hq)
        obtain ⟨z, t, hz, rfl⟩ := hall v (.head _)
        exact ⟨z :: ms, .cons z t h1, fun q hq => by
          rcases List.mem_cons.mp hq with rfl | hq
          · exact hz
          · exact h2 q hq⟩
    obtain ⟨ms, hms, hms0⟩ := hints
    obtain ⟨N2, hne2⟩ := N2
    have hlm := hms.length
    clear F1 N1 hye hD
    k_steps
    refine StopC.go ?_
    rename Fr _ _ _ _ => F4
    rename News _ _ _ _ => N4
    rename_i lnum g3 l1x g2 lp g1 l1y g0
    have hits : ∀ a b c : Tok, IntsAre ([Value.int 44 a, .int 28 b, .int 11 c] ++ ys) ([44, 28, 11] ++ ms) := fun a b c => .cons _ _ (.cons _ _ (.cons _ _ hms))
    refine iter_acc (fun i m cs => ∃ zs : List Int, zs.length = i ∧ (∀ z ∈ zs, 0 ≤ z) ∧ StrsAre cs (zs.map pieceOf) ∧ m (Str.ofString "pieces") = some (.ref lp)) rfl rfl rfl F4 N4 (.inr ⟨_, .head _, rfl, _, rfl⟩) ⟨[], rfl, (fun _ h => by cases h), .nil, rfl⟩ ?_ ?_
    · rintro I i v m₁ h tk it cs n hv ⟨zs, hzl, hz0, hcs, hm1⟩ F5 N5 hlI hnI
      obtain ⟨z, t, hz, rfl⟩ := ints_item (hits _ _ _) i v hv
      have hz1 : 0 ≤ z := by
        rcases List.mem_append.mp (List.mem_of_getElem? hz) with q | q
        · simp only [List.mem_cons, List.not_mem_nil, or_false] at q; omega
        · exact hms0 z q
      have hnI0 := hnI
      have hlI2 : @Ne Nat lp I := hlI
      simp only [AllNe, and_true] at hnI
      have hcl : cs.length ≤ 1000 := by
        have h1 := hcs.len_eq
        have h2 := (List.getElem?_eq_some_iff.mp hv).1
        simp only [List.length_append, List.length_cons, List.length_nil] at h2
        rw [List.length_map] at h1
        omega
      clear F4 N4
      refine cut_if (fun m' => (∃ t', m' (Str.ofString "figures") = some (.int ((z.fdiv 4).fmod 625) t')) ∧ m' (Str.ofString "number") = some (.int z t) ∧ m' (Str.ofString "pieces") = some (.ref lp)) F5 N5 ?_ (fun h3 tk3 m3 F6 N6 hR => ?_)
      · k_steps
        rename Fr _ _ _ _ => F7
        rename News _ _ _ _ => N7
        exact CutR.mk F7 N7 ⟨⟨_, by with_unfolding_all rfl⟩, by with_unfolding_all rfl, by with_unfolding_all exact hm1⟩
      obtain ⟨⟨t3, hf3⟩, hn3, hp3⟩ := hR
      have F7 := fr_pin F6 hn3
      clear F5 N5 F6
      refine cut_if (fun m' => (∃ t', m' (Str.ofString "piece") = some (.str (if z.fmod 4 = 3 then Str.ofString "/." else Str.ofString ".") t')) ∧ m' (Str.ofString "figures") = some (.int ((z.fdiv 4).fmod 625) t3) ∧ m' (Str.ofString "pieces") = some (.ref lp)) F7 N6 ?_ (fun h4 tk4 m4 F8 N8 hR => ?_)
      · k_steps
        all_goals
          rename Fr _ _ _ _ => F9
          rename News _ _ _ _ => N9
          refine CutR.mk F9 N9 ⟨?_, by with_unfolding_all exact hf3, by with_unfolding_all exact hp3⟩
          first
            | (rw [if_pos (by assumption)]; exact ⟨_, by with_unfolding_all rfl⟩)
            | (rw [if_neg (by assumption)]; exact ⟨_, by with_unfolding_all rfl⟩)
      obtain ⟨⟨t4, hx4⟩, hf4, hp4⟩ := hR
      have F9 := fr_pin (fr_pin (fr_pin F8 hp4) (x := Str.ofString "piece") (v := .str (if z.fmod 4 = 3 then Str.ofString "/." else Str.ofString ".") t4) (by with_unfolding_all exact hx4)) (x := Str.ofString "figures") (v := .int ((z.fdiv 4).fmod 625) t3) (by with_unfolding_all exact hf4)
      clear F7 F8 N6
      dsimp only
      k_steps
      refine StopC.go ?_
      rename Fr _ _ _ _ => F6
      rename News _ _ _ _ => N6
      have hK0 : 0 ≤ (z.fdiv 4).fmod 625 := Int.fmod_nonneg_of_pos _ (by decide)
      have hK1 : (z.fdiv 4).fmod 625 < 625 := Int.fmod_lt_of_pos _ (by decide)
      obtain ⟨K, hK⟩ : ∃ K : Nat, (z.fdiv 4).fmod 625 = (K : Int) := ⟨_, (Int.toNat_of_nonneg hK0).symm⟩
      have hp0 : pieceOf z = figsN 5 K (if z.fmod 4 = 3 then Str.ofString "/." else Str.ofString ".") := by unfold pieceOf; rw [hK, Int.toNat_natCast]
      rw [hK] at hK1
      refine while_c (k₀ := K) (fun k m => ∃ x tf tx n, m (Str.ofString "figures") = some (.int (k : Int) tf) ∧ m (Str.ofString "piece") = some (.str x tx) ∧ m (Str.ofString "pieces") = some (.ref lp) ∧ figsN n k x = pieceOf z ∧ k < 5 ^ n ∧ n ≤ 5 ∧ x.length + 3 * n ≤ 17) (fun k => k = 0) F6 N6
        ⟨_, _, _, 5, (by rw [← hK]; with_unfolding_all rfl), (by with_unfolding_all rfl), (by with_unfolding_all rfl), hp0.symm, (by omega), (by omega), (by split <;> decide +kernel)⟩ ?_ ?_
      · rintro k m2 h2 tk2 ⟨x, tf, tx, nn, hf, hx, hpc, hfig, hk5, hn5, hxl⟩ F7 N7
        have F8 := fr_pin (fr_pin F7 hf) (x := Str.ofString "piece") (by with_unfolding_all exact hx)
        clear F6 N6
        k_steps
        rotate_right 2
        · rename ((_ : Nat) : Int) = 0 => hk9
          omega
        · exact while_out F7 N7 (fun q hq => hq)
        all_goals
          rename Int.fmod _ 5 = _ => hm5
          rename ((_ : Nat) : Int) ≠ 0 => hk9
          rename Fr _ _ _ _ => F9
          rename News _ _ _ _ => N9
          obtain ⟨n', rfl, q1, q2, q3, q4⟩ := figs_step hfig hk9 hk5 hm5 hxl
          exact while_end F9 N9 (fun q hq => .tail _ hq) q3 ⟨_, _, _, n', (by rw [← fdiv5 k]; rfl), rfl, (by with_unfolding_all exact hpc), q1, q2, by omega, q4⟩ (.inl rfl)
      · rintro k m2 h2 tk2 ⟨x, tf, tx, nn, hf, hx, hpc, hfig, hk5, hn5, hxl⟩ rfl F7 N7
        have F8 := fr_pin (fr_pin F7 hpc) (x := Str.ofString "piece") (by with_unfolding_all exact hx)
        clear F6 N6 F7
        have hxz : x = pieceOf z := by
          rw [← hfig]
          cases nn <;> rfl
        k_steps
        rename Fr _ _ _ _ => F9
        rename News _ _ _ _ => N9
        refine turn_end_a F9 N9 ?ne (fun q hq => hq) ?hj (.inl rfl)
        case ne => exact ⟨hlI, hnI0⟩
        case hj =>
        refine ⟨_, _, rfl, zs ++ [z], by simp [hzl], ?_, ?_, (by with_unfolding_all rfl)⟩
        · intro q hq
          rcases List.mem_append.mp hq with hq | hq
          · exact hz0 q hq
          · rw [List.mem_singleton.mp hq]; exact hz1
        · rw [List.map_append, hxz]
          exact StrsAre.append' hcs (.cons _ _ .nil)
    · rintro m₁ h tk cs n ⟨zs, hzl, hz0, hcs, hm1⟩ F5 N5
      have F6 := fr_pin F5 hm1
      clear F5 F4 N4
      k_steps
      dsimp only
      rename Fr _ _ _ _ => F9
      rename News _ _ _ _ => N9
      refine ⟨⟨lp, cs, n, zs, rfl, N9.get (.head _), N9.fresh (.head _), hcs, hz0, ?_⟩, _, _, rfl, F9.keep⟩
      rw [hzl]
      simp only [List.length_append, List.length_cons, List.length_nil]
      omega
end pieces_spec_c
theorem pieces_spec {w : World} {p : Program} {loose : List Str} {mean : ExcName → Option Value} {mg : Str → Option Value} {mb : Str → Option Value} {s : Shared} {dp : Nat} {un : Nat} {fr : Option (List Env)} {gd : Option (List Code)} {E : Value → Shared → Prop} {l : Addr} {vs : List Value} {ns : List Int} (KX : (hd.heap_39 w.params).In s.heap) (T : Top p loose mean mg mb s.heap) (hroom : dp + 3 < recursionLimit) (hl : s.heap.IsList l vs.toArray) (hys : IntsAre vs ns) (hn : ns.length ≤ 40) :
    wpAny (model PR w) (Ar dp un fr gd) (call (.ref 157) [.ref l]) (Out s (IsPieces s)) E s :=
  pieces_spec_c.fin pieces_spec_c.at_ (w, p, loose, mean, mg, mb, s, dp, un, fr, gd, E, l, vs, ns) KX T hroom hl hys hn
end
section
section
variable {w : World} {p : Program} {loose : List Str} {mean : ExcName → Option Value} {mg mb : Str → Option Value} {s : Shared} {dp un : Nat} {fr : Option (List Env)} {gd : Option (List Code)} {E : Value → Shared → Prop}
section
variable {prog : Program} {w : World} {A : Around} {E : Value → Shared → Prop} {R : Result → Shared → Prop} {s : Shared} {elt t1 i1 t2 i2 : Expr} {scope : Scope} {pos : Pos} {it acc : Value} {env : Env}
abbrev two (elt t1 i1 t2 i2 : Expr) (scope : Scope) (pos : Pos) : Expr := .ListComp elt [⟨t1, i1, [], 0⟩, ⟨t2, i2, [], 0⟩] scope pos
theorem turn_two0 : compTurn (two elt t1 i1 t2 i2 scope pos) 0 it acc env = (standAt i1.pos >>= fun _ => pyNext it >>= fun r => match r with
      | none => pure (.done .next)
      | some v => letOwnedTupleGo t1 it v >>= fun _ => assign t1 env v >>= fun _ =>
        eval i2 env >>= fun x => standAt i2.pos >>= fun _ => foldedSetIterable i2 env x >>= fun x => holding [x] (pyIter x) >>= fun j => runOwn (.compStart (two elt t1 i1 t2 i2 scope pos) 1 j acc env) env >>= fun _ =>
          again (.compLoop (two elt t1 i1 t2 i2 scope pos) 0 it acc env)) := by rfl
theorem turn_two1 : compTurn (two elt t1 i1 t2 i2 scope pos) 1 it acc env = (standAt i2.pos >>= fun _ => pyNext it >>= fun r => match r with
      | none => pure (.done .next)
      | some v => letOwnedTupleGo t2 it v >>= fun _ => assign t2 env v >>= fun _ =>
        (eval elt env >>= fun x => call (.builtin "list.append") [acc, x] >>= fun _ => pure ()) >>= fun _ =>
          again (.compLoop (two elt t1 i1 t2 i2 scope pos) 1 it acc env)) := by rfl
end
def ElEnd2 (s₂ : Shared) (hb : Heap) (C : Addr) (trk : List (Addr × Obj)) (Ro : Obj → Prop) (Pm : (Str → Option Value) → Prop) (v : Value) (s₃ : Shared) : Prop :=
  ∃ h tk mc', s₃ = { s₂ with heap := h, toks := tk } ∧ Fr hb C h mc' ∧ Pm mc' ∧ ∃ a o, v = .ref a ∧ News hb C h ((a, o) :: trk) ∧ (∀ p ∈ trk, p.1 ≠ a) ∧ Ro o
def CInv (g : Heap) (C D : Addr) (Ro : Obj → Prop) (Pm : (Str → Option Value) → Prop) (trk : List (Addr × Obj)) (len : Nat) (h : Heap) : Prop :=
  ∃ mc ys ents c, Pm mc ∧ Fr g C h mc ∧ News g C h ((D, PySem.W.listOf (List.toArray ys) c) :: (trk ++ ents)) ∧ (∀ p ∈ trk ++ ents, p.1 ≠ D) ∧ (∀ q ∈ trk, ∀ p ∈ ents, p.1 ≠ q.1) ∧
    ys.length ≤ len ∧ ∀ y ∈ ys, ∃ a o, y = Value.ref a ∧ (a, o) ∈ ents ∧ Ro o
section
variable {g h h' : Heap} {C D J : Addr} {Ro : Obj → Prop} {Pm Pm' : (Str → Option Value) → Prop} {trk : List (Addr × Obj)} {len : Nat} {o o' : Obj}
theorem CInv.weak {len' : Nat} (x : CInv g C D Ro Pm trk len h) (hl : len ≤ len') (hp : ∀ mc, Pm mc → Pm' mc) : CInv g C D Ro Pm' trk len' h := by
  obtain ⟨mc, ys, ents, c, q, F, N, a1, a2, a3, a4⟩ := x
  exact ⟨mc, ys, ents, c, hp _ q, F, N, a1, a2, Nat.le_trans a3 hl, a4⟩
theorem CInv.get (x : CInv g C D Ro Pm trk len h) {p : Addr × Obj} (hp : p ∈ trk) : h.get? p.1 = some p.2 := by
  obtain ⟨mc, ys, ents, c, q, F, N, -⟩ := x
  exact (N p (.tail _ (List.mem_append_left _ hp))).1
theorem CInv.push (x : CInv g C D Ro Pm trk len h) (hf : o.isFreed = false) : CInv g C D Ro Pm ((h.objs.size, o) :: trk) len (h.push o) := by
  obtain ⟨mc, ys, ents, c, q, F, N, a1, a2, a3, a4⟩ := x
  have up : ∀ b x, h.get? b = some x → (h.push o).get? b = some x := fun b x e => Heap.get?_push_of_some _ e
  have N' := News.push F N o hf
  have lt : ∀ p ∈ ((D, PySem.W.listOf (List.toArray ys) c) :: (trk ++ ents)), @Ne Nat p.1 h.objs.size := fun p hp => Nat.ne_of_lt (Heap.lt_size (N p hp).1)
  refine ⟨mc, ys, ents, c, q, fr_up F up, fun p hp => N' p ?_, fun p hp => ?_, fun r hr p hp => ?_, a3, a4⟩
  · rcases List.mem_cons.mp hp with rfl | hp
    · exact .tail _ (.head _)
    · rcases List.mem_cons.mp hp with rfl | hp
      · exact .head _
      · exact .tail _ (.tail _ hp)
  · rcases List.mem_cons.mp hp with rfl | hp
    · exact fun e => lt _ (.head _) e.symm
    · exact a1 p hp
  · rcases List.mem_cons.mp hr with rfl | hr
    · exact lt p (.tail _ (List.mem_append_right _ hp))
    · exact a2 r hr p hp
theorem CInv.move (x : CInv g C D Ro Pm ((J, o) :: trk) len h) (hn : ∀ p ∈ trk, p.1 ≠ J) (hk : ∀ b x, b ≠ J → h.get? b = some x → h'.get? b = some x) (hJ : h'.get? J = some o') : CInv g C D Ro Pm ((J, o') :: trk) len h' := by
  obtain ⟨mc, ys, ents, c, q, F, N, a1, a2, a3, a4⟩ := x
  have hj := N (J, o) (.tail _ (.head _))
  have hJC : C ≠ J := Ne.symm hj.2.1
  refine ⟨mc, ys, ents, c, q, ⟨F.ns.at' fun o e => hk _ o hJC e, fun b x e => hk b x (fun q => ?_) (F.keep b x e), F.above⟩, fun p hp => ?_, fun p hp => ?_, fun r hr => ?_, a3, a4⟩
  · have := hj.2.2; dsimp only at this; rw [q, this] at e; cases e
  · rcases List.mem_cons.mp hp with rfl | hp
    · have hd := N _ (.head _)
      exact ⟨hk _ _ (Ne.symm (a1 (J, o) (.head _))) hd.1, hd.2⟩
    · rcases List.mem_cons.mp hp with rfl | hp
      · exact ⟨hJ, hj.2⟩
      · have hd := N p (.tail _ (.tail _ hp))
        refine ⟨hk _ _ ?_ hd.1, hd.2⟩
        rcases List.mem_append.mp hp with hp | hp
        · exact hn p hp
        · exact a2 (J, o) (.head _) p hp
  · rcases List.mem_cons.mp hp with rfl | hp
    · exact a1 (J, o) (.head _)
    · exact a1 p (.tail _ hp)
  · rcases List.mem_cons.mp hr with rfl | hr
    · exact a2 (J, o) (.head _)
    · exact a2 r (.tail _ hr)
theorem CInv.assign {mc' : Str → Option Value} (x : CInv g C D Ro Pm trk len h) (hs : Heap.SameBut C h h') (hns : h'.Ns C mc') (hp : Pm' mc') : CInv g C D Ro Pm' trk len h' := by
  obtain ⟨mc, ys, ents, c, q, F, N, a1, a2, a3, a4⟩ := x
  exact ⟨mc', ys, ents, c, hp, F.set hns hs, N.set hs, a1, a2, a3, a4⟩
theorem CInv.emit {Pm' : (Str → Option Value) → Prop} {prog : Program} {w : World} {A : Around} {E : Value → Shared → Prop} {env : Env} {cl : List (Str × Addr)} {scope : Scope} {elt : Expr} {Q : Value → Shared → Prop} {s₂ : Shared} (x : CInv g C D Ro Pm trk len s₂.heap) (hlen : len ≤ 100000)
    (helt : ∀ mc hb trk (s₂ : Shared), hb = g → Pm mc → Fr hb C s₂.heap mc → News hb C s₂.heap trk → wpAny (model prog w) A (eval elt (compEnvC scope cl C env)) (ElEnd2 s₂ hb C trk Ro Pm') (fun _ _ => False) s₂)
    (done : ∀ h tk, CInv g C D Ro Pm' trk (len + 1) h → Q .none { s₂ with heap := h, toks := tk }) :
    wpAny (model prog w) A (eval elt (compEnvC scope cl C env)) (fun y s₃ => wpAny (model prog w) A (call (.builtin "list.append") [.ref D, y]) Q E s₃) E s₂ := by
  obtain ⟨mc, ys, ents, c, q, F, N, a1, a2, a3, a4⟩ := x
  refine wpAny_mono (helt mc g _ s₂ rfl q F N) (fun y s₃ h₃ => ?_) fun _ _ e => e.elim
  obtain ⟨hc, tkc, mc2, rfl, FC, hPm, a, o, rfl, NC, hne, ho⟩ := h₃
  have hD := NC (D, _) (.tail _ (.head _))
  have hsz : ys.toArray.size ≤ sizeLine := by rw [List.size_toArray, sizeLine_eq]; omega
  refine wpAny_list_append_plain (hsz := hsz) (s := { s₂ with heap := hc, toks := tkc }) (items := ys.toArray) ⟨c, hD.1⟩ fun hd hpl hsd => ?_
  obtain ⟨c', hpl⟩ := hpl
  have hkd : ∀ b x, b ≠ D → hc.get? b = some x → hd.get? b = some x := fun b x h1 e => hsd.extBut b x h1 e
  refine done hd tkc ⟨mc2, ys ++ [.ref a], (a, o) :: ents, c', hPm, ⟨FC.ns.sameBut hsd (Ne.symm hD.2.1), fun b x e => hkd b x (fun q => ?_) (FC.keep b x e), FC.above⟩, fun p hp => ?_, fun p hp => ?_, fun r hr p hp => ?_, by rw [List.length_append]; exact Nat.succ_le_succ a3, fun y hy => ?_⟩
  · have := hD.2.2; dsimp only at this; rw [q, this] at e; cases e
  · rcases List.mem_cons.mp hp with rfl | hp
    · exact ⟨by simpa using hpl, hD.2⟩
    · have hpD : p.1 ≠ D := by
        rcases List.mem_append.mp hp with hp | hp
        · exact a1 p (List.mem_append_left _ hp)
        · rcases List.mem_cons.mp hp with rfl | hp
          · exact Ne.symm (hne _ (.head _))
          · exact a1 p (List.mem_append_right _ hp)
      have hm : p ∈ (a, o) :: (D, PySem.W.listOf ys.toArray c) :: (trk ++ ents) := by
        rcases List.mem_append.mp hp with hp | hp
        · exact .tail _ (.tail _ (List.mem_append_left _ hp))
        · rcases List.mem_cons.mp hp with rfl | hp
          · exact .head _
          · exact .tail _ (.tail _ (List.mem_append_right _ hp))
      exact ⟨hkd _ _ hpD (NC p hm).1, (NC p hm).2⟩
  · rcases List.mem_append.mp hp with hp | hp
    · exact a1 p (List.mem_append_left _ hp)
    · rcases List.mem_cons.mp hp with rfl | hp
      · exact Ne.symm (hne _ (.head _))
      · exact a1 p (List.mem_append_right _ hp)
  · rcases List.mem_cons.mp hp with rfl | hp
    · exact Ne.symm (hne r (.tail _ (List.mem_append_left _ hr)))
    · exact a2 r hr p hp
  · rcases List.mem_append.mp hy with hy | hy
    · obtain ⟨a', o', e1, e2, e3⟩ := a4 y hy
      exact ⟨a', o', e1, .tail _ e2, e3⟩
    · rw [List.mem_singleton.mp hy]
      exact ⟨a, o, rfl, .head _, ho⟩
end

abbrev At2 (x : Str) (i : Int) (mc : Str → Option Value) : Prop := ∃ t, mc x = some (.int i t)
section
variable {prog : Program} {w : World} {A : Around} {E : Value → Shared → Prop} {R : Result → Shared → Prop} {s : Shared} {elt i1 i2 : Expr} {x y : Str} {px py : Pos} {scope : Scope} {cl : List (Str × Addr)} {pos : Pos} {env : Env}
variable {g : Heap} {C D I J : Addr} {Ro : Obj → Prop} {oI : Obj} {i b : Int} {len n : Nat}
def CElt2 (prog : Program) (w : World) (A : Around) (env : Env) (scope : Scope) (cl : List (Str × Addr)) (elt : Expr) (g : Heap) (x y : Str) (i j : Int) (Ro : Obj → Prop) : Prop :=
  ∀ C mc trk (s₂ : Shared), At2 x i mc → At2 y j mc → Fr g C s₂.heap mc → News g C s₂.heap trk →
    wpAny (model prog w) A (eval elt (compEnvC scope cl C env)) (ElEnd2 s₂ g C trk Ro (At2 x i)) (fun _ _ => False) s₂
end
end
namespace inner_loop_c
def Pz (prog : Program) (w : World) (A : Around) (R : Result → Shared → Prop) (s : Shared) (elt : Expr) (i1 : Expr) (i2 : Expr) (x : Str) (y : Str) (px : Pos) (py : Pos) (scope : Scope) (cl : List (Str × Addr)) (pos : Pos) (env : Env) (g : Heap) (C : Addr) (D : Addr) (I : Addr) (J : Addr) (Ro : Obj → Prop) (oI : Obj) (i : Int) (b : Int) (len : Nat) (n : Nat) : Prop := ∀ (hh : A.handled = none) (hkind : scope.kind = .function) (hy : scope.names.lookup y = some .local) (hxy : x ≠ y) (hIJ : I ≠ J) (hn : len + n ≤ 100000) (inv : CInv g C D Ro (At2 x i) [(J, { cls := .type "range_iterator", data := .fields #[rawInt b, rawInt (n : Int), rawInt 1] }), (I, oI)] len s.heap) (helt : ∀ k : Nat, k < n → CElt2 prog w A env scope cl elt g x y i (b + (k : Int)) Ro) (done : ∀ h tk, CInv g C D Ro (At2 x i) [(I, oI)] (len + n) h → R (.ok .next) { s with heap := h, toks := tk }),
  codeAny (model prog w) A (.compLoop (two elt (.Name x px) i1 (.Name y py) i2 scope pos) 1 (.ref J) (.ref D) (compEnvC scope cl C env)) R s
abbrev Cx : Type := (Program) × (World) × (Around) × (Result → Shared → Prop) × (Shared) × (Expr) × (Expr) × (Expr) × (Str) × (Str) × (Pos) × (Pos) × (Scope) × (List (Str × Addr)) × (Pos) × (Env) × (Heap) × (Addr) × (Addr) × (Addr) × (Addr) × (Obj → Prop) × (Obj) × (Int) × (Int) × (Nat) × (Nat)
theorem ne : Nonempty Cx := ⟨(default, aWorld 0, ({ handled := none, depth := 0, frames := none, guards := none, units := 0 } : Around), (fun _ _ => True), ({} : Shared), default, default, default, Str.ofString "", Str.ofString "", default, default, default, [], default, ({ scope := default, locals := (0 : Nat), globals := (0 : Nat), cells := [] } : Env), ({} : Heap), (0 : Nat), (0 : Nat), (0 : Nat), (0 : Nat), (fun _ => True), default, (0 : Int), (0 : Int), (0 : Nat), (0 : Nat))⟩
@[irreducible] noncomputable def bad : Cx := @Classical.epsilon Cx ne fun c => ¬ Pz c.1 c.2.1 c.2.2.1 c.2.2.2.1 c.2.2.2.2.1 c.2.2.2.2.2.1 c.2.2.2.2.2.2.1 c.2.2.2.2.2.2.2.1 c.2.2.2.2.2.2.2.2.1 c.2.2.2.2.2.2.2.2.2.1 c.2.2.2.2.2.2.2.2.2.2.1 c.2.2.2.2.2.2.2.2.2.2.2.1 c.2.2.2.2.2.2.2.2.2.2.2.2.1 c.2.2.2.2.2.2.2.2.2.2.2.2.2.1 c.2.2.2.2.2.2.2.2.2.2.2.2.2.2.1 c.2.2.2.2.2.2.2.2.2.2.2.2.2.2.2.1 c.2.2.2.2.2.2.2.2.2.2.2.2.2.2.2.2.1 c.2.2.2.2.2.2.2.2.2.2.2.2.2.2.2.2.2.1 c.2.2.2.2.2.2.2.2.2.2.2.2.2.2.2.2.2.2.1 c.2.2.2.2.2.2.2.2.2.2.2.2.2.2.2.2.2.2.2.1 c.2.2.2.2.2.2.2.2.2.2.2.2.2.2.2.2.2.2.2.2.1 c.2.2.2.2.2.2.2.2.2.2.2.2.2.2.2.2.2.2.2.2.2.1 c.2.2.2.2.2.2.2.2.2.2.2.2.2.2.2.2.2.2.2.2.2.2.1 c.2.2.2.2.2.2.2.2.2.2.2.2.2.2.2.2.2.2.2.2.2.2.2.1 c.2.2.2.2.2.2.2.2.2.2.2.2.2.2.2.2.2.2.2.2.2.2.2.2.1 c.2.2.2.2.2.2.2.2.2.2.2.2.2.2.2.2.2.2.2.2.2.2.2.2.2.1 c.2.2.2.2.2.2.2.2.2.2.2.2.2.2.2.2.2.2.2.2.2.2.2.2.2.2
theorem fin (h : Pz bad.1 bad.2.1 bad.2.2.1 bad.2.2.2.1 bad.2.2.2.2.1 bad.2.2.2.2.2.1 bad.2.2.2.2.2.2.1 bad.2.2.2.2.2.2.2.1 bad.2.2.2.2.2.2.2.2.1 bad.2.2.2.2.2.2.2.2.2.1 bad.2.2.2.2.2.2.2.2.2.2.1 bad.2.2.2.2.2.2.2.2.2.2.2.1 bad.2.2.2.2.2.2.2.2.2.2.2.2.1 bad.2.2.2.2.2.2.2.2.2.2.2.2.2.1 bad.2.2.2.2.2.2.2.2.2.2.2.2.2.2.1 bad.2.2.2.2.2.2.2.2.2.2.2.2.2.2.2.1 bad.2.2.2.2.2.2.2.2.2.2.2.2.2.2.2.2.1 bad.2.2.2.2.2.2.2.2.2.2.2.2.2.2.2.2.2.1 bad.2.2.2.2.2.2.2.2.2.2.2.2.2.2.2.2.2.2.1 bad.2.2.2.2.2.2.2.2.2.2.2.2.2.2.2.2.2.2.2.1 bad.2.2.2.2.2.2.2.2.2.2.2.2.2.2.2.2.2.2.2.2.1 bad.2.2.2.2.2.2.2.2.2.2.2.2.2.2.2.2.2.2.2.2.2.1 bad.2.2.2.2.2.2.2.2.2.2.2.2.2.2.2.2.2.2.2.2.2.2.1 bad.2.2.2.2.2.2.2.2.2.2.2.2.2.2.2.2.2.2.2.2.2.2.2.1 bad.2.2.2.2.2.2.2.2.2.2.2.2.2.2.2.2.2.2.2.2.2.2.2.2.1 bad.2.2.2.2.2.2.2.2.2.2.2.2.2.2.2.2.2.2.2.2.2.2.2.2.2.1 bad.2.2.2.2.2.2.2.2.2.2.2.2.2.2.2.2.2.2.2.2.2.2.2.2.2.2) (c : Cx) : Pz c.1 c.2.1 c.2.2.1 c.2.2.2.1 c.2.2.2.2.1 c.2.2.2.2.2.1 c.2.2.2.2.2.2.1 c.2.2.2.2.2.2.2.1 c.2.2.2.2.2.2.2.2.1 c.2.2.2.2.2.2.2.2.2.1 c.2.2.2.2.2.2.2.2.2.2.1 c.2.2.2.2.2.2.2.2.2.2.2.1 c.2.2.2.2.2.2.2.2.2.2.2.2.1 c.2.2.2.2.2.2.2.2.2.2.2.2.2.1 c.2.2.2.2.2.2.2.2.2.2.2.2.2.2.1 c.2.2.2.2.2.2.2.2.2.2.2.2.2.2.2.1 c.2.2.2.2.2.2.2.2.2.2.2.2.2.2.2.2.1 c.2.2.2.2.2.2.2.2.2.2.2.2.2.2.2.2.2.1 c.2.2.2.2.2.2.2.2.2.2.2.2.2.2.2.2.2.2.1 c.2.2.2.2.2.2.2.2.2.2.2.2.2.2.2.2.2.2.2.1 c.2.2.2.2.2.2.2.2.2.2.2.2.2.2.2.2.2.2.2.2.1 c.2.2.2.2.2.2.2.2.2.2.2.2.2.2.2.2.2.2.2.2.2.1 c.2.2.2.2.2.2.2.2.2.2.2.2.2.2.2.2.2.2.2.2.2.2.1 c.2.2.2.2.2.2.2.2.2.2.2.2.2.2.2.2.2.2.2.2.2.2.2.1 c.2.2.2.2.2.2.2.2.2.2.2.2.2.2.2.2.2.2.2.2.2.2.2.2.1 c.2.2.2.2.2.2.2.2.2.2.2.2.2.2.2.2.2.2.2.2.2.2.2.2.2.1 c.2.2.2.2.2.2.2.2.2.2.2.2.2.2.2.2.2.2.2.2.2.2.2.2.2.2 := by
  delta bad at h
  exact Classical.byContradiction fun q => (@Classical.epsilon_spec Cx (fun c => ¬ Pz c.1 c.2.1 c.2.2.1 c.2.2.2.1 c.2.2.2.2.1 c.2.2.2.2.2.1 c.2.2.2.2.2.2.1 c.2.2.2.2.2.2.2.1 c.2.2.2.2.2.2.2.2.1 c.2.2.2.2.2.2.2.2.2.1 c.2.2.2.2.2.2.2.2.2.2.1 c.2.2.2.2.2.2.2.2.2.2.2.1 c.2.2.2.2.2.2.2.2.2.2.2.2.1 c.2.2.2.2.2.2.2.2.2.2.2.2.2.1 c.2.2.2.2.2.2.2.2.2.2.2.2.2.2.1 c.2.2.2.2.2.2.2.2.2.2.2.2.2.2.2.1 c.2.2.2.2.2.2.2.2.2.2.2.2.2.2.2.2.1 c.2.2.2.2.2.2.2.2.2.2.2.2.2.2.2.2.2.1 c.2.2.2.2.2.2.2.2.2.2.2.2.2.2.2.2.2.2.1 c.2.2.2.2.2.2.2.2.2.2.2.2.2.2.2.2.2.2.2.1 c.2.2.2.2.2.2.2.2.2.2.2.2.2.2.2.2.2.2.2.2.1 c.2.2.2.2.2.2.2.2.2.2.2.2.2.2.2.2.2.2.2.2.2.1 c.2.2.2.2.2.2.2.2.2.2.2.2.2.2.2.2.2.2.2.2.2.2.1 c.2.2.2.2.2.2.2.2.2.2.2.2.2.2.2.2.2.2.2.2.2.2.2.1 c.2.2.2.2.2.2.2.2.2.2.2.2.2.2.2.2.2.2.2.2.2.2.2.2.1 c.2.2.2.2.2.2.2.2.2.2.2.2.2.2.2.2.2.2.2.2.2.2.2.2.2.1 c.2.2.2.2.2.2.2.2.2.2.2.2.2.2.2.2.2.2.2.2.2.2.2.2.2.2) ⟨c, q⟩) h
noncomputable def prog : Program := bad.1
noncomputable def w : World := bad.2.1
noncomputable def A : Around := bad.2.2.1
noncomputable def R : Result → Shared → Prop := bad.2.2.2.1
noncomputable def s : Shared := bad.2.2.2.2.1
noncomputable def elt : Expr := bad.2.2.2.2.2.1
noncomputable def i1 : Expr := bad.2.2.2.2.2.2.1
noncomputable def i2 : Expr := bad.2.2.2.2.2.2.2.1
noncomputable def x : Str := bad.2.2.2.2.2.2.2.2.1
noncomputable def y : Str := bad.2.2.2.2.2.2.2.2.2.1
noncomputable def px : Pos := bad.2.2.2.2.2.2.2.2.2.2.1
noncomputable def py : Pos := bad.2.2.2.2.2.2.2.2.2.2.2.1
noncomputable def scope : Scope := bad.2.2.2.2.2.2.2.2.2.2.2.2.1
noncomputable def cl : List (Str × Addr) := bad.2.2.2.2.2.2.2.2.2.2.2.2.2.1
noncomputable def pos : Pos := bad.2.2.2.2.2.2.2.2.2.2.2.2.2.2.1
noncomputable def env : Env := bad.2.2.2.2.2.2.2.2.2.2.2.2.2.2.2.1
noncomputable def g : Heap := bad.2.2.2.2.2.2.2.2.2.2.2.2.2.2.2.2.1
noncomputable def C : Addr := bad.2.2.2.2.2.2.2.2.2.2.2.2.2.2.2.2.2.1
noncomputable def D : Addr := bad.2.2.2.2.2.2.2.2.2.2.2.2.2.2.2.2.2.2.1
noncomputable def I : Addr := bad.2.2.2.2.2.2.2.2.2.2.2.2.2.2.2.2.2.2.2.1
noncomputable def J : Addr := bad.2.2.2.2.2.2.2.2.2.2.2.2.2.2.2.2.2.2.2.2.1
noncomputable def Ro : Obj → Prop := bad.2.2.2.2.2.2.2.2.2.2.2.2.2.2.2.2.2.2.2.2.2.1
noncomputable def oI : Obj := bad.2.2.2.2.2.2.2.2.2.2.2.2.2.2.2.2.2.2.2.2.2.2.1
noncomputable def i : Int := bad.2.2.2.2.2.2.2.2.2.2.2.2.2.2.2.2.2.2.2.2.2.2.2.1
noncomputable def b : Int := bad.2.2.2.2.2.2.2.2.2.2.2.2.2.2.2.2.2.2.2.2.2.2.2.2.1
noncomputable def len : Nat := bad.2.2.2.2.2.2.2.2.2.2.2.2.2.2.2.2.2.2.2.2.2.2.2.2.2.1
noncomputable def n : Nat := bad.2.2.2.2.2.2.2.2.2.2.2.2.2.2.2.2.2.2.2.2.2.2.2.2.2.2
theorem at_ (hh : A.handled = none) (hkind : scope.kind = .function) (hy : scope.names.lookup y = some .local) (hxy : x ≠ y) (hIJ : I ≠ J) (hn : len + n ≤ 100000) (inv : CInv g C D Ro (At2 x i) [(J, { cls := .type "range_iterator", data := .fields #[rawInt b, rawInt (n : Int), rawInt 1] }), (I, oI)] len s.heap) (helt : ∀ k : Nat, k < n → CElt2 prog w A env scope cl elt g x y i (b + (k : Int)) Ro) (done : ∀ h tk, CInv g C D Ro (At2 x i) [(I, oI)] (len + n) h → R (.ok .next) { s with heap := h, toks := tk }) :
  codeAny (model prog w) A (.compLoop (two elt (.Name x px) i1 (.Name y py) i2 scope pos) 1 (.ref J) (.ref D) (compEnvC scope cl C env)) R s := by
  have WK : Walks prog w A J [J] [J] n _ _ := LCg.range_walks hh b n
  obtain ⟨INV, hINV⟩ : ∃ INV : Nat → Shared → Prop, INV = (fun k s' => ∃ j h tk, s' = { s with heap := h, toks := tk } ∧ j ≤ n ∧ k = n + 1 - j ∧ IsRangeIter h J (b + (j : Nat) * 1) ((n : Int) - (j : Nat)) 1 ∧ ∃ oJ, CInv g C D Ro (At2 x i) [(J, oJ), (I, oI)] (len + j) h) := ⟨_, rfl⟩
  refine codeAny_loop rfl INV ?_ (n + 1) (by rw [hINV]; exact ⟨0, s.heap, s.toks, rfl, Nat.zero_le _, rfl, by simpa using inv.get (.head _), _, inv⟩)
  intro k s' hk
  rw [hINV] at hk
  obtain ⟨j, h, tk, rfl, hj, rfl, hst, oJ, iv⟩ := hk
  show wpAny _ A ((compTurn (two elt (.Name x px) i1 (.Name y py) i2 scope pos) 1 (.ref J) (.ref D) (compEnvC scope cl C env)).onRaise (fun x => do noteFrame x (compEnvC scope cl C env); theTreesLotGoes x)) _ _ _
  refine wpAny_noted ?_
  rw [turn_two1]
  refine wpAny_bind (wpAny_standAt (wpAny_bind ?_))
  by_cases hlt : j < n
  · refine WK.item j _ _ _ hlt hst fun v ha tka hPv hsta hka => ?_
    obtain ⟨t, rfl⟩ := hPv
    have hkA : ∀ b o, b ≠ J → h.get? b = some o → ha.get? b = some o := fun b o hb e => hka b o (by simpa using hb) e
    have iv2 := iv.move (by intro p hp; rw [List.mem_singleton.mp hp]; exact hIJ) hkA hsta
    refine wpAny_bind (wpAny_of_eq (a := ()) rfl (wpAny_bind ?_))
    obtain ⟨mc, hns⟩ : ∃ mc, ha.Ns C mc := by obtain ⟨mc, _, _, _, _, F, _⟩ := iv2; exact ⟨mc, F.ns⟩
    obtain ⟨mc, ys, ents, c, ⟨tx, hx⟩, F, N, r⟩ := id iv2
    refine wpAny_assign_Name (wpAny_storeName_local (lookup_relabel_local hy) F.ns (fun h₂ hn₂ hs₂ => ?_) (by simp [compEnvC, relabel, hkind]))
    have iv3 : CInv g C D Ro (fun mc => At2 x i mc ∧ At2 y (b + (j : Int)) mc) _ _ h₂ := iv2.assign hs₂ hn₂ ⟨⟨tx, by simp [hxy]; exact hx⟩, ⟨t, by simp⟩⟩
    refine wpAny_bind (wpAny_bind (wpAny_mono (iv3.emit (Pm' := At2 x i) (by omega) (fun mc hb trk s₂ e hm F' N' => by subst e; exact helt j hlt C mc trk s₂ hm.1 hm.2 F' N') (Q := fun _ s₅ => ∃ m, m < n + 1 - j ∧ INV m s₅) fun h' tk' iv4 => ?_)
      (fun x s₄ h₄ => wpAny_bind (wpAny_mono h₄ (fun _ s₅ h₅ => wpAny_pure (wpAny_pure ⟨rfl, h₅⟩)) fun _ _ h' => h')) fun _ _ h' => h'))
    exact ⟨n + 1 - (j + 1), by omega, by rw [hINV]; exact ⟨j + 1, h', _, rfl, hlt, rfl, iv4.get (.head _), _, iv4⟩⟩
  · have hjn : j = n := by omega
    subst hjn
    refine WK.done _ _ _ hst fun ha tka hka => ?_
    have hkA : ∀ b o, b ≠ J → h.get? b = some o → ha.get? b = some o := fun b o hb e => hka b o (by simpa using hb) e
    refine wpAny_pure (done _ _ ?_)
    obtain ⟨mc, ys, ents, c, q, F, N, a1, a2, a3, a4⟩ := id iv
    have hj := N (J, oJ) (.tail _ (.head _))
    have hk : ∀ b o, b ≠ J → h.get? b = some o → ha.get? b = some o := hkA
    refine ⟨mc, ys, ents, c, q, ⟨F.ns.at' fun o e => hk _ o (Ne.symm hj.2.1) e, fun b x e => hk b x (fun q => ?_) (F.keep b x e), F.above⟩, fun p hp => ?_, fun p hp => a1 p (.tail _ hp), fun q hq => a2 q (.tail _ hq), a3, a4⟩
    · have := hj.2.2; dsimp only at this; rw [q, this] at e; cases e
    · have hm : p ∈ (D, PySem.W.listOf ys.toArray c) :: ([(J, oJ), (I, oI)] ++ ents) := by
        rcases List.mem_cons.mp hp with rfl | hp
        · exact .head _
        · exact .tail _ (.tail _ hp)
      refine ⟨hk _ _ ?_ (N p hm).1, (N p hm).2⟩
      rcases List.mem_cons.mp hp with rfl | hp
      · exact Ne.symm (a1 (J, oJ) (.head _))
      · rcases List.mem_append.mp hp with hp | hp
        · rw [List.mem_singleton.mp hp]; exact hIJ
        · exact a2 (J, oJ) (.head _) p hp
end inner_loop_c
theorem inner_loop {prog : Program} {w : World} {A : Around} {R : Result → Shared → Prop} {s : Shared} {elt i1 i2 : Expr} {x y : Str} {px py : Pos} {scope : Scope} {cl : List (Str × Addr)} {pos : Pos} {env : Env} {g : Heap} {C D I J : Addr} {Ro : Obj → Prop} {oI : Obj} {i b : Int} {len n : Nat} (hh : A.handled = none) (hkind : scope.kind = .function) (hy : scope.names.lookup y = some .local) (hxy : x ≠ y) (hIJ : I ≠ J) (hn : len + n ≤ 100000)
    (inv : CInv g C D Ro (At2 x i) [(J, { cls := .type "range_iterator", data := .fields #[rawInt b, rawInt (n : Int), rawInt 1] }), (I, oI)] len s.heap)
    (helt : ∀ k : Nat, k < n → CElt2 prog w A env scope cl elt g x y i (b + (k : Int)) Ro)
    (done : ∀ h tk, CInv g C D Ro (At2 x i) [(I, oI)] (len + n) h → R (.ok .next) { s with heap := h, toks := tk }) :
    codeAny (model prog w) A (.compLoop (two elt (.Name x px) i1 (.Name y py) i2 scope pos) 1 (.ref J) (.ref D) (compEnvC scope cl C env)) R s :=
  inner_loop_c.fin inner_loop_c.at_ (prog, w, A, R, s, elt, i1, i2, x, y, px, py, scope, cl, pos, env, g, C, D, I, J, Ro, oI, i, b, len, n) hh hkind hy hxy hIJ hn inv helt done
section
variable {w : World} {p : Program} {loose : List Str} {mean : ExcName → Option Value} {mg mb : Str → Option Value} {s : Shared} {dp un : Nat} {fr : Option (List Env)} {gd : Option (List Code)} {E : Value → Shared → Prop}
def GotR (s₂ : Shared) (hb : Heap) (C : Addr) (trk : List (Addr × Obj)) (x : Str) (i lo hi : Int) (xv : Value) (s₃ : Shared) : Prop :=
  ∃ r h tk mc t u v, xv = .ref r ∧ s₃ = { s₂ with heap := h, toks := tk } ∧ Fr hb C h mc ∧ At2 x i mc ∧ News hb C h trk ∧ IsRange h r lo hi 1 t u v
end
namespace comp2_c
def Pz (prog : Program) (w : World) (A : Around) (E : Value → Shared → Prop) (s : Shared) (elt : Expr) (i1 : Expr) (i2 : Expr) (x : Str) (y : Str) (px : Pos) (py : Pos) (scope : Scope) (cl : List (Str × Addr)) (pos : Pos) (env : Env) (Q : Value → Shared → Prop) (a : Int) (b : Int) (n : Nat) (M : Nat) (Ro : Obj → Prop) (lo : Nat → Int) (hi : Int) (cnt : Nat → Nat) : Prop := ∀ (hh : A.handled = none) (hclos : closureFor scope env = pure cl) (hcell : ∀ y ∈ scope.names, y.2 ≠ .cell) (hkind : scope.kind = .function) (hnames : ∀ y ∈ scope.names, y.2 = .local → scope.names.lookup y.1 = some .local) (hx : scope.names.lookup x = some .local) (hy : scope.names.lookup y = some .local) (hxy : x ≠ y) (hsm : Builtin.Range.small a b 1 = true) (hrn : Builtin.Range.rangeSize a b 1 = ((n : Nat) : Int)) (hM : n * M + M ≤ 100000) (hit : wpAny (model prog w) A (eval i1 env) (fun xv s₁ => ∃ r t u v, xv = .ref r ∧ Keeps s s₁ ∧ IsRange s₁.heap r a b 1 t u v) E s) (hlo : ∀ k, k < n → Builtin.Range.small (lo k) hi 1 = true ∧ Builtin.Range.rangeSize (lo k) hi 1 = ((cnt k : Nat) : Int) ∧ cnt k ≤ M) (hit2 : ∀ k, k < n → ∀ C mc hb trk (s₂ : Shared), (∀ b o, s.heap.get? b = some o → hb.get? b = some o) → At2 x (a + (k : Int)) mc → Fr hb C s₂.heap mc → News hb C s₂.heap trk →
      wpAny (model prog w) A (eval i2 (compEnvC scope cl C env)) (GotR s₂ hb C trk x (a + (k : Int)) (lo k) hi) (fun _ _ => False) s₂) (helt : ∀ k, k < n → ∀ j, j < cnt k → ∀ hb : Heap, (∀ b o, s.heap.get? b = some o → hb.get? b = some o) → CElt2 prog w A env scope cl elt hb x y (a + (k : Int)) (lo k + (j : Int)) Ro) (done : ∀ D h' tk (ys : List Value) (ents : List (Addr × Obj)) k, ys.length ≤ n * M → (∀ y ∈ ys, ∃ a o, y = .ref a ∧ (a, o) ∈ ents ∧ Ro o) → (∀ p ∈ ents, h'.get? p.1 = some p.2 ∧ s.heap.get? p.1 = none ∧ p.1 ≠ D) → h'.get? D = some (PySem.W.listOf ys.toArray k) → s.heap.get? D = none → (∀ b o, s.heap.get? b = some o → h'.get? b = some o) → Q (.ref D) { s with heap := h', toks := tk }) (hs : ∀ x, foldedSetIterable i1 env x = pure x) (hs2 : ∀ C x, foldedSetIterable i2 (compEnvC scope cl C env) x = pure x),
  wpAny (model prog w) A (eval (two elt (.Name x px) i1 (.Name y py) i2 scope pos) env) Q E s
abbrev Cx : Type := (Program) × (World) × (Around) × (Value → Shared → Prop) × (Shared) × (Expr) × (Expr) × (Expr) × (Str) × (Str) × (Pos) × (Pos) × (Scope) × (List (Str × Addr)) × (Pos) × (Env) × (Value → Shared → Prop) × (Int) × (Int) × (Nat) × (Nat) × (Obj → Prop) × (Nat → Int) × (Int) × (Nat → Nat)
theorem ne : Nonempty Cx := ⟨(default, aWorld 0, ({ handled := none, depth := 0, frames := none, guards := none, units := 0 } : Around), (fun _ _ => True), ({} : Shared), default, default, default, Str.ofString "", Str.ofString "", default, default, default, [], default, ({ scope := default, locals := (0 : Nat), globals := (0 : Nat), cells := [] } : Env), (fun _ _ => True), (0 : Int), (0 : Int), (0 : Nat), (0 : Nat), (fun _ => True), (fun _ => (0 : Int)), (0 : Int), (fun _ => (0 : Nat)))⟩
@[irreducible] noncomputable def bad : Cx := @Classical.epsilon Cx ne fun c => ¬ Pz c.1 c.2.1 c.2.2.1 c.2.2.2.1 c.2.2.2.2.1 c.2.2.2.2.2.1 c.2.2.2.2.2.2.1 c.2.2.2.2.2.2.2.1 c.2.2.2.2.2.2.2.2.1 c.2.2.2.2.2.2.2.2.2.1 c.2.2.2.2.2.2.2.2.2.2.1 c.2.2.2.2.2.2.2.2.2.2.2.1 c.2.2.2.2.2.2.2.2.2.2.2.2.1 c.2.2.2.2.2.2.2.2.2.2.2.2.2.1 c.2.2.2.2.2.2.2.2.2.2.2.2.2.2.1 c.2.2.2.2.2.2.2.2.2.2.2.2.2.2.2.1 c.2.2.2.2.2.2.2.2.2.2.2.2.2.2.2.2.1 c.2.2.2.2.2.2.2.2.2.2.2.2.2.2.2.2.2.1 c.2.2.2.2.2.2.2.2.2.2.2.2.2.2.2.2.2.2.1 c.2.2.2.2.2.2.2.2.2.2.2.2.2.2.2.2.2.2.2.1 c.2.2.2.2.2.2.2.2.2.2.2.2.2.2.2.2.2.2.2.2.1 c.2.2.2.2.2.2.2.2.2.2.2.2.2.2.2.2.2.2.2.2.2.1 c.2.2.2.2.2.2.2.2.2.2.2.2.2.2.2.2.2.2.2.2.2.2.1 c.2.2.2.2.2.2.2.2.2.2.2.2.2.2.2.2.2.2.2.2.2.2.2.1 c.2.2.2.2.2.2.2.2.2.2.2.2.2.2.2.2.2.2.2.2.2.2.2.2
theorem fin (h : Pz bad.1 bad.2.1 bad.2.2.1 bad.2.2.2.1 bad.2.2.2.2.1 bad.2.2.2.2.2.1 bad.2.2.2.2.2.2.1 bad.2.2.2.2.2.2.2.1 bad.2.2.2.2.2.2.2.2.1 bad.2.2.2.2.2.2.2.2.2.1 bad.2.2.2.2.2.2.2.2.2.2.1 bad.2.2.2.2.2.2.2.2.2.2.2.1 bad.2.2.2.2.2.2.2.2.2.2.2.2.1 bad.2.2.2.2.2.2.2.2.2.2.2.2.2.1 bad.2.2.2.2.2.2.2.2.2.2.2.2.2.2.1 bad.2.2.2.2.2.2.2.2.2.2.2.2.2.2.2.1 bad.2.2.2.2.2.2.2.2.2.2.2.2.2.2.2.2.1 bad.2.2.2.2.2.2.2.2.2.2.2.2.2.2.2.2.2.1 bad.2.2.2.2.2.2.2.2.2.2.2.2.2.2.2.2.2.2.1 bad.2.2.2.2.2.2.2.2.2.2.2.2.2.2.2.2.2.2.2.1 bad.2.2.2.2.2.2.2.2.2.2.2.2.2.2.2.2.2.2.2.2.1 bad.2.2.2.2.2.2.2.2.2.2.2.2.2.2.2.2.2.2.2.2.2.1 bad.2.2.2.2.2.2.2.2.2.2.2.2.2.2.2.2.2.2.2.2.2.2.1 bad.2.2.2.2.2.2.2.2.2.2.2.2.2.2.2.2.2.2.2.2.2.2.2.1 bad.2.2.2.2.2.2.2.2.2.2.2.2.2.2.2.2.2.2.2.2.2.2.2.2) (c : Cx) : Pz c.1 c.2.1 c.2.2.1 c.2.2.2.1 c.2.2.2.2.1 c.2.2.2.2.2.1 c.2.2.2.2.2.2.1 c.2.2.2.2.2.2.2.1 c.2.2.2.2.2.2.2.2.1 c.2.2.2.2.2.2.2.2.2.1 c.2.2.2.2.2.2.2.2.2.2.1 c.2.2.2.2.2.2.2.2.2.2.2.1 c.2.2.2.2.2.2.2.2.2.2.2.2.1 c.2.2.2.2.2.2.2.2.2.2.2.2.2.1 c.2.2.2.2.2.2.2.2.2.2.2.2.2.2.1 c.2.2.2.2.2.2.2.2.2.2.2.2.2.2.2.1 c.2.2.2.2.2.2.2.2.2.2.2.2.2.2.2.2.1 c.2.2.2.2.2.2.2.2.2.2.2.2.2.2.2.2.2.1 c.2.2.2.2.2.2.2.2.2.2.2.2.2.2.2.2.2.2.1 c.2.2.2.2.2.2.2.2.2.2.2.2.2.2.2.2.2.2.2.1 c.2.2.2.2.2.2.2.2.2.2.2.2.2.2.2.2.2.2.2.2.1 c.2.2.2.2.2.2.2.2.2.2.2.2.2.2.2.2.2.2.2.2.2.1 c.2.2.2.2.2.2.2.2.2.2.2.2.2.2.2.2.2.2.2.2.2.2.1 c.2.2.2.2.2.2.2.2.2.2.2.2.2.2.2.2.2.2.2.2.2.2.2.1 c.2.2.2.2.2.2.2.2.2.2.2.2.2.2.2.2.2.2.2.2.2.2.2.2 := by
  delta bad at h
  exact Classical.byContradiction fun q => (@Classical.epsilon_spec Cx (fun c => ¬ Pz c.1 c.2.1 c.2.2.1 c.2.2.2.1 c.2.2.2.2.1 c.2.2.2.2.2.1 c.2.2.2.2.2.2.1 c.2.2.2.2.2.2.2.1 c.2.2.2.2.2.2.2.2.1 c.2.2.2.2.2.2.2.2.2.1 c.2.2.2.2.2.2.2.2.2.2.1 c.2.2.2.2.2.2.2.2.2.2.2.1 c.2.2.2.2.2.2.2.2.2.2.2.2.1 c.2.2.2.2.2.2.2.2.2.2.2.2.2.1 c.2.2.2.2.2.2.2.2.2.2.2.2.2.2.1 c.2.2.2.2.2.2.2.2.2.2.2.2.2.2.2.1 c.2.2.2.2.2.2.2.2.2.2.2.2.2.2.2.2.1 c.2.2.2.2.2.2.2.2.2.2.2.2.2.2.2.2.2.1 c.2.2.2.2.2.2.2.2.2.2.2.2.2.2.2.2.2.2.1 c.2.2.2.2.2.2.2.2.2.2.2.2.2.2.2.2.2.2.2.1 c.2.2.2.2.2.2.2.2.2.2.2.2.2.2.2.2.2.2.2.2.1 c.2.2.2.2.2.2.2.2.2.2.2.2.2.2.2.2.2.2.2.2.2.1 c.2.2.2.2.2.2.2.2.2.2.2.2.2.2.2.2.2.2.2.2.2.2.1 c.2.2.2.2.2.2.2.2.2.2.2.2.2.2.2.2.2.2.2.2.2.2.2.1 c.2.2.2.2.2.2.2.2.2.2.2.2.2.2.2.2.2.2.2.2.2.2.2.2) ⟨c, q⟩) h
noncomputable def prog : Program := bad.1
noncomputable def w : World := bad.2.1
noncomputable def A : Around := bad.2.2.1
noncomputable def E : Value → Shared → Prop := bad.2.2.2.1
noncomputable def s : Shared := bad.2.2.2.2.1
noncomputable def elt : Expr := bad.2.2.2.2.2.1
noncomputable def i1 : Expr := bad.2.2.2.2.2.2.1
noncomputable def i2 : Expr := bad.2.2.2.2.2.2.2.1
noncomputable def x : Str := bad.2.2.2.2.2.2.2.2.1
noncomputable def y : Str := bad.2.2.2.2.2.2.2.2.2.1
noncomputable def px : Pos := bad.2.2.2.2.2.2.2.2.2.2.1
noncomputable def py : Pos := bad.2.2.2.2.2.2.2.2.2.2.2.1
noncomputable def scope : Scope := bad.2.2.2.2.2.2.2.2.2.2.2.2.1
noncomputable def cl : List (Str × Addr) := bad.2.2.2.2.2.2.2.2.2.2.2.2.2.1
noncomputable def pos : Pos := bad.2.2.2.2.2.2.2.2.2.2.2.2.2.2.1
noncomputable def env : Env := bad.2.2.2.2.2.2.2.2.2.2.2.2.2.2.2.1
noncomputable def Q : Value → Shared → Prop := bad.2.2.2.2.2.2.2.2.2.2.2.2.2.2.2.2.1
noncomputable def a : Int := bad.2.2.2.2.2.2.2.2.2.2.2.2.2.2.2.2.2.1
noncomputable def b : Int := bad.2.2.2.2.2.2.2.2.2.2.2.2.2.2.2.2.2.2.1
noncomputable def n : Nat := bad.2.2.2.2.2.2.2.2.2.2.2.2.2.2.2.2.2.2.2.1
noncomputable def M : Nat := bad.2.2.2.2.2.2.2.2.2.2.2.2.2.2.2.2.2.2.2.2.1
noncomputable def Ro : Obj → Prop := bad.2.2.2.2.2.2.2.2.2.2.2.2.2.2.2.2.2.2.2.2.2.1
noncomputable def lo : Nat → Int := bad.2.2.2.2.2.2.2.2.2.2.2.2.2.2.2.2.2.2.2.2.2.2.1
noncomputable def hi : Int := bad.2.2.2.2.2.2.2.2.2.2.2.2.2.2.2.2.2.2.2.2.2.2.2.1
noncomputable def cnt : Nat → Nat := bad.2.2.2.2.2.2.2.2.2.2.2.2.2.2.2.2.2.2.2.2.2.2.2.2
theorem at_ (hh : A.handled = none) (hclos : closureFor scope env = pure cl) (hcell : ∀ y ∈ scope.names, y.2 ≠ .cell) (hkind : scope.kind = .function) (hnames : ∀ y ∈ scope.names, y.2 = .local → scope.names.lookup y.1 = some .local) (hx : scope.names.lookup x = some .local) (hy : scope.names.lookup y = some .local) (hxy : x ≠ y) (hsm : Builtin.Range.small a b 1 = true) (hrn : Builtin.Range.rangeSize a b 1 = ((n : Nat) : Int)) (hM : n * M + M ≤ 100000) (hit : wpAny (model prog w) A (eval i1 env) (fun xv s₁ => ∃ r t u v, xv = .ref r ∧ Keeps s s₁ ∧ IsRange s₁.heap r a b 1 t u v) E s) (hlo : ∀ k, k < n → Builtin.Range.small (lo k) hi 1 = true ∧ Builtin.Range.rangeSize (lo k) hi 1 = ((cnt k : Nat) : Int) ∧ cnt k ≤ M) (hit2 : ∀ k, k < n → ∀ C mc hb trk (s₂ : Shared), (∀ b o, s.heap.get? b = some o → hb.get? b = some o) → At2 x (a + (k : Int)) mc → Fr hb C s₂.heap mc → News hb C s₂.heap trk →
      wpAny (model prog w) A (eval i2 (compEnvC scope cl C env)) (GotR s₂ hb C trk x (a + (k : Int)) (lo k) hi) (fun _ _ => False) s₂) (helt : ∀ k, k < n → ∀ j, j < cnt k → ∀ hb : Heap, (∀ b o, s.heap.get? b = some o → hb.get? b = some o) → CElt2 prog w A env scope cl elt hb x y (a + (k : Int)) (lo k + (j : Int)) Ro) (done : ∀ D h' tk (ys : List Value) (ents : List (Addr × Obj)) k, ys.length ≤ n * M → (∀ y ∈ ys, ∃ a o, y = .ref a ∧ (a, o) ∈ ents ∧ Ro o) → (∀ p ∈ ents, h'.get? p.1 = some p.2 ∧ s.heap.get? p.1 = none ∧ p.1 ≠ D) → h'.get? D = some (PySem.W.listOf ys.toArray k) → s.heap.get? D = none → (∀ b o, s.heap.get? b = some o → h'.get? b = some o) → Q (.ref D) { s with heap := h', toks := tk }) (hs : ∀ x, foldedSetIterable i1 env x = pure x) (hs2 : ∀ C x, foldedSetIterable i2 (compEnvC scope cl C env) x = pure x) :
  wpAny (model prog w) A (eval (two elt (.Name x px) i1 (.Name y py) i2 scope pos) env) Q E s := by
  rw [eval_ListComp]
  refine wpAny_comprehension_free (use := none) rfl hs hclos hkind hnames (wpAny_mono hit (fun xv s₁ h₁ => ?_) fun _ _ e => e)
  obtain ⟨r, t, u, v, rfl, ⟨g₁, tk₁, rfl, keep₁⟩, hr⟩ := h₁
  refine wpAny_pyIter_range hr hsm ?_
  dsimp only at hr ⊢
  rw [hrn]
  generalize hg₂ : g₁.push { cls := .type "range_iterator", data := .fields #[rawInt a, rawInt ((n : Nat) : Int), rawInt 1] } = g₂
  generalize hIg : g₁.objs.size = I
  have hgI : g₂.get? I = some { cls := .type "range_iterator", data := .fields #[rawInt a, rawInt ((n : Nat) : Int), rawInt 1] } := by rw [← hg₂, ← hIg]; exact Heap.get?_push_size _ rfl
  have keep₂ : ∀ b o, s.heap.get? b = some o → g₂.get? b = some o := fun b o e => by rw [← hg₂]; exact Heap.get?_push_of_some _ (keep₁ b o e)
  have hIs : s.heap.get? I = none := by
    cases q : s.heap.get? I with
    | none => rfl
    | some o => have := keep₁ _ o q; rw [← hIg, Heap.get?_none_of_le (Nat.le_refl _)] at this; cases this
  refine wpAny_newObj_type (wpAny_newFunctionEnv hcell (by intro y hy; simp at hy) (fun h₁ hns₁ hsb₁ => ?_) hkind)
  dsimp only at hns₁ hsb₁ ⊢
  generalize hH2 : g₂.push { cls := .type "list", dict := none, data := .seq ([] : List Value).toArray } = H2 at hns₁ hsb₁ ⊢
  have hC : H2.objs.size = g₂.objs.size + 1 := by rw [← hH2, Heap.size_push]
  generalize hDg : g₂.objs.size = D at *
  generalize hCg : H2.objs.size = C at *
  have hDC : D ≠ C := by rw [hC]; exact Nat.ne_of_lt (Nat.lt_succ_self _)
  have below : ∀ b, b < D → b ≠ C ∧ b ≠ D := fun b hb => ⟨by rw [hC]; exact Nat.ne_of_lt (Nat.lt_succ_of_lt hb), Nat.ne_of_lt hb⟩
  have hIlt : I < D := hDg ▸ Heap.lt_size hgI
  have hIC : I ≠ C := (below I hIlt).1
  have hID : I ≠ D := (below I hIlt).2
  have old : ∀ b o, g₂.get? b = some o → h₁.get? b = some o := fun b o e => hsb₁.extBut b o (below b (hDg ▸ Heap.lt_size e)).1 (Heap.get?_push_of_some _ (hH2 ▸ Heap.get?_push_of_some _ e))
  have hacc : h₁.get? D = some (PySem.W.listOf ([] : List Value).toArray 0) := hsb₁.extBut _ _ hDC (Heap.get?_push_of_some _ (by rw [← hH2, ← hDg]; exact Heap.get?_push_size (o := { cls := .type "list", dict := none, data := .seq ([] : List Value).toArray }) g₂ rfl))
  have hbI : ∀ b o, (g₂.hide I).get? b = some o → b ≠ I ∧ g₂.get? b = some o := fun b o e => ⟨fun q => (by rw [q, Heap.hide_self] at e; cases e), Heap.of_hide e⟩
  have hCb : (g₂.hide I).objs.size ≤ C := by rw [Heap.hide_size, hDg, hC]; exact Nat.le_succ _
  have hDh : (g₂.hide I).get? D = none := (Heap.hide_ne g₂ (Ne.symm hID)).trans (by rw [← hDg]; exact Heap.get?_none_of_le (Nat.le_refl _))
  have hb0 : ∀ b o, s.heap.get? b = some o → (g₂.hide I).get? b = some o := fun b o e => (Heap.hide_ne g₂ (fun q : b = I => by rw [q, hIs] at e; cases e)).trans (keep₂ b o e)
  have hs0 : ∀ a, (g₂.hide I).get? a = none → s.heap.get? a = none := fun a e => by
    cases q : s.heap.get? a with
    | none => rfl
    | some o => rw [hb0 a o q] at e; cases e
  generalize hgg : g₂.hide I = g at hbI hCb hDh hb0 hs0
  have hgI0 : g.get? I = none := by rw [← hgg]; exact Heap.hide_self _ _
  have hDs : s.heap.get? D = none := hs0 _ hDh
  have WK : Walks prog w A I [I] [I] n _ _ := LCg.range_walks hh a n
  have inv0 : CInv g C D Ro (fun _ => True) [(I, { cls := .type "range_iterator", data := .fields #[rawInt a, rawInt ((n : Nat) : Int), rawInt 1] })] 0 h₁ := by
    refine ⟨_, [], [], 0, trivial, ⟨hns₁, fun b o e => old b o (hbI b o e).2, hCb⟩, fun p hp => ?_, fun p hp => ?_, fun q hq p hp => (by cases hp), Nat.le_refl _, fun y hy => (by cases hy)⟩
    · rcases List.mem_cons.mp hp with rfl | hp
      · exact ⟨hacc, hDC, hDh⟩
      · rw [List.append_nil] at hp
        rw [List.mem_singleton.mp hp]
        exact ⟨old _ _ hgI, hIC, hgI0⟩
    · rw [List.append_nil] at hp
      rw [List.mem_singleton.mp hp]; exact hID
  have loop : codeAny (model prog w) A (.compLoop (two elt (.Name x px) i1 (.Name y py) i2 scope pos) 0 (.ref I) (.ref D) (compEnvC scope cl C env)) (compPost (model prog w) A E none Q (.ref D) C) { s with heap := h₁, toks := tk₁ + 0 } := by
    obtain ⟨INV, hINV⟩ : ∃ INV : Nat → Shared → Prop, INV = (fun k s' => ∃ j h tk, s' = { s with heap := h, toks := tk } ∧ j ≤ n ∧ k = n + 1 - j ∧ IsRangeIter h I (a + (j : Nat) * 1) ((n : Int) - (j : Nat)) 1 ∧ ∃ oI, CInv g C D Ro (fun _ => True) [(I, oI)] (j * M) h) := ⟨_, rfl⟩
    refine codeAny_loop rfl INV ?_ (n + 1) (by rw [hINV]; exact ⟨0, h₁, _, rfl, Nat.zero_le _, rfl, by simpa using inv0.get (.head _), _, by rw [Nat.zero_mul]; exact inv0⟩)
    intro k s' hk
    rw [hINV] at hk
    obtain ⟨j, h, tk, rfl, hj, rfl, hst, oI, iv⟩ := hk
    show wpAny _ A ((compTurn (two elt (.Name x px) i1 (.Name y py) i2 scope pos) 0 (.ref I) (.ref D) (compEnvC scope cl C env)).onRaise (fun x => do noteFrame x (compEnvC scope cl C env); theTreesLotGoes x)) _ _ _
    refine wpAny_noted ?_
    rw [turn_two0]
    refine wpAny_bind (wpAny_standAt (wpAny_bind ?_))
    by_cases hlt : j < n
    · refine WK.item j _ _ _ hlt hst fun v ha tka hPv hsta hka => ?_
      obtain ⟨t, rfl⟩ := hPv
      have hkA : ∀ b o, b ≠ I → h.get? b = some o → ha.get? b = some o := fun b o hb e => hka b o (by simpa using hb) e
      have iv2 := iv.move (by intro p hp; cases hp) hkA hsta
      refine wpAny_bind (wpAny_of_eq (a := ()) rfl (wpAny_bind ?_))
      obtain ⟨mc, ys, ents, c, -, F, N, r⟩ := id iv2
      refine wpAny_assign_Name (wpAny_storeName_local (lookup_relabel_local hx) F.ns (fun h₂ hn₂ hs₂ => ?_) (by simp [compEnvC, relabel, hkind]))
      have iv3 : CInv g C D Ro (At2 x (a + (j : Int))) _ _ h₂ := iv2.assign hs₂ hn₂ ⟨t, by simp⟩
      clear iv2 F N r ys ents c mc hn₂
      obtain ⟨mc, ys, ents, c, hm, F, N, a1, a2, a3, a4⟩ := iv3
      obtain ⟨hl1, hl2, hl3⟩ := hlo j hlt
      have hjM : j * M + M ≤ n * M := by
        have := Nat.mul_le_mul_right M (Nat.succ_le_of_lt hlt)
        rw [Nat.succ_mul] at this; exact this
      refine wpAny_bind (wpAny_mono (hit2 j hlt C mc g _ { s with heap := h₂, toks := _ } hb0 hm F N) (fun xv s₃ h₃ => ?_) fun _ _ e => e.elim)
      obtain ⟨r, h3, tk3, mc3, t3, u3, v3, rfl, rfl, F3, hm3, N3, hr3⟩ := h₃
      have iv3 : CInv g C D Ro (At2 x (a + (j : Int))) _ _ h3 := ⟨mc3, ys, ents, c, hm3, F3, N3, a1, a2, a3, a4⟩
      refine wpAny_bind (wpAny_standAt (wpAny_bind (wpAny_of_eq (hs2 C _) (wpAny_bind (wpAny_holding (wpAny_pyIter_range hr3 hl1 ?_))))))
      rw [hl2]
      have hIlt3 : I < h3.objs.size := Heap.lt_size (iv3.get (.head _))
      have iv4 := iv3.push (o := { cls := .type "range_iterator", data := .fields #[rawInt (lo j), rawInt ((cnt j : Nat) : Int), rawInt 1] }) rfl
      refine wpAny_bind (wpAny_runOwn (h := none) ?_)
      have h0 : ∀ s₀ : Shared, s₀.heap = h3.push { cls := .type "range_iterator", data := .fields #[rawInt (lo j), rawInt ((cnt j : Nat) : Int), rawInt 1] } → (∃ tk, s₀ = { s with heap := h3.push { cls := .type "range_iterator", data := .fields #[rawInt (lo j), rawInt ((cnt j : Nat) : Int), rawInt 1] }, toks := tk }) →
          codeAny (model prog w) A (.compLoop (two elt (.Name x px) i1 (.Name y py) i2 scope pos) 1 (.ref h3.objs.size) (.ref D) (compEnvC scope cl C env)) (fun r s' => match r with | .ok f => wpAny (model prog w) A (again (.compLoop (two elt (.Name x px) i1 (.Name y py) i2 scope pos) 0 (.ref I) (.ref D) (compEnvC scope cl C env))) (fun fin s' => match fin with | .done f => compPost (model prog w) A E none Q (.ref D) C (.ok f) s' | .again c' => c' = (.compLoop (two elt (.Name x px) i1 (.Name y py) i2 scope pos) 0 (.ref I) (.ref D) (compEnvC scope cl C env)) ∧ ∃ m, m < n + 1 - j ∧ INV m s') (notedBy (model prog w) A (compEnvC scope cl C env) fun e s' => compPost (model prog w) A E none Q (.ref D) C (.error e) s') s' | .error e => cameBackBy (model prog w) A (compEnvC scope cl C env) (notedBy (model prog w) A (compEnvC scope cl C env) fun e s' => compPost (model prog w) A E none Q (.ref D) C (.error e) s') e s') s₀ := by
        rintro s₀ - ⟨tk0, rfl⟩
        refine inner_loop (n := cnt j) (b := lo j) (i := a + (j : Int)) (len := j * M) (g := g) (Ro := Ro) hh hkind hy hxy (Nat.ne_of_lt hIlt3) (by omega) iv4 (fun k hk => helt j hlt k hk g hb0) fun h5 tk5 iv5 => ?_
        refine wpAny_pure ⟨rfl, n + 1 - (j + 1), by omega, ?_⟩
        rw [hINV]
        exact ⟨j + 1, h5, _, rfl, hlt, rfl, iv5.get (.head _), _, iv5.weak (by rw [Nat.succ_mul]; omega) fun _ _ => trivial⟩
      refine codeAny_of_tree ?_
      show wpAny _ _ ((compStart (two elt (.Name x px) i1 (.Name y py) i2 scope pos) 1 _ _ _).onRaise (fun x => do noteFrame x (compEnvC scope cl C env); standAt theWindowsPlace)) _ _ _
      refine wpAny_notedAt ?_
      unfold compStart
      show wpAny _ _ (ask >>= _) _ _ _
      refine wpAny_bind (wpAny_askSetting (wpAny_ite ?_))
      split
      · exact wpAny_pure (And.intro rfl (h0 _ rfl ⟨_, rfl⟩))
      · refine wpAny_bind (wpAny_rule ?_)
        show wpAny _ _ (standAt i2.pos >>= _) _ _ _
        refine wpAny_bind (wpAny_standAt (wpAny_bind (wpAny_pyIter_rangeiter (it := h3.objs.size) (x := lo j) (left := ((cnt j : Nat) : Int)) (step := 1) (iv4.get (.head _)) ?_)))
        exact wpAny_pure (And.intro rfl (h0 _ rfl ⟨_, rfl⟩))
    · have hjn : j = n := by omega
      subst hjn
      refine WK.done _ _ _ hst fun ha tka hka => ?_
      have hkA : ∀ b o, b ≠ I → h.get? b = some o → ha.get? b = some o := fun b o hb e => hka b o (by simpa using hb) e
      refine wpAny_pure ?_
      obtain ⟨mc, ys, ents, c, q, F, N, a1, a2, a3, a4⟩ := iv
      refine ⟨mc, F.ns.at' fun o e => hkA _ o (Ne.symm hIC) e, fun h' hs' => ?_⟩
      have hkE : ∀ b o, b ≠ I → b ≠ C → h.get? b = some o → h'.get? b = some o := fun b o h1 h2 e => hs'.extBut b o h2 (hkA b o h1 e)
      refine done D h' tka ys ents c a3 a4 (fun p hp => ?_) (hkE D _ (Ne.symm hID) hDC (N _ (.head _)).1) hDs fun b o e => ?_
      · have hp' := N p (.tail _ (List.mem_append_right _ hp))
        exact ⟨hkE _ _ (a2 (I, oI) (.head _) p hp) hp'.2.1 hp'.1, hs0 _ hp'.2.2, a1 p (List.mem_append_right _ hp)⟩
      · have e' := hb0 b o e
        exact hkE b o (hbI b o e').1 (fun q => by
          have := (N (D, PySem.W.listOf ys.toArray c) (.head _))
          have hlt' := Heap.lt_size (hbI b o e').2
          rw [q, hC, hDg] at hlt'
          exact absurd hlt' (Nat.not_lt.mpr (Nat.le_succ _))) (F.keep b o e')
  exact codeAny_compStart_list loop (WK.self 0 _ _ _ (by simpa using inv0.get (.head _)) loop)
end comp2_c
theorem comp2 {prog : Program} {w : World} {A : Around} {E : Value → Shared → Prop} {s : Shared} {elt i1 i2 : Expr} {x y : Str} {px py : Pos} {scope : Scope} {cl : List (Str × Addr)} {pos : Pos} {env : Env} {Q : Value → Shared → Prop} {a b : Int} {n M : Nat} (Ro : Obj → Prop) (lo : Nat → Int) (hi : Int) (cnt : Nat → Nat)
    (hh : A.handled = none) (hclos : closureFor scope env = pure cl) (hcell : ∀ y ∈ scope.names, y.2 ≠ .cell) (hkind : scope.kind = .function)
    (hnames : ∀ y ∈ scope.names, y.2 = .local → scope.names.lookup y.1 = some .local) (hx : scope.names.lookup x = some .local) (hy : scope.names.lookup y = some .local) (hxy : x ≠ y)
    (hsm : Builtin.Range.small a b 1 = true) (hrn : Builtin.Range.rangeSize a b 1 = ((n : Nat) : Int)) (hM : n * M + M ≤ 100000)
    (hit : wpAny (model prog w) A (eval i1 env) (fun xv s₁ => ∃ r t u v, xv = .ref r ∧ Keeps s s₁ ∧ IsRange s₁.heap r a b 1 t u v) E s)
    (hlo : ∀ k, k < n → Builtin.Range.small (lo k) hi 1 = true ∧ Builtin.Range.rangeSize (lo k) hi 1 = ((cnt k : Nat) : Int) ∧ cnt k ≤ M)
    (hit2 : ∀ k, k < n → ∀ C mc hb trk (s₂ : Shared), (∀ b o, s.heap.get? b = some o → hb.get? b = some o) → At2 x (a + (k : Int)) mc → Fr hb C s₂.heap mc → News hb C s₂.heap trk →
      wpAny (model prog w) A (eval i2 (compEnvC scope cl C env)) (GotR s₂ hb C trk x (a + (k : Int)) (lo k) hi) (fun _ _ => False) s₂)
    (helt : ∀ k, k < n → ∀ j, j < cnt k → ∀ hb : Heap, (∀ b o, s.heap.get? b = some o → hb.get? b = some o) → CElt2 prog w A env scope cl elt hb x y (a + (k : Int)) (lo k + (j : Int)) Ro)
    (done : ∀ D h' tk (ys : List Value) (ents : List (Addr × Obj)) k, ys.length ≤ n * M → (∀ y ∈ ys, ∃ a o, y = .ref a ∧ (a, o) ∈ ents ∧ Ro o) → (∀ p ∈ ents, h'.get? p.1 = some p.2 ∧ s.heap.get? p.1 = none ∧ p.1 ≠ D) → h'.get? D = some (PySem.W.listOf ys.toArray k) → s.heap.get? D = none → (∀ b o, s.heap.get? b = some o → h'.get? b = some o) → Q (.ref D) { s with heap := h', toks := tk })
    (hs : ∀ x, foldedSetIterable i1 env x = pure x := by intro _; rfl) (hs2 : ∀ C x, foldedSetIterable i2 (compEnvC scope cl C env) x = pure x := by intro _ _; rfl) :
    wpAny (model prog w) A (eval (two elt (.Name x px) i1 (.Name y py) i2 scope pos) env) Q E s :=
  comp2_c.fin comp2_c.at_ (prog, w, A, E, s, elt, i1, i2, x, y, px, py, scope, cl, pos, env, Q, a, b, n, M, Ro, lo, hi, cnt) hh hclos hcell hkind hnames hx hy hxy hsm hrn hM hit hlo hit2 helt done hs hs2
end
section
section
variable {w : World} {p : Program} {loose : List Str} {mean : ExcName → Option Value} {mg mb : Str → Option Value} {s : Shared} {dp un : Nat} {fr : Option (List Env)} {gd : Option (List Code)} {E : Value → Shared → Prop}
section
variable {prog : Program} {A : Around} {env : Env} {scope : Scope} {cl : List (Str × Addr)} {elt iter target : Expr} {pos : Pos} {Q : Value → Shared → Prop} {l : Addr} {its : List Value}
theorem comp_listT (Rv : Nat → Value → Prop) (Ro : Nat → Obj → Prop) (B : Nat → (Str → Option Value) → Prop) (hh : A.handled = none)
    (hclos : closureFor scope env = pure cl) (hcell : ∀ y ∈ scope.names, y.2 ≠ .cell) (hkind : scope.kind = .function)
    (hnames : ∀ y ∈ scope.names, y.2 = .local → scope.names.lookup y.1 = some .local) (hn : its.length ≤ 100000)
    (hasg : ∀ I, CAsg prog w A env scope cl target s I (fun i v => its[i]? = some v) (fun i h => h.IsListIter I l i ∧ h.IsList l its.toArray) B)
    (hit : wpAny (model prog w) A (eval iter env) (fun xv s₁ => xv = .ref l ∧ Keeps s s₁ ∧ s₁.heap.IsList l its.toArray) E s)
    (helt : CElt prog w A env scope cl elt s B Rv Ro)
    (done : ∀ D h' tk (ys : List Value) ents k, ys.length = its.length → (∀ i y, ys[i]? = some y → REnt Rv Ro ents i y) → (∀ p ∈ ents, h'.get? p.1 = some p.2 ∧ s.heap.get? p.1 = none ∧ p.1 ≠ D) → h'.get? D = some (PySem.W.listOf ys.toArray k) → s.heap.get? D = none → (∀ b o, s.heap.get? b = some o → h'.get? b = some o) → Q (.ref D) { s with heap := h', toks := tk })
    (hs : ∀ x, foldedSetIterable iter env x = pure x := by intro _; rfl) :
    wpAny (model prog w) A (eval (.ListComp elt [⟨target, iter, [], 0⟩] scope pos) env) Q E s := by
  refine comp_core Rv Ro B (fun i v => its[i]? = some v) its.length hclos hcell hkind hnames hn (wpAny_mono hit (fun xv s₁ h₁ => ?_) fun _ _ e => e) helt done hs
  obtain ⟨rfl, ⟨g, tk, rfl, hk⟩, hl⟩ := h₁
  refine wpAny_pyIter_list hl ?_
  have hlt : l < g.objs.size := by obtain ⟨_, e, _⟩ := hl; exact Heap.lt_size e
  have up : ∀ b o, g.get? b = some o → (g.push { cls := .type "list_iterator", data := .fields #[.ref l, .int 0 0] }).get? b = some o := fun b o e => Heap.get?_push_of_some _ e
  refine ⟨g.objs.size, [g.objs.size, l], (fun i h => h.IsListIter g.objs.size l i ∧ h.IsList l its.toArray), rfl, ?_, ⟨⟨_, Heap.get?_push_size _ rfl, rfl, rfl⟩, hl.push _⟩, fun i h st => by obtain ⟨o, e, _⟩ := st.1; exact ⟨o, e⟩, ?_, ?_, ⟨_, _, rfl, fun b o e => up b o (hk b o e)⟩, ?_, hasg _⟩
  · have WL := Walks.list (prog := prog) (w := w) hh g.objs.size l (Nat.ne_of_lt hlt) its.toArray
    simpa using WL
  · intro i h h' o st e e' kk
    obtain ⟨o', q, r⟩ := st.1
    rw [e] at q; cases q
    obtain ⟨ol, hol, rl⟩ := hl
    exact ⟨⟨o, e', r⟩, ⟨ol, kk l ol (by show l < (g.push _).objs.size; rw [Heap.size_push]; exact Nat.lt_succ_of_lt hlt) ((Heap.hide_ne _ (Nat.ne_of_lt hlt)).trans (up _ _ hol)), rl⟩⟩
  · intro b hb
    show b < (g.push _).objs.size
    rw [Heap.size_push]
    rcases List.mem_cons.mp hb with rfl | hb
    · exact Nat.lt_succ_self _
    · rw [List.mem_singleton.mp hb]; exact Nat.lt_succ_of_lt hlt
  · cases q : s.heap.get? g.objs.size with
    | none => rfl
    | some o => have := hk _ o q; rw [Heap.get?_none_of_le (Nat.le_refl _)] at this; cases this
def Bind3 (G : Nat → Value → Value → Value → Prop) (a b c : Str) (i : Nat) (mc : Str → Option Value) : Prop := ∃ va vb vc, G i va vb vc ∧ mc a = some va ∧ mc b = some vb ∧ mc c = some vc
theorem casg_three {a b c : Str} {pa pb pc tp : Pos} {kk : Nat} {I : Addr} (G : Nat → Value → Value → Value → Prop) (hh : A.handled = none) (hkind : scope.kind = .function) (ha : scope.names.lookup a = some .local) (hb : scope.names.lookup b = some .local) (hc : scope.names.lookup c = some .local)
    (hab : a ≠ b) (hac : a ≠ c) (hbc : b ≠ c) (htup : ∀ i v, its[i]? = some v → ∃ T va vb vc, v = .ref T ∧ s.heap.IsTuple T #[va, vb, vc] ∧ G i va vb vc) :
    CAsg prog w A env scope cl (.Tuple [.Name a pa, .Name b pb, .Name c pc] kk tp) s I (fun i v => its[i]? = some v) (fun i h => h.IsListIter I l i ∧ h.IsList l its.toArray) (Bind3 G a b c) := by
  intro i v C mc hb' s₁ E hk hP hst F
  obtain ⟨T, va, vb, vc, rfl, ht, hG⟩ := htup i v hP
  obtain ⟨oT, eT, rT⟩ := ht
  refine wpAny_letOwnedTupleGo_listiter hst.1 ?_
  have hT1 : s₁.heap.IsTuple T #[va, vb, vc] := ⟨oT, F.keep _ _ (hk _ _ eT), rT⟩
  refine wpAny_assign_Tuple hh hT1 rfl rfl fun h₁ he₁ => ?_
  have hp : ((compEnvC scope cl C env).scope.kind == .class || ((compEnvC scope cl C env).scope.kind == .module && (compEnvC scope cl C env).locals != (compEnvC scope cl C env).globals)) = false := by simp [compEnvC, relabel, hkind]
  have up₁ : ∀ c o, s₁.heap.get? c = some o → h₁.get? c = some o := fun c o e => he₁ c o (Nat.ne_of_lt (Heap.lt_size e)) e
  show wpAny _ _ (assignInOrder [assign (.Name a pa) _, assign (.Name b pb) _, assign (.Name c pc) _] [va, vb, vc]) _ _ _
  refine assignInOrder_cons (wpAny_assign_Name (wpAny_storeName_local (lookup_relabel_local ha) (F.ns.at' fun o e => up₁ _ o e) (fun h₂ hn₂ hs₂ => ?_) hp))
  refine assignInOrder_cons (wpAny_assign_Name (wpAny_storeName_local (lookup_relabel_local hb) hn₂ (fun h₃ hn₃ hs₃ => ?_) hp))
  refine assignInOrder_cons (wpAny_assign_Name (wpAny_storeName_local (lookup_relabel_local hc) hn₃ (fun h₄ hn₄ hs₄ => ?_) hp))
  refine assignInOrder_nil ?_
  exact ⟨h₄, _, _, rfl, hn₄, ⟨va, vb, vc, hG, by simp [hab, hac], by simp [hbc], by simp⟩, fun b o hne e => hs₄.extBut b o hne (hs₃.extBut b o hne (hs₂.extBut b o hne (up₁ b o e)))⟩
end
end
end
section
section
variable {w : World} {p : Program} {loose : List Str} {mean : ExcName → Option Value} {mg mb : Str → Option Value} {s : Shared} {dp un : Nat} {fr : Option (List Env)} {gd : Option (List Code)} {E : Value → Shared → Prop}
theorem strs_drop {vs : List Value} {ys : List Str} (h : StrsAre vs ys) : ∀ k, StrsAre (vs.drop k) (ys.drop k) := by
  induction h with
  | nil => intro k; rw [List.drop_nil, List.drop_nil]; exact .nil
  | cons x t _ ih =>
    intro k
    cases k with
    | zero => exact .cons x t (by assumption)
    | succ k => rw [List.drop_succ_cons, List.drop_succ_cons]; exact ih k
theorem strs_take {vs : List Value} {ys : List Str} (h : StrsAre vs ys) : ∀ k, StrsAre (vs.take k) (ys.take k) := by
  induction h with
  | nil => intro k; rw [List.take_nil, List.take_nil]; exact .nil
  | cons x t _ ih =>
    intro k
    cases k with
    | zero => exact .nil
    | succ k => rw [List.take_succ_cons, List.take_succ_cons]; exact .cons x t (ih k)
def IsSl (P W : List Str) : Prop := ∃ a n, W = (P.drop a).take n
def WordAt (g : Heap) (v : Value) (W : List Str) : Prop := ∃ a us, v = .ref a ∧ g.IsList a (List.toArray us) ∧ StrsAre us W
theorem WordAt.up {g g' : Heap} {v : Value} {W : List Str} (x : WordAt g v W) (h : ∀ b o, g.get? b = some o → g'.get? b = some o) : WordAt g' v W := by
  obtain ⟨a, us, rfl, e, r⟩ := x
  exact ⟨a, us, rfl, e.at fun o q => h _ o q, r⟩
theorem paired_mono {α β : Type} {F G : α → β → Prop} (h : ∀ a b, F a b → G a b) : ∀ {l₁ : List α} {l₂ : List β}, Paired F l₁ l₂ → Paired G l₁ l₂
  | _, _, .nil => .nil
  | _, _, .cons x t => .cons (h _ _ x) (paired_mono h t)
theorem paired_get {α β : Type} {F : α → β → Prop} : ∀ {l₁ : List α} {l₂ : List β}, Paired F l₁ l₂ → ∀ (i : Nat) a, l₁[i]? = some a → ∃ b, l₂[i]? = some b ∧ F a b
  | _, _, .nil, i, a, h => by simp at h
  | _, _, .cons (b := b) x t, i, a, h => by
    cases i with
    | zero => simp at h; subst h; exact ⟨b, rfl, x⟩
    | succ i => simp at h; simpa using paired_get t i a h
theorem paired_of {α β : Type} {F : α → β → Prop} : ∀ {l₁ : List α} {l₂ : List β}, l₁.length = l₂.length → (∀ (i : Nat) a b, l₁[i]? = some a → l₂[i]? = some b → F a b) → Paired F l₁ l₂
  | [], [], _, _ => .nil
  | a :: l₁, b :: l₂, hl, h => .cons (h 0 a b rfl rfl) (paired_of (Nat.succ.inj hl) fun i x y e1 e2 => h (i + 1) x y (by simpa using e1) (by simpa using e2))
  | [], _ :: _, hl, _ => by simp at hl
  | _ :: _, [], hl, _ => by simp at hl
theorem paired_ex {α β : Type} {F : α → β → Prop} {G : β → Prop} : ∀ {l₁ : List α}, (∀ a ∈ l₁, ∃ b, F a b ∧ G b) → ∃ l₂ : List β, Paired F l₁ l₂ ∧ ∀ b ∈ l₂, G b
  | [], _ => ⟨[], .nil, fun _ h => by cases h⟩
  | a :: l₁, h => by
    obtain ⟨b, h1, h2⟩ := h a (.head _)
    obtain ⟨l₂, h3, h4⟩ := paired_ex (l₁ := l₁) fun x hx => h x (.tail _ hx)
    exact ⟨b :: l₂, .cons h1 h3, fun y hy => by
      rcases List.mem_cons.mp hy with rfl | hy
      · exact h2
      · exact h4 y hy⟩
section
variable {prog : Program} {A : Around} {h₀ : Heap} {L l : Addr} {m : Str → Option Value} {news : List (Addr × Obj)}
theorem my_slice_strs {value slice : PySem.Expr} {vs : List Value} {vl vu : Value} {a b : Nat} {ys : List Str} {Q : Value → Shared → Prop} (F : Fr h₀ L s.heap m) (N : News h₀ L s.heap news) (hl : s.heap.IsList l vs.toArray) (hy : StrsAre vs ys) (pl : IsPart vl (some (a : Int))) (pu : IsPart vu (some (b : Int))) (hab : a ≤ b ∧ b ≤ ys.length ∧ ys.length ≤ 1000)
    (h : ∀ D us h', Fr h₀ L h' m → News h₀ L h' ((D, PySem.W.listOf (List.toArray us) 0) :: news) → (∀ p ∈ news, p.1 < D) → StrsAre us ((ys.drop a).take (b - a)) → Q (.ref D) { s with heap := h' })
    (hs : subscripted slice false (.ref l) (.ref s.heap.objs.size) = operate [.ref s.heap.objs.size, .ref l] (getItem (.ref l) (.ref s.heap.objs.size))) (ht : ∀ r, letTemporaryGo value (.ref l) r = pure ()) :
    wpAny (model prog w) A (subscriptTail value slice (.ref l) (.ref s.heap.objs.size)) Q E { s with heap := s.heap.push { cls := .type "slice", data := .fields #[vl, vu, .none] } } := by
  have hlen := hy.len_eq
  refine kmk_slice F N hl pl pu (fun D h' F' N' l1 => h D ((vs.drop a).take (b - a)) h' F' ?_ l1 (strs_take (strs_drop hy a) _)) hs ht (by rw [List.size_toArray, sizeLine_eq]; omega)
  rw [slicePick_run _ _ _ (by rw [List.size_toArray]; omega) hab.1] at N'
  simpa using N'
end
theorem range_facts2 : ∀ H : Fin 9, ∀ k : Fin 9, k.val < H.val → Builtin.Range.small (((k.val : Nat) : Int) + 1) (((H.val : Nat) : Int) + 1) 1 = true ∧ Builtin.Range.rangeSize (((k.val : Nat) : Int) + 1) (((H.val : Nat) : Int) + 1) 1 = ((H.val - k.val : Nat) : Int) := by decide +kernel
end
end
section
section
variable {w : World} {p : Program} {loose : List Str} {mean : ExcName → Option Value} {mg mb : Str → Option Value} {s : Shared} {dp un : Nat} {fr : Option (List Env)} {gd : Option (List Code)} {E : Value → Shared → Prop}
theorem comp_assign {prog : Program} {w : World} {A : Around} {E : Value → Shared → Prop} {s : Shared} {env : Env} {scope : Scope} {cl : List (Str × Addr)} {elt target iter : Expr} {y : Str} {py pos spos : Pos} {Q : Flow → Shared → Prop} {m : Str → Option Value}
    (Rv : Nat → Value → Prop) (Ro : Nat → Obj → Prop) (B : Nat → (Str → Option Value) → Prop) (P : Nat → Value → Prop) (n : Nat)
    (hsw : swapsWith (.ListComp elt [⟨target, iter, [], 0⟩] scope pos) (some (.Name y py)) spos.line env = pure true)
    (hclos : closureFor scope env = pure cl) (hcell : ∀ y ∈ scope.names, y.2 ≠ .cell) (hkind : scope.kind = .function)
    (hnames : ∀ y ∈ scope.names, y.2 = .local → scope.names.lookup y.1 = some .local) (hn : n ≤ 100000)
    (hy : env.kindOf y = some .local) (hp : (env.scope.kind == .class || (env.scope.kind == .module && env.locals != env.globals)) = false) (hns : s.heap.Ns env.locals m)
    (hit : wpAny (model prog w) A (eval iter env) (fun xv s₁ => wpAny (model prog w) A (pyIter xv) (fun it s₂ => ∃ I fp St, it = .ref I ∧ Walks prog w A I fp [I] n P St ∧ St 0 s₂.heap ∧ (∀ i h, St i h → ∃ o, h.get? I = some o) ∧ (∀ i h h' o, St i h → h.get? I = some o → h'.get? I = some o → (∀ b o, b < s₂.heap.objs.size → (s₂.heap.hide I).get? b = some o → h'.get? b = some o) → St i h') ∧ (∀ b ∈ fp, b < s₂.heap.objs.size) ∧ Keeps s s₂ ∧ s.heap.get? I = none ∧
      CAsg prog w A env scope cl target s I P St B) E s₁) E s)
    (helt : CElt prog w A env scope cl elt s B Rv Ro)
    (done : ∀ D h' tk (ys : List Value) (ents : List (Addr × Obj)) k, ys.length = n → (∀ i y, ys[i]? = some y → REnt Rv Ro ents i y) → (∀ p ∈ ents, h'.get? p.1 = some p.2 ∧ s.heap.get? p.1 = none ∧ p.1 ≠ D) → h'.get? D = some (PySem.W.listOf ys.toArray k) → s.heap.get? D = none → h'.Ns env.locals (fun z => if z = y then some (.ref D) else m z) → (∀ b o, b ≠ env.locals → s.heap.get? b = some o → h'.get? b = some o) → Q .next { s with heap := h', toks := tk })
    (hs : ∀ x, foldedSetIterable iter env x = pure x := by intro _; rfl) :
    wpAny (model prog w) A (exec (.Assign [.Name y py] (.ListComp elt [⟨target, iter, [], 0⟩] scope pos) spos) env) Q E s := by
  rw [exec_Assign_Name_used _ _ _ _ hsw]
  refine wpAny_bind (wpAny_standAt (wpAny_bind ?_))
  show wpAny _ A (do let _ ← comprehension (.ListComp elt [⟨target, iter, [], 0⟩] scope pos) scope env _ (newList []) false (eval iter env) (some (assign (.Name y py) env))) _ _ s
  refine wpAny_bind (wpAny_mono (comp_coreU (Q := fun _ s' => Q .next s') (some (assign (.Name y py) env)) Rv Ro B P n hclos hcell hkind hnames hn hit helt ?_ hs) (fun _ s' hq => wpAny_pure (wpAny_pure hq)) fun _ _ e => e)
  intro D C h' tk mc ys ents k hyl hye hen hD hDs hCs hDC hnC hkp
  obtain ⟨oL, a1, a2, eL, a3⟩ := id hns
  have hLC : env.locals ≠ C := fun q => by rw [q, hCs] at eL; cases eL
  have hLD : env.locals ≠ D := fun q => by rw [q, hDs] at eL; cases eL
  show wpAny _ A (assign (.Name y py) env (.ref D)) _ _ _
  refine wpAny_assign_Name (wpAny_storeName_local hy (hns.at' fun o e => hkp _ o e) (fun h₂ hn₂ hs₂ => ?_) hp)
  refine ⟨mc, hnC.sameBut hs₂ (Ne.symm hLC), fun h₃ hs₃ => ?_⟩
  refine done D h₃ _ ys ents k hyl hye (fun p hp => ⟨hs₃.extBut _ _ (hen p hp).2.2.2 (hs₂.extBut _ _ (fun q => ?_) (hen p hp).1), (hen p hp).2.1, (hen p hp).2.2.1⟩) (hs₃.extBut _ _ hDC (hs₂.extBut _ _ (Ne.symm hLD) hD)) hDs (hn₂.sameBut hs₃ hLC) fun b o hb e => hs₃.extBut b o (fun q => by rw [q, hCs] at e; cases e) (hs₂.extBut b o hb (hkp b o e))
  have := (hen p hp).2.1
  rw [q, eL] at this; cases this
theorem comp_assignT {prog : Program} {w : World} {A : Around} {E : Value → Shared → Prop} {s : Shared} {env : Env} {scope : Scope} {cl : List (Str × Addr)} {elt target iter : Expr} {y : Str} {py pos spos : Pos} {Q : Flow → Shared → Prop} {m : Str → Option Value} {l : Addr} {its : List Value}
    (Rv : Nat → Value → Prop) (Ro : Nat → Obj → Prop) (B : Nat → (Str → Option Value) → Prop) (hh : A.handled = none)
    (hsw : swapsWith (.ListComp elt [⟨target, iter, [], 0⟩] scope pos) (some (.Name y py)) spos.line env = pure true)
    (hclos : closureFor scope env = pure cl) (hcell : ∀ y ∈ scope.names, y.2 ≠ .cell) (hkind : scope.kind = .function)
    (hnames : ∀ y ∈ scope.names, y.2 = .local → scope.names.lookup y.1 = some .local) (hn : its.length ≤ 100000)
    (hy : env.kindOf y = some .local) (hp : (env.scope.kind == .class || (env.scope.kind == .module && env.locals != env.globals)) = false) (hns : s.heap.Ns env.locals m)
    (hasg : ∀ I, CAsg prog w A env scope cl target s I (fun i v => its[i]? = some v) (fun i h => h.IsListIter I l i ∧ h.IsList l its.toArray) B)
    (hit : wpAny (model prog w) A (eval iter env) (fun xv s₁ => xv = .ref l ∧ Keeps s s₁ ∧ s₁.heap.IsList l its.toArray) E s)
    (helt : CElt prog w A env scope cl elt s B Rv Ro)
    (done : ∀ D h' tk (ys : List Value) (ents : List (Addr × Obj)) k, ys.length = its.length → (∀ i y, ys[i]? = some y → REnt Rv Ro ents i y) → (∀ p ∈ ents, h'.get? p.1 = some p.2 ∧ s.heap.get? p.1 = none ∧ p.1 ≠ D) → h'.get? D = some (PySem.W.listOf ys.toArray k) → s.heap.get? D = none → h'.Ns env.locals (fun z => if z = y then some (.ref D) else m z) → (∀ b o, b ≠ env.locals → s.heap.get? b = some o → h'.get? b = some o) → Q .next { s with heap := h', toks := tk })
    (hs : ∀ x, foldedSetIterable iter env x = pure x := by intro _; rfl) :
    wpAny (model prog w) A (exec (.Assign [.Name y py] (.ListComp elt [⟨target, iter, [], 0⟩] scope pos) spos) env) Q E s := by
  refine comp_assign Rv Ro B (fun i v => its[i]? = some v) its.length hsw hclos hcell hkind hnames hn hy hp hns (wpAny_mono hit (fun xv s₁ h₁ => ?_) fun _ _ e => e) helt done hs
  obtain ⟨rfl, ⟨g, tk, rfl, hk⟩, hl⟩ := h₁
  refine wpAny_pyIter_list hl ?_
  have hlt : l < g.objs.size := by obtain ⟨_, e, _⟩ := hl; exact Heap.lt_size e
  have up : ∀ b o, g.get? b = some o → (g.push { cls := .type "list_iterator", data := .fields #[.ref l, .int 0 0] }).get? b = some o := fun b o e => Heap.get?_push_of_some _ e
  refine ⟨g.objs.size, [g.objs.size, l], (fun i h => h.IsListIter g.objs.size l i ∧ h.IsList l its.toArray), rfl, ?_, ⟨⟨_, Heap.get?_push_size _ rfl, rfl, rfl⟩, hl.push _⟩, fun i h st => by obtain ⟨o, e, _⟩ := st.1; exact ⟨o, e⟩, ?_, ?_, ⟨_, _, rfl, fun b o e => up b o (hk b o e)⟩, ?_, hasg _⟩
  · have WL := Walks.list (prog := prog) (w := w) hh g.objs.size l (Nat.ne_of_lt hlt) its.toArray
    simpa using WL
  · intro i h h' o st e e' kk
    obtain ⟨o', q, r⟩ := st.1
    rw [e] at q; cases q
    obtain ⟨ol, hol, rl⟩ := hl
    exact ⟨⟨o, e', r⟩, ⟨ol, kk l ol (by show l < (g.push _).objs.size; rw [Heap.size_push]; exact Nat.lt_succ_of_lt hlt) ((Heap.hide_ne _ (Nat.ne_of_lt hlt)).trans (up _ _ hol)), rl⟩⟩
  · intro b hb
    show b < (g.push _).objs.size
    rw [Heap.size_push]
    rcases List.mem_cons.mp hb with rfl | hb
    · exact Nat.lt_succ_self _
    · rw [List.mem_singleton.mp hb]; exact Nat.lt_succ_of_lt hlt
  · cases q : s.heap.get? g.objs.size with
    | none => rfl
    | some o => have := hk _ o q; rw [Heap.get?_none_of_le (Nat.le_refl _)] at this; cases this
end
end
section
section
variable {w : World} {p : Program} {loose : List Str} {mean : ExcName → Option Value} {mg mb : Str → Option Value} {s : Shared} {dp un : Nat} {fr : Option (List Env)} {gd : Option (List Code)} {E : Value → Shared → Prop}
theorem comp_assignX0 {prog : Program} {w : World} {A : Around} {E : Value → Shared → Prop} {s : Shared} {env : Env} {scope : Scope} {cl : List (Str × Addr)} {elt target iter : Expr} {y : Str} {py pos spos : Pos} {Q : Flow → Shared → Prop} {m : Str → Option Value}
    (Rv : Nat → Value → Prop) (Ro : Nat → Obj → Prop) (B : Nat → Addr → Heap → Prop) (P : Nat → Value → Prop) (n : Nat)
    (hsw : swapsWith (.ListComp elt [⟨target, iter, [], 0⟩] scope pos) (some (.Name y py)) spos.line env = pure true)
    (hclos : closureFor scope env = pure cl) (hkind : scope.kind = .function)
    (hnames : ∀ y ∈ scope.names, y.2 = .local → scope.names.lookup y.1 = some .local) (hn : n ≤ 100000)
    (hy : env.kindOf y = some .local) (hp : (env.scope.kind == .class || (env.scope.kind == .module && env.locals != env.globals)) = false) (hns : s.heap.Ns env.locals m)
    (hit : wpAny (model prog w) A (eval iter env) (fun xv s₁ => wpAny (model prog w) A (pyIter xv) (fun it s₂ => ∃ I fp St, it = .ref I ∧ Walks prog w A I fp [I] n P St ∧ St 0 s₂.heap ∧ (∀ i h, St i h → ∃ o, h.get? I = some o) ∧ (∀ i h h' o, St i h → h.get? I = some o → h'.get? I = some o → (∀ b o, b < s₂.heap.objs.size → (s₂.heap.hide I).get? b = some o → h'.get? b = some o) → St i h') ∧ (∀ b ∈ fp, b < s₂.heap.objs.size) ∧ Keeps s s₂ ∧ s.heap.get? I = none ∧
      CAsgX prog w A env scope cl target s I P St B) E s₁) E s)
    (helt : CEltX prog w A env scope cl elt s B Rv Ro)
    (done : ∀ D h' tk (ys : List Value) (ents : List (Addr × Obj)) k, ys.length = n → (∀ i y, ys[i]? = some y → REnt Rv Ro ents i y) → (∀ p ∈ ents, h'.get? p.1 = some p.2 ∧ s.heap.get? p.1 = none ∧ p.1 ≠ D) → h'.get? D = some (PySem.W.listOf ys.toArray k) → s.heap.get? D = none → h'.Ns env.locals (fun z => if z = y then some (.ref D) else m z) → (∀ b o, b ≠ env.locals → s.heap.get? b = some o → h'.get? b = some o) → Q .next { s with heap := h', toks := tk })
    (hs : ∀ x, foldedSetIterable iter env x = pure x := by intro _; rfl) :
    wpAny (model prog w) A (exec (.Assign [.Name y py] (.ListComp elt [⟨target, iter, [], 0⟩] scope pos) spos) env) Q E s := by
  rw [exec_Assign_Name_used _ _ _ _ hsw]
  refine wpAny_bind (wpAny_standAt (wpAny_bind ?_))
  show wpAny _ A (do let _ ← comprehension (.ListComp elt [⟨target, iter, [], 0⟩] scope pos) scope env _ (newList []) false (eval iter env) (some (assign (.Name y py) env))) _ _ s
  refine wpAny_bind (wpAny_mono (comp_coreX (Q := fun _ s' => Q .next s') (some (assign (.Name y py) env)) Rv Ro B P n hclos hkind hnames hn hit helt ?_ hs) (fun _ s' hq => wpAny_pure (wpAny_pure hq)) fun _ _ e => e)
  intro D C h' tk mc ys ents k hyl hye hen hD hDs hCs hDC hnC hkp
  obtain ⟨oL, a1, a2, eL, a3⟩ := id hns
  have hLC : env.locals ≠ C := fun q => by rw [q, hCs] at eL; cases eL
  have hLD : env.locals ≠ D := fun q => by rw [q, hDs] at eL; cases eL
  show wpAny _ A (assign (.Name y py) env (.ref D)) _ _ _
  refine wpAny_assign_Name (wpAny_storeName_local hy (hns.at' fun o e => hkp _ o e) (fun h₂ hn₂ hs₂ => ?_) hp)
  refine ⟨mc, hnC.sameBut hs₂ (Ne.symm hLC), fun h₃ hs₃ => ?_⟩
  refine done D h₃ _ ys ents k hyl hye (fun p hp => ⟨hs₃.extBut _ _ (hen p hp).2.2.2 (hs₂.extBut _ _ (fun q => ?_) (hen p hp).1), (hen p hp).2.1, (hen p hp).2.2.1⟩) (hs₃.extBut _ _ hDC (hs₂.extBut _ _ (Ne.symm hLD) hD)) hDs (hn₂.sameBut hs₃ hLC) fun b o hb e => hs₃.extBut b o (fun q => by rw [q, hCs] at e; cases e) (hs₂.extBut b o hb (hkp b o e))
  have := (hen p hp).2.1
  rw [q, eL] at this; cases this
theorem comp_assignX {prog : Program} {w : World} {A : Around} {E : Value → Shared → Prop} {s : Shared} {env : Env} {scope : Scope} {cl : List (Str × Addr)} {elt target iter : Expr} {y : Str} {py pos spos : Pos} {Q : Flow → Shared → Prop} {m : Str → Option Value} {l : Addr} {its : List Value}
    (Rv : Nat → Value → Prop) (Ro : Nat → Obj → Prop) (B : Nat → Addr → Heap → Prop) (hh : A.handled = none)
    (hsw : swapsWith (.ListComp elt [⟨target, iter, [], 0⟩] scope pos) (some (.Name y py)) spos.line env = pure true)
    (hclos : closureFor scope env = pure cl) (hkind : scope.kind = .function)
    (hnames : ∀ y ∈ scope.names, y.2 = .local → scope.names.lookup y.1 = some .local) (hn : its.length ≤ 100000)
    (hy : env.kindOf y = some .local) (hp : (env.scope.kind == .class || (env.scope.kind == .module && env.locals != env.globals)) = false) (hns : s.heap.Ns env.locals m)
    (hasg : ∀ I, CAsgX prog w A env scope cl target s I (fun i v => its[i]? = some v) (fun i h => h.IsListIter I l i ∧ h.IsList l its.toArray) B)
    (hit : wpAny (model prog w) A (eval iter env) (fun xv s₁ => xv = .ref l ∧ Keeps s s₁ ∧ s₁.heap.IsList l its.toArray) E s)
    (helt : CEltX prog w A env scope cl elt s B Rv Ro)
    (done : ∀ D h' tk (ys : List Value) (ents : List (Addr × Obj)) k, ys.length = its.length → (∀ i y, ys[i]? = some y → REnt Rv Ro ents i y) → (∀ p ∈ ents, h'.get? p.1 = some p.2 ∧ s.heap.get? p.1 = none ∧ p.1 ≠ D) → h'.get? D = some (PySem.W.listOf ys.toArray k) → s.heap.get? D = none → h'.Ns env.locals (fun z => if z = y then some (.ref D) else m z) → (∀ b o, b ≠ env.locals → s.heap.get? b = some o → h'.get? b = some o) → Q .next { s with heap := h', toks := tk })
    (hs : ∀ x, foldedSetIterable iter env x = pure x := by intro _; rfl) :
    wpAny (model prog w) A (exec (.Assign [.Name y py] (.ListComp elt [⟨target, iter, [], 0⟩] scope pos) spos) env) Q E s := by
  refine comp_assignX0 Rv Ro B (fun i v => its[i]? = some v) its.length hsw hclos hkind hnames hn hy hp hns (wpAny_mono hit (fun xv s₁ h₁ => ?_) fun _ _ e => e) helt done hs
  obtain ⟨rfl, ⟨g, tk, rfl, hk⟩, hl⟩ := h₁
  refine wpAny_pyIter_list hl ?_
  have hlt : l < g.objs.size := by obtain ⟨_, e, _⟩ := hl; exact Heap.lt_size e
  have up : ∀ b o, g.get? b = some o → (g.push { cls := .type "list_iterator", data := .fields #[.ref l, .int 0 0] }).get? b = some o := fun b o e => Heap.get?_push_of_some _ e
  refine ⟨g.objs.size, [g.objs.size, l], (fun i h => h.IsListIter g.objs.size l i ∧ h.IsList l its.toArray), rfl, ?_, ⟨⟨_, Heap.get?_push_size _ rfl, rfl, rfl⟩, hl.push _⟩, fun i h st => by obtain ⟨o, e, _⟩ := st.1; exact ⟨o, e⟩, ?_, ?_, ⟨_, _, rfl, fun b o e => up b o (hk b o e)⟩, ?_, hasg _⟩
  · have WL := Walks.list (prog := prog) (w := w) hh g.objs.size l (Nat.ne_of_lt hlt) its.toArray
    simpa using WL
  · intro i h h' o st e e' kk
    obtain ⟨o', q, r⟩ := st.1
    rw [e] at q; cases q
    obtain ⟨ol, hol, rl⟩ := hl
    exact ⟨⟨o, e', r⟩, ⟨ol, kk l ol (by show l < (g.push _).objs.size; rw [Heap.size_push]; exact Nat.lt_succ_of_lt hlt) ((Heap.hide_ne _ (Nat.ne_of_lt hlt)).trans (up _ _ hol)), rl⟩⟩
  · intro b hb
    show b < (g.push _).objs.size
    rw [Heap.size_push]
    rcases List.mem_cons.mp hb with rfl | hb
    · exact Nat.lt_succ_self _
    · rw [List.mem_singleton.mp hb]; exact Nat.lt_succ_of_lt hlt
  · cases q : s.heap.get? g.objs.size with
    | none => rfl
    | some o => have := hk _ o q; rw [Heap.get?_none_of_le (Nat.le_refl _)] at this; cases this
theorem comp_listX {prog : Program} {w : World} {A : Around} {E : Value → Shared → Prop} {s : Shared} {env : Env} {scope : Scope} {cl : List (Str × Addr)} {elt target iter : Expr} {pos : Pos} {Q : Value → Shared → Prop} {l : Addr} {its : List Value}
    (Rv : Nat → Value → Prop) (Ro : Nat → Obj → Prop) (B : Nat → Addr → Heap → Prop) (hh : A.handled = none)
    (hclos : closureFor scope env = pure cl) (hkind : scope.kind = .function)
    (hnames : ∀ y ∈ scope.names, y.2 = .local → scope.names.lookup y.1 = some .local) (hn : its.length ≤ 100000)
    (hasg : ∀ I, CAsgX prog w A env scope cl target s I (fun i v => its[i]? = some v) (fun i h => h.IsListIter I l i ∧ h.IsList l its.toArray) B)
    (hit : wpAny (model prog w) A (eval iter env) (fun xv s₁ => xv = .ref l ∧ Keeps s s₁ ∧ s₁.heap.IsList l its.toArray) E s)
    (helt : CEltX prog w A env scope cl elt s B Rv Ro)
    (done : ∀ D h' tk (ys : List Value) (ents : List (Addr × Obj)) k, ys.length = its.length → (∀ i y, ys[i]? = some y → REnt Rv Ro ents i y) → (∀ p ∈ ents, h'.get? p.1 = some p.2 ∧ s.heap.get? p.1 = none ∧ p.1 ≠ D) → h'.get? D = some (PySem.W.listOf ys.toArray k) → s.heap.get? D = none → (∀ b o, s.heap.get? b = some o → h'.get? b = some o) → Q (.ref D) { s with heap := h', toks := tk })
    (hs : ∀ x, foldedSetIterable iter env x = pure x := by intro _; rfl) :
    wpAny (model prog w) A (eval (.ListComp elt [⟨target, iter, [], 0⟩] scope pos) env) Q E s := by
  rw [eval_ListComp]
  refine comp_coreX none Rv Ro B (fun i v => its[i]? = some v) its.length hclos hkind hnames hn (wpAny_mono hit (fun xv s₁ h₁ => ?_) fun _ _ e => e) helt (fun D C h' tk mc ys ents k hyl hye hen hD hDs hCs hDC hnC hkp => ⟨mc, hnC, fun h'' hs'' => done D h'' tk ys ents k hyl hye (fun p hp => ⟨hs''.extBut _ _ (hen p hp).2.2.2 (hen p hp).1, (hen p hp).2.1, (hen p hp).2.2.1⟩) (hs''.extBut _ _ hDC hD) hDs fun b o e => hs''.extBut b o (fun q => by rw [q, hCs] at e; cases e) (hkp b o e)⟩) hs
  obtain ⟨rfl, ⟨g, tk, rfl, hk⟩, hl⟩ := h₁
  refine wpAny_pyIter_list hl ?_
  have hlt : l < g.objs.size := by obtain ⟨_, e, _⟩ := hl; exact Heap.lt_size e
  have up : ∀ b o, g.get? b = some o → (g.push { cls := .type "list_iterator", data := .fields #[.ref l, .int 0 0] }).get? b = some o := fun b o e => Heap.get?_push_of_some _ e
  refine ⟨g.objs.size, [g.objs.size, l], (fun i h => h.IsListIter g.objs.size l i ∧ h.IsList l its.toArray), rfl, ?_, ⟨⟨_, Heap.get?_push_size _ rfl, rfl, rfl⟩, hl.push _⟩, fun i h st => by obtain ⟨o, e, _⟩ := st.1; exact ⟨o, e⟩, ?_, ?_, ⟨_, _, rfl, fun b o e => up b o (hk b o e)⟩, ?_, hasg _⟩
  · have WL := Walks.list (prog := prog) (w := w) hh g.objs.size l (Nat.ne_of_lt hlt) its.toArray
    simpa using WL
  · intro i h h' o st e e' kk
    obtain ⟨o', q, r⟩ := st.1
    rw [e] at q; cases q
    obtain ⟨ol, hol, rl⟩ := hl
    exact ⟨⟨o, e', r⟩, ⟨ol, kk l ol (by show l < (g.push _).objs.size; rw [Heap.size_push]; exact Nat.lt_succ_of_lt hlt) ((Heap.hide_ne _ (Nat.ne_of_lt hlt)).trans (up _ _ hol)), rl⟩⟩
  · intro b hb
    show b < (g.push _).objs.size
    rw [Heap.size_push]
    rcases List.mem_cons.mp hb with rfl | hb
    · exact Nat.lt_succ_self _
    · rw [List.mem_singleton.mp hb]; exact Nat.lt_succ_of_lt hlt
  · cases q : s.heap.get? g.objs.size with
    | none => rfl
    | some o => have := hk _ o q; rw [Heap.get?_none_of_le (Nat.le_refl _)] at this; cases this
end
end
section
section
variable {w : World} {p : Program} {loose : List Str} {mean : ExcName → Option Value} {mg mb : Str → Option Value} {s : Shared} {dp un : Nat} {fr : Option (List Env)} {gd : Option (List Code)} {E : Value → Shared → Prop}
section
variable {prog : Program} {A : Around} {env : Env} {scope : Scope} {cl : List (Str × Addr)} {l : Addr} {its : List Value}
theorem casgX_one {x : Str} {px : Pos} {I : Addr} {P : Nat → Value → Prop} {St : Nat → Heap → Prop} (hkind : scope.kind = .function) (hm : ∀ C, (x, C + 1) ∈ ncells scope C) (hlk : ∀ C, (ncells scope C ++ cl).lookup x = some (C + 1))
    (hkx : ∀ C, (compEnvC scope (ncells scope C ++ cl) C env).kindOf x = some .cell) :
    CAsgX prog w A env scope cl (.Name x px) s I P St (fun i C h => ∃ v, P i v ∧ h.IsCell (C + 1) (some v)) := by
  intro i v C mc hb s₁ E hk hP hst F hcl hap
  refine wpAny_of_eq (a := ()) rfl ?_
  obtain ⟨⟨v0, hv0⟩, hlt⟩ := hcl x (C + 1) (hm C)
  refine wpAny_assign_Name (wpAny_storeName_cell (by simp [compEnvC, relabel, hkind]) (hkx C) (hlk C) hv0 (fun h₂ hv₂ hs₂ => ?_))
  refine ⟨h₂, _, mc, rfl, F.ns.sameBut hs₂ (Nat.ne_of_lt hlt), ⟨v, hP, hv₂⟩, fun n c hmem => ?_, fun b o h1 h2 e => hs₂.extBut b o (fun q => h2 x (q ▸ hm C)) e⟩
  by_cases hc : c = C + 1
  · exact ⟨_, hc ▸ hv₂⟩
  · obtain ⟨⟨v', hv'⟩, -⟩ := hcl n c hmem
    exact ⟨v', hv'.sameBut hs₂ hc⟩
def Cells3 (G : Nat → Value → Value → Value → Prop) (i : Nat) (C : Addr) (h : Heap) : Prop := ∃ va vb vc, G i va vb vc ∧ h.IsCell (C + 1) (some va) ∧ h.IsCell (C + 1 + 1) (some vb) ∧ h.IsCell (C + 1 + 1 + 1) (some vc)
theorem casgX_three {a b c : Str} {pa pb pc tp : Pos} {kk : Nat} {I : Addr} (G : Nat → Value → Value → Value → Prop) (hh : A.handled = none) (hkind : scope.kind = .function)
    (hma : ∀ C, (a, C + 1) ∈ ncells scope C) (hmb : ∀ C, (b, C + 1 + 1) ∈ ncells scope C) (hmc : ∀ C, (c, C + 1 + 1 + 1) ∈ ncells scope C)
    (hla : ∀ C, (ncells scope C ++ cl).lookup a = some (C + 1)) (hlb : ∀ C, (ncells scope C ++ cl).lookup b = some (C + 1 + 1)) (hlc : ∀ C, (ncells scope C ++ cl).lookup c = some (C + 1 + 1 + 1))
    (hka : ∀ C, (compEnvC scope (ncells scope C ++ cl) C env).kindOf a = some .cell) (hkb : ∀ C, (compEnvC scope (ncells scope C ++ cl) C env).kindOf b = some .cell) (hkc : ∀ C, (compEnvC scope (ncells scope C ++ cl) C env).kindOf c = some .cell)
    (htup : ∀ i v, its[i]? = some v → ∃ T va vb vc, v = .ref T ∧ s.heap.IsTuple T #[va, vb, vc] ∧ G i va vb vc) :
    CAsgX prog w A env scope cl (.Tuple [.Name a pa, .Name b pb, .Name c pc] kk tp) s I (fun i v => its[i]? = some v) (fun i h => h.IsListIter I l i ∧ h.IsList l its.toArray) (Cells3 G) := by
  intro i v C mc hb' s₁ E hk hP hst F hcl hap
  obtain ⟨T, va, vb, vc, rfl, ht, hG⟩ := htup i v hP
  obtain ⟨oT, eT, rT⟩ := ht
  refine wpAny_letOwnedTupleGo_listiter hst.1 ?_
  have hT1 : s₁.heap.IsTuple T #[va, vb, vc] := ⟨oT, F.keep _ _ (hk _ _ eT), rT⟩
  refine wpAny_assign_Tuple hh hT1 rfl rfl fun h₁ he₁ => ?_
  have up₁ : ∀ c o, s₁.heap.get? c = some o → h₁.get? c = some o := fun c o e => he₁ c o (Nat.ne_of_lt (Heap.lt_size e)) e
  have hf : (compEnvC scope (ncells scope C ++ cl) C env).scope.kind = .function := by simp [compEnvC, relabel, hkind]
  have n12 : @Ne Nat (C + 1) (C + 1 + 1) := by omega
  have n13 : @Ne Nat (C + 1) (C + 1 + 1 + 1) := by omega
  have n23 : @Ne Nat (C + 1 + 1) (C + 1 + 1 + 1) := by omega
  obtain ⟨⟨wa, ha⟩, la⟩ := hcl a _ (hma C)
  obtain ⟨⟨wb, hb⟩, lb⟩ := hcl b _ (hmb C)
  obtain ⟨⟨wc, hc⟩, lc⟩ := hcl c _ (hmc C)
  show wpAny _ _ (assignInOrder [assign (.Name a pa) _, assign (.Name b pb) _, assign (.Name c pc) _] [va, vb, vc]) _ _ _
  refine assignInOrder_cons (wpAny_assign_Name (wpAny_storeName_cell hf (hka C) (hla C) (ha.keeps up₁) (fun h₂ hv₂ hs₂ => ?_)))
  refine assignInOrder_cons (wpAny_assign_Name (wpAny_storeName_cell hf (hkb C) (hlb C) ((hb.keeps up₁).sameBut hs₂ n12.symm) (fun h₃ hv₃ hs₃ => ?_)))
  refine assignInOrder_cons (wpAny_assign_Name (wpAny_storeName_cell hf (hkc C) (hlc C) (((hc.keeps up₁).sameBut hs₂ n13.symm).sameBut hs₃ n23.symm) (fun h₄ hv₄ hs₄ => ?_)))
  refine assignInOrder_nil ?_
  refine ⟨h₄, _, mc, rfl, (((F.ns.at' fun o e => up₁ _ o e).sameBut hs₂ (Nat.ne_of_lt la)).sameBut hs₃ (Nat.ne_of_lt lb)).sameBut hs₄ (Nat.ne_of_lt lc), ⟨va, vb, vc, hG, (hv₂.sameBut hs₃ n12).sameBut hs₄ n13, hv₃.sameBut hs₄ n23, hv₄⟩, fun n q hmem => ?_, fun b' o h1 h2 e => hs₄.extBut b' o (fun q => h2 c (q ▸ hmc C)) (hs₃.extBut b' o (fun q => h2 b (q ▸ hmb C)) (hs₂.extBut b' o (fun q => h2 a (q ▸ hma C)) (up₁ b' o e)))⟩
  obtain ⟨⟨v', hv'⟩, -⟩ := hcl n q hmem
  by_cases q3 : q = C + 1 + 1 + 1
  · exact ⟨_, q3 ▸ hv₄⟩
  by_cases q2 : q = C + 1 + 1
  · exact ⟨_, (q2 ▸ hv₃ : h₃.IsCell q _).sameBut hs₄ q3⟩
  by_cases q1 : q = C + 1
  · exact ⟨_, ((q1 ▸ hv₂ : h₂.IsCell q _).sameBut hs₃ q2).sameBut hs₄ q3⟩
  exact ⟨v', (((hv'.keeps up₁).sameBut hs₂ q1).sameBut hs₃ q2).sameBut hs₄ q3⟩
end
end
end
section
section
variable {w : World} {p : Program} {loose : List Str} {mean : ExcName → Option Value} {mg mb : Str → Option Value} {s : Shared} {dp un : Nat} {fr : Option (List Env)} {gd : Option (List Code)} {E : Value → Shared → Prop}
theorem my_item {prog : Program} {A : Around} {value slice : PySem.Expr} {l : Addr} {vs : List Value} {k : Nat} {t : Tok} {x : Value} {Q : Value → Shared → Prop} (hl : s.heap.IsList l vs.toArray) (hk : vs[k]? = some x) (hz : vs.length ≤ 1000) (h : Q x s)
    (hs : subscripted slice false (.ref l) (.int ((k : Nat) : Int) t) = operate [.ref l, .int ((k : Nat) : Int) t] (getItem (.ref l) (.int ((k : Nat) : Int) t)) := by with_unfolding_all rfl) :
    wpAny (model prog w) A (subscriptTail value slice (.ref l) (.int ((k : Nat) : Int) t)) Q E s := by
  have hlt := (List.getElem?_eq_some_iff.mp hk).1
  exact PyProof.Rows.item_listR hl (by omega) (by omega) (by simpa using hk) h hs
theorem range_facts3 : ∀ H : Fin 71, Builtin.Range.small 0 ((H.val : Nat) : Int) 1 = true ∧ Builtin.Range.rangeSize 0 ((H.val : Nat) : Int) 1 = ((H.val : Nat) : Int) := by decide +kernel
end
end
section
section
variable {w : World} {p : Program} {loose : List Str} {mean : ExcName → Option Value} {mg mb : Str → Option Value} {s : Shared} {dp un : Nat} {fr : Option (List Env)} {gd : Option (List Code)} {E : Value → Shared → Prop}
open PySem.SeqAt
theorem my_index {prog : Program} {A : Around} {l : Addr} {vs : List Value} {x : Value} {Q : Value → Shared → Prop} (e : Value → Bool) (j : Nat) (hl : s.heap.IsList l vs.toArray) (he : ∀ y ∈ vs, EqAt A.in1 s y x (e y)) (hz : vs.length ≤ 1000)
    (hit : ∃ v, vs[j]? = some v ∧ e v = true) (hno : ∀ m v, m < j → vs[m]? = some v → e v = false) (h : Q (.int ((j : Nat) : Int) s.toks) { s with toks := s.toks + 1 }) : wpAny (model prog w) A (call (.builtin "list.index") [.ref l, x]) Q E s := by
  obtain ⟨⟨cls, dd, data, sl⟩, ho, hc, n, hd⟩ := id hl
  simp only at hc hd
  subst hc hd
  obtain ⟨v, hv, hev⟩ := hit
  obtain ⟨hlt, hvv⟩ := List.getElem?_eq_some_iff.mp hv
  refine call_meets PySem.F.slot_list_index ⟨_, ho, rfl⟩ PySem.F.entry_list_index (PySem.F.args_list_index_2 _ _)
    (list_indexAt l vs.toArray n dd sl x e j (by simpa using hlt) (by omega) ?_ ?_) ⟨ho, fun y hy => he y (by simpa using hy), h⟩
  · simpa [hvv] using hev
  · intro m hm hmj
    have hm' : m < vs.length := by simpa using hm
    have := hno m vs[m] hmj (List.getElem?_eq_getElem hm')
    simpa using this
noncomputable def strOf : Value → Str | .str x _ => x | _ => Str.ofString ""
noncomputable def keyOf (h : Heap) : Value → List Str
  | .ref a => (match h.get? a with | some o => (match o.data with | .seq its _ => its.toList.map strOf | _ => []) | none => [])
  | .str x _ => [x]
  | _ => []
theorem idx_first {K : List (List Str)} {k : List Str} : ∀ m kk, m < K.idxOf k → K[m]? = some kk → (kk == k) = false := by
  induction K with
  | nil => intro m kk h e; simp at e
  | cons a r ih =>
    intro m kk h e
    rw [List.idxOf_cons] at h
    cases hak : (a == k) with
    | true => rw [hak] at h; simp at h
    | false =>
      rw [hak] at h
      cases m with
      | zero => simp at e; rw [← e]; exact hak
      | succ m => simp at e; exact ih m kk (by simp at h; omega) e
theorem my_index_key {prog : Program} {A : Around} {l : Addr} {vs : List Value} {x : Value} {Q : Value → Shared → Prop} (K : List (List Str)) (k : List Str) (hl : s.heap.IsList l vs.toArray) (hlen : vs.length = K.length) (hz : vs.length ≤ 1000)
    (hk : ∀ (i : Nat) v kk, vs[i]? = some v → K[i]? = some kk → keyOf s.heap v = kk) (he : ∀ y ∈ vs, EqAt A.in1 s y x (keyOf s.heap y == k)) (hm : k ∈ K)
    (h : Q (.int ((K.idxOf k : Nat) : Int) s.toks) { s with toks := s.toks + 1 }) : wpAny (model prog w) A (call (.builtin "list.index") [.ref l, x]) Q E s := by
  have hj : K.idxOf k < K.length := List.idxOf_lt_length_iff.mpr hm
  refine my_index (fun y => keyOf s.heap y == k) (K.idxOf k) hl he hz ?_ ?_ h
  · have hv : vs[K.idxOf k]? = some (vs[K.idxOf k]'(by omega)) := List.getElem?_eq_getElem _
    refine ⟨_, hv, ?_⟩
    have := hk _ _ _ hv (List.getElem?_eq_getElem hj)
    rw [this]
    simp
  · intro m v hmj hv
    have hmK : m < K.length := by omega
    have := hk m v _ hv (List.getElem?_eq_getElem hmK)
    show (keyOf s.heap v == k) = false
    rw [this]
    exact idx_first m _ hmj (List.getElem?_eq_getElem hmK)
theorem my_index_method {prog : Program} {A : Around} {l : Addr} {its : Array Value} {c : Nat} {pl : Sem Bool} {Q : Value × List Value → Shared → Prop} (ho : s.heap.get? l = some (PySem.W.listOf its c)) (h : Q (.builtin "list.index", [.ref l]) s) : wpAny (model prog w) A (getMethod (.ref l) (Str.ofString "index") pl) Q E s :=
  getMethod_builtin ⟨_, ho, rfl⟩ PySem.F.plainAttrs_list PySem.F.slot_list_index PySem.F.type_list_index (fun a e => by cases e; exact ⟨_, ho, rfl⟩) h
end
end
section
section
variable {w : World} {p : Program} {loose : List Str} {mean : ExcName → Option Value} {mg mb : Str → Option Value} {s : Shared} {dp un : Nat} {fr : Option (List Env)} {gd : Option (List Code)} {E : Value → Shared → Prop}
noncomputable def lawFd (w : World) : Option FuncData := ((hd.heap_39 w.params).lookup 197).bind fun o => match o.data with | .func fd => some fd | _ => none
noncomputable def lawBody (w : World) : List Stmt := match lawFd w with | some fd => (match fd.body with | .stmts b => b | _ => []) | none => []
noncomputable def lawScope (w : World) : Scope := match lawFd w with | some fd => fd.scope | none => default
noncomputable def lawEnv (w : World) (L : Addr) : Env := envOfC (Str.ofString "law") (lawScope w) L 197 (.ref 196)
noncomputable def lawSt (w : World) (k : Nat) : Stmt := (lawBody w).getD k (.Pass default)

def isCellAt (L a : Nat) : Prop := a = L ∨ a = L + 1 ∨ a = L + 1 + 1 ∨ a = L + 1 + 1 + 1 ∨ a = L + 1 + 1 + 1 + 1 ∨ a = L + 1 + 1 + 1 + 1 + 1 ∨ a = L + 1 + 1 + 1 + 1 + 1 + 1 ∨ a = L + 1 + 1 + 1 + 1 + 1 + 1 + 1
noncomputable def veil (L : Addr) (h : Heap) : Heap := (((((((h.hide L).hide (L + 1)).hide (L + 1 + 1)).hide (L + 1 + 1 + 1)).hide (L + 1 + 1 + 1 + 1)).hide (L + 1 + 1 + 1 + 1 + 1)).hide (L + 1 + 1 + 1 + 1 + 1 + 1)).hide (L + 1 + 1 + 1 + 1 + 1 + 1 + 1)
theorem veil_get {L b : Addr} {h : Heap} {o : Obj} (e : h.get? b = some o) (hb : ¬ isCellAt L b) : (veil L h).get? b = some o := by
  unfold isCellAt at hb
  simp only [not_or] at hb
  obtain ⟨h0, h1, h2, h3, h4, h5, h6, h7⟩ := hb
  unfold veil
  rw [Heap.hide_ne _ h7, Heap.hide_ne _ h6, Heap.hide_ne _ h5, Heap.hide_ne _ h4, Heap.hide_ne _ h3, Heap.hide_ne _ h2, Heap.hide_ne _ h1, Heap.hide_ne _ h0]
  exact e
theorem of_veil {L b : Addr} {h : Heap} {o : Obj} (e : (veil L h).get? b = some o) : h.get? b = some o := by
  unfold veil at e
  exact Heap.of_hide (Heap.of_hide (Heap.of_hide (Heap.of_hide (Heap.of_hide (Heap.of_hide (Heap.of_hide (Heap.of_hide e)))))))
theorem hide_none {h : Heap} {a b : Addr} (e : h.get? b = none) : (h.hide a).get? b = none := by
  cases q : (h.hide a).get? b with
  | none => rfl
  | some o => rw [Heap.of_hide q] at e; cases e
theorem veil_none {L b : Addr} {h : Heap} (hb : isCellAt L b) : (veil L h).get? b = none := by
  unfold veil
  rcases hb with rfl | rfl | rfl | rfl | rfl | rfl | rfl | rfl
  · exact (hide_none (hide_none (hide_none (hide_none (hide_none (hide_none (hide_none (Heap.hide_self _ _))))))))
  · exact (hide_none (hide_none (hide_none (hide_none (hide_none (hide_none (Heap.hide_self _ _)))))))
  · exact (hide_none (hide_none (hide_none (hide_none (hide_none (Heap.hide_self _ _))))))
  · exact (hide_none (hide_none (hide_none (hide_none (Heap.hide_self _ _)))))
  · exact (hide_none (hide_none (hide_none (Heap.hide_self _ _))))
  · exact (hide_none (hide_none (Heap.hide_self _ _)))
  · exact (hide_none (Heap.hide_self _ _))
  · exact (Heap.hide_self _ _)
/-- the ledger of the seven cells, the last one first -/
noncomputable def sev (L : Addr) (o1 o2 o3 o4 o5 o6 o7 : Obj) (objs : List (Addr × Obj)) : List (Addr × Obj) :=
  (L + 1 + 1 + 1 + 1 + 1 + 1 + 1, o1) :: (L + 1 + 1 + 1 + 1 + 1 + 1, o2) :: (L + 1 + 1 + 1 + 1 + 1, o3) :: (L + 1 + 1 + 1 + 1, o4) :: (L + 1 + 1 + 1, o5) :: (L + 1 + 1, o6) :: (L + 1, o7) :: objs
theorem sev_app {L : Addr} {o1 o2 o3 o4 o5 o6 o7 : Obj} {objs : List (Addr × Obj)} : sev L o1 o2 o3 o4 o5 o6 o7 objs = sev L o1 o2 o3 o4 o5 o6 o7 [] ++ objs := rfl
structure LS (h₀ g : Heap) (L : Addr) (m : Str → Option Value) (p1 p2 p3 p4 p5 p6 p7 : Option Value) (h : Heap) : Prop where
  F : Fr h₀ L h m
  C : ∃ o1 o2 o3 o4 o5 o6 o7 : Obj, News h₀ L h (sev L o1 o2 o3 o4 o5 o6 o7 []) ∧ o1.data = .cell p1 ∧ o2.data = .cell p2 ∧ o3.data = .cell p3 ∧ o4.data = .cell p4 ∧ o5.data = .cell p5 ∧ o6.data = .cell p6 ∧ o7.data = .cell p7
  base : ∀ b o, h₀.get? b = some o → g.get? b = some o
  up : ∀ b o, g.get? b = some o → h.get? b = some o
  non : ∀ a, isCellAt L a → g.get? a = none
section
variable {h₀ g h : Heap} {L : Addr} {m : Str → Option Value} {p1 p2 p3 p4 p5 p6 p7 : Option Value} {news : List (Addr × Obj)}
theorem LS.op (S : LS h₀ g L m p1 p2 p3 p4 p5 p6 p7 h) : ∃ o1 o2 o3 o4 o5 o6 o7 objs, News h₀ L h (sev L o1 o2 o3 o4 o5 o6 o7 objs) ∧ o1.data = .cell p1 ∧ o2.data = .cell p2 ∧ o3.data = .cell p3 ∧ o4.data = .cell p4 ∧ o5.data = .cell p5 ∧ o6.data = .cell p6 ∧ o7.data = .cell p7 ∧
    (∀ b o, g.get? b = some o → h₀.get? b = some o ∨ (b, o) ∈ objs) ∧ ∀ p ∈ objs, ¬ isCellAt L p.1 := by
  obtain ⟨F, ⟨o1, o2, o3, o4, o5, o6, o7, N, d1, d2, d3, d4, d5, d6, d7⟩, base, up, non⟩ := S
  refine ⟨o1, o2, o3, o4, o5, o6, o7, ((List.range g.objs.size).filter fun b => (h₀.get? b).isNone).filterMap fun b => (g.get? b).map fun o => (b, o), ?_, d1, d2, d3, d4, d5, d6, d7, fun b o e => ?_, fun p hp => ?_⟩
  · intro p hp
    rw [sev_app] at hp
    rcases List.mem_append.mp hp with hp | hp
    · exact N p hp
    · obtain ⟨b, hb, e⟩ := List.mem_filterMap.mp hp
      obtain ⟨hb1, hb2⟩ := List.mem_filter.mp hb
      obtain ⟨o, e1, rfl⟩ := Option.map_eq_some_iff.mp e
      refine ⟨up _ _ e1, fun q => ?_, Option.isNone_iff_eq_none.mp hb2⟩
      have := non L (.inl rfl)
      dsimp only at q
      rw [q, this] at e1; cases e1
  · cases q : h₀.get? b with
    | some o' => exact .inl ((base b o' q).symm.trans e)
    | none =>
      refine .inr (List.mem_filterMap.mpr ⟨b, List.mem_filter.mpr ⟨List.mem_range.mpr (Heap.lt_size e), by rw [q]; rfl⟩, by rw [e]; rfl⟩)
  · obtain ⟨b, hb, e⟩ := List.mem_filterMap.mp hp
    obtain ⟨o, e1, rfl⟩ := Option.map_eq_some_iff.mp e
    intro q
    have := non _ q
    dsimp only at this
    rw [this] at e1; cases e1
theorem LS.cl {o1 o2 o3 o4 o5 o6 o7 : Obj} {objs : List (Addr × Obj)} {h' : Heap} {m' : Str → Option Value} (base : ∀ b o, h₀.get? b = some o → g.get? b = some o) (non : ∀ a, isCellAt L a → g.get? a = none) (ho : ∀ b o, g.get? b = some o → h₀.get? b = some o ∨ (b, o) ∈ objs) (F : Fr h₀ L h' m') (N : News h₀ L h' news) (hs : ∀ p ∈ sev L o1 o2 o3 o4 o5 o6 o7 objs, p ∈ news)
    (d1 : o1.data = .cell p1) (d2 : o2.data = .cell p2) (d3 : o3.data = .cell p3) (d4 : o4.data = .cell p4) (d5 : o5.data = .cell p5) (d6 : o6.data = .cell p6) (d7 : o7.data = .cell p7) :
    LS h₀ (veil L h') L m' p1 p2 p3 p4 p5 p6 p7 h' ∧ (∀ b o, g.get? b = some o → (veil L h').get? b = some o) := by
  have hg : ∀ b o, g.get? b = some o → (veil L h').get? b = some o := fun b o e => by
    refine veil_get ?_ fun q => by rw [non b q] at e; cases e
    rcases ho b o e with q | q
    · exact F.keep _ _ q
    · exact (N _ (hs _ (by rw [sev_app]; exact List.mem_append_right _ q))).1
  refine ⟨⟨F, ⟨o1, o2, o3, o4, o5, o6, o7, fun p hp => N p (hs p ?_), d1, d2, d3, d4, d5, d6, d7⟩, fun b o e => hg b o (base b o e), fun b o e => of_veil e, fun a => veil_none⟩, hg⟩
  rw [sev_app]; exact List.mem_append_left _ hp
end
theorem off_cells {L : Addr} {objs : List (Addr × Obj)} (h : ∀ p ∈ objs, ¬ isCellAt L p.1) : (∀ p ∈ objs, p.1 ≠ L + 1) ∧ (∀ p ∈ objs, p.1 ≠ L + 1 + 1) ∧ (∀ p ∈ objs, p.1 ≠ L + 1 + 1 + 1) ∧ (∀ p ∈ objs, p.1 ≠ L + 1 + 1 + 1 + 1) ∧ (∀ p ∈ objs, p.1 ≠ L + 1 + 1 + 1 + 1 + 1) ∧ (∀ p ∈ objs, p.1 ≠ L + 1 + 1 + 1 + 1 + 1 + 1) ∧ (∀ p ∈ objs, p.1 ≠ L + 1 + 1 + 1 + 1 + 1 + 1 + 1) :=
  ⟨fun p hp e => h p hp (.inr (.inl e)), fun p hp e => h p hp (.inr (.inr (.inl e))), fun p hp e => h p hp (.inr (.inr (.inr (.inl e)))), fun p hp e => h p hp (.inr (.inr (.inr (.inr (.inl e))))), fun p hp e => h p hp (.inr (.inr (.inr (.inr (.inr (.inl e)))))),
   fun p hp e => h p hp (.inr (.inr (.inr (.inr (.inr (.inr (.inl e))))))), fun p hp e => h p hp (.inr (.inr (.inr (.inr (.inr (.inr (.inr e))))))) ⟩
section
variable {h₀ g h1 h' : Heap} {L : Addr} {objs ents : List (Addr × Obj)}
theorem objs_grow {o1 o2 o3 o4 o5 o6 o7 : Obj} {m : Str → Option Value} (F1 : Fr h₀ L h1 m) (N1 : News h₀ L h1 (sev L o1 o2 o3 o4 o5 o6 o7 objs)) (hk : ∀ b o, h1.get? b = some o → h'.get? b = some o)
    (hg : ∀ b o, g.get? b = some o → h₀.get? b = some o ∨ (b, o) ∈ objs) (hob : ∀ p ∈ objs, ¬ isCellAt L p.1) (hen : ∀ p ∈ ents, h'.get? p.1 = some p.2 ∧ h1.get? p.1 = none) :
    ∃ objs2, News h₀ L h' objs2 ∧ (∀ b o, g.get? b = some o → h₀.get? b = some o ∨ (b, o) ∈ objs2) ∧ (∀ p ∈ objs2, ¬ isCellAt L p.1) ∧ ∀ p ∈ ents, p ∈ objs2 := by
  have hL : ∀ a, isCellAt L a → ∃ o, h1.get? a = some o := by
    intro a ha
    obtain ⟨oL, _, _, eL, _⟩ := F1.ns
    rcases ha with rfl | rfl | rfl | rfl | rfl | rfl | rfl | rfl
    · exact ⟨_, eL⟩
    · exact ⟨_, (N1 _ (.tail _ (.tail _ (.tail _ (.tail _ (.tail _ (.tail _ (.head _)))))))).1⟩
    · exact ⟨_, (N1 _ (.tail _ (.tail _ (.tail _ (.tail _ (.tail _ (.head _))))))).1⟩
    · exact ⟨_, (N1 _ (.tail _ (.tail _ (.tail _ (.tail _ (.head _)))))).1⟩
    · exact ⟨_, (N1 _ (.tail _ (.tail _ (.tail _ (.head _))))).1⟩
    · exact ⟨_, (N1 _ (.tail _ (.tail _ (.head _)))).1⟩
    · exact ⟨_, (N1 _ (.tail _ (.head _))).1⟩
    · exact ⟨_, (N1 _ (.head _)).1⟩
  have hne : ∀ p ∈ ents, ¬ isCellAt L p.1 := fun p hp q => by
    obtain ⟨o, e⟩ := hL _ q
    rw [(hen p hp).2] at e; cases e
  have ho : News h₀ L h' objs := fun p hp => by
    have := N1 p (by rw [sev_app]; exact List.mem_append_right _ hp)
    exact ⟨hk _ _ this.1, this.2⟩
  refine ⟨ents ++ objs, fun p hp => ?_, fun b o e => ?_, fun p hp => ?_, fun p hp => List.mem_append_left _ hp⟩
  · rcases List.mem_append.mp hp with hp | hp
    · refine ⟨(hen p hp).1, fun q => hne p hp (.inl q), ?_⟩
      cases q : h₀.get? p.1 with
      | none => rfl
      | some o => have := F1.keep _ _ q; rw [(hen p hp).2] at this; cases this
    · exact ho p hp
  · rcases hg b o e with q | q
    · exact .inl q
    · exact .inr (List.mem_append_right _ q)
  · rcases List.mem_append.mp hp with hp | hp
    · exact hne p hp
    · exact hob p hp
theorem news_swap {h : Heap} {pre objs2 : List (Addr × Obj)} (N : News h₀ L h (pre ++ objs)) (N' : News h₀ L h objs2) : News h₀ L h (pre ++ objs2) := fun p hp => by
  rcases List.mem_append.mp hp with hp | hp
  · exact N p (List.mem_append_left _ hp)
  · exact N' p hp
end
theorem LS.fin {h₀ g : Heap} {L : Addr} {p1 p2 p3 p4 p5 p6 p7 : Option Value} {news : List (Addr × Obj)} {o1 o2 o3 o4 o5 o6 o7 : Obj} {objs : List (Addr × Obj)} {h' : Heap} {m' : Str → Option Value} (base : ∀ b o, h₀.get? b = some o → g.get? b = some o) (non : ∀ a, isCellAt L a → g.get? a = none) (ho : ∀ b o, g.get? b = some o → h₀.get? b = some o ∨ (b, o) ∈ objs) (F : Fr h₀ L h' m') (N : News h₀ L h' news) (hs : ∀ p ∈ sev L o1 o2 o3 o4 o5 o6 o7 objs, p ∈ news)
    (d1 : o1.data = .cell p1) (d2 : o2.data = .cell p2) (d3 : o3.data = .cell p3) (d4 : o4.data = .cell p4) (d5 : o5.data = .cell p5) (d6 : o6.data = .cell p6) (d7 : o7.data = .cell p7) :
    ∃ g', LS h₀ g' L m' p1 p2 p3 p4 p5 p6 p7 h' ∧ (∀ b o, g.get? b = some o → g'.get? b = some o) ∧ (∀ b o, h'.get? b = some o → ¬ isCellAt L b → g'.get? b = some o) ∧ ∀ b o, (b, o) ∈ objs → (∀ p ∈ objs, ¬ isCellAt L p.1) → g'.get? b = some o :=
  ⟨veil L h', (LS.cl base non ho F N hs d1 d2 d3 d4 d5 d6 d7).1, (LS.cl base non ho F N hs d1 d2 d3 d4 d5 d6 d7).2, fun _ _ e q => veil_get e q, fun b o hm hc => veil_get (N (b, o) (hs _ (by rw [sev_app]; exact List.mem_append_right _ hm))).1 (hc _ hm)⟩
/-- after a comprehension whose list is stored in a local -/
theorem LS.local {h₀ g h h' : Heap} {L : Addr} {m m' : Str → Option Value} {p1 p2 p3 p4 p5 p6 p7 : Option Value} (S : LS h₀ g L m p1 p2 p3 p4 p5 p6 p7 h) (hn : h'.Ns L m') (hk : ∀ b o, b ≠ L → h.get? b = some o → h'.get? b = some o) :
    ∃ g', LS h₀ g' L m' p1 p2 p3 p4 p5 p6 p7 h' ∧ (∀ b o, g.get? b = some o → g'.get? b = some o) ∧ ∀ b o, h'.get? b = some o → h.get? b = none → g'.get? b = some o := by
  obtain ⟨F, ⟨o1, o2, o3, o4, o5, o6, o7, N, d1, d2, d3, d4, d5, d6, d7⟩, base, up, non⟩ := S
  have hgL : ∀ b o, g.get? b = some o → ¬ isCellAt L b := fun b o e q => by rw [non b q] at e; cases e
  have hg : ∀ b o, g.get? b = some o → (veil L h').get? b = some o := fun b o e => veil_get (hk b o (fun q => hgL b o e (.inl q)) (up b o e)) (hgL b o e)
  refine ⟨veil L h', ⟨⟨hn, fun b o e => of_veil (hg b o (base b o e)), F.above⟩, ⟨o1, o2, o3, o4, o5, o6, o7, fun p hp => ⟨hk _ _ (N p hp).2.1 (N p hp).1, (N p hp).2⟩, d1, d2, d3, d4, d5, d6, d7⟩, fun b o e => hg b o (base b o e), fun b o e => of_veil e, fun a => veil_none⟩, hg, fun b o e hne => veil_get e fun q => ?_⟩
  obtain ⟨oL, _, _, eL, _⟩ := F.ns
  rcases q with rfl | rfl | rfl | rfl | rfl | rfl | rfl | rfl
  · rw [eL] at hne; cases hne
  · rw [(N _ (.tail _ (.tail _ (.tail _ (.tail _ (.tail _ (.tail _ (.head _)))))))).1] at hne; cases hne
  · rw [(N _ (.tail _ (.tail _ (.tail _ (.tail _ (.tail _ (.head _))))))).1] at hne; cases hne
  · rw [(N _ (.tail _ (.tail _ (.tail _ (.tail _ (.head _)))))).1] at hne; cases hne
  · rw [(N _ (.tail _ (.tail _ (.tail _ (.head _))))).1] at hne; cases hne
  · rw [(N _ (.tail _ (.tail _ (.head _)))).1] at hne; cases hne
  · rw [(N _ (.tail _ (.head _))).1] at hne; cases hne
  · rw [(N _ (.head _)).1] at hne; cases hne
end
end
section
local macro_rules | `(tactic| k_all) => `(tactic| assumption)
section
variable {w : World} {p : Program} {loose : List Str} {mean : ExcName → Option Value} {mg mb : Str → Option Value} {s : Shared} {dp un : Nat} {fr : Option (List Env)} {gd : Option (List Code)} {E : Value → Shared → Prop}
theorem ints_take {vs : List Value} {ns : List Int} (h : IntsAre vs ns) (hn : ns.length ≤ 40) : True := trivial
end
local macro_rules | `(tactic| walk_at "call ref") => `(tactic| (refine stopC ?_))
namespace st_1_c
def Pz (w : World) (p : Program) (loose : List Str) (mean : ExcName → Option Value) (mg : Str → Option Value) (mb : Str → Option Value) (s : Shared) (dp : Nat) (un : Nat) (fr : Option (List Env)) (gd : Option (List Code)) (E : Value → Shared → Prop) (rest : List Stmt) (L : Addr) (l : Addr) (vs : List Value) (ns : List Int) (h₀ : Heap) (g : Heap) (m : Str → Option Value) (Q : Flow → Shared → Prop) : Prop := ∀ (KX : (hd.heap_39 w.params).In h₀) (T : Top p loose mean mg mb h₀) (hroom : dp + 20 < recursionLimit) (hl : h₀.IsList l vs.toArray) (hys : IntsAre vs ns) (hn : ns.length ≤ 63) (S : LS h₀ g L m none none none none none none none s.heap) (hm : m (Str.ofString "script") = some (.ref l)) (next : ∀ (g' h' : Heap) (tk' : Nat) (m' : Str → Option Value) (D : Addr) (cs : List Value) (zs : List Int) (t : Tok), LS h₀ g' L m' none none none none none (some (.int (cs.length : Nat) t)) (some (.ref D)) h' → m' (Str.ofString "script") = some (.ref l) → g'.IsList D (List.toArray cs) → StrsAre cs (zs.map pieceOf) → (∀ z ∈ zs, 0 ≤ z) → zs.length ≤ 6 →
      wpAny (model PR w) ((Ar dp un fr gd).deeper (lawEnv w L)) (execs rest (lawEnv w L)) Q E { s with heap := h', toks := tk' }),
  wpAny (model PR w) ((Ar dp un fr gd).deeper (lawEnv w L)) (execs (lawSt w 0 :: lawSt w 1 :: rest) (lawEnv w L)) Q E s
abbrev Cx : Type := (World) × (Program) × (List Str) × (ExcName → Option Value) × (Str → Option Value) × (Str → Option Value) × (Shared) × (Nat) × (Nat) × (Option (List Env)) × (Option (List Code)) × (Value → Shared → Prop) × (List Stmt) × (Addr) × (Addr) × (List Value) × (List Int) × (Heap) × (Heap) × (Str → Option Value) × (Flow → Shared → Prop)
theorem ne : Nonempty Cx := ⟨(aWorld 0, default, [], (fun _ => none), (fun _ => none), (fun _ => none), ({} : Shared), (0 : Nat), (0 : Nat), none, none, (fun _ _ => True), [], (0 : Nat), (0 : Nat), [], [], ({} : Heap), ({} : Heap), (fun _ => none), (fun _ _ => True))⟩
@[irreducible] noncomputable def bad : Cx := @Classical.epsilon Cx ne fun c => ¬ Pz c.1 c.2.1 c.2.2.1 c.2.2.2.1 c.2.2.2.2.1 c.2.2.2.2.2.1 c.2.2.2.2.2.2.1 c.2.2.2.2.2.2.2.1 c.2.2.2.2.2.2.2.2.1 c.2.2.2.2.2.2.2.2.2.1 c.2.2.2.2.2.2.2.2.2.2.1 c.2.2.2.2.2.2.2.2.2.2.2.1 c.2.2.2.2.2.2.2.2.2.2.2.2.1 c.2.2.2.2.2.2.2.2.2.2.2.2.2.1 c.2.2.2.2.2.2.2.2.2.2.2.2.2.2.1 c.2.2.2.2.2.2.2.2.2.2.2.2.2.2.2.1 c.2.2.2.2.2.2.2.2.2.2.2.2.2.2.2.2.1 c.2.2.2.2.2.2.2.2.2.2.2.2.2.2.2.2.2.1 c.2.2.2.2.2.2.2.2.2.2.2.2.2.2.2.2.2.2.1 c.2.2.2.2.2.2.2.2.2.2.2.2.2.2.2.2.2.2.2.1 c.2.2.2.2.2.2.2.2.2.2.2.2.2.2.2.2.2.2.2.2
theorem fin (h : Pz bad.1 bad.2.1 bad.2.2.1 bad.2.2.2.1 bad.2.2.2.2.1 bad.2.2.2.2.2.1 bad.2.2.2.2.2.2.1 bad.2.2.2.2.2.2.2.1 bad.2.2.2.2.2.2.2.2.1 bad.2.2.2.2.2.2.2.2.2.1 bad.2.2.2.2.2.2.2.2.2.2.1 bad.2.2.2.2.2.2.2.2.2.2.2.1 bad.2.2.2.2.2.2.2.2.2.2.2.2.1 bad.2.2.2.2.2.2.2.2.2.2.2.2.2.1 bad.2.2.2.2.2.2.2.2.2.2.2.2.2.2.1 bad.2.2.2.2.2.2.2.2.2.2.2.2.2.2.2.1 bad.2.2.2.2.2.2.2.2.2.2.2.2.2.2.2.2.1 bad.2.2.2.2.2.2.2.2.2.2.2.2.2.2.2.2.2.1 bad.2.2.2.2.2.2.2.2.2.2.2.2.2.2.2.2.2.2.1 bad.2.2.2.2.2.2.2.2.2.2.2.2.2.2.2.2.2.2.2.1 bad.2.2.2.2.2.2.2.2.2.2.2.2.2.2.2.2.2.2.2.2) (c : Cx) : Pz c.1 c.2.1 c.2.2.1 c.2.2.2.1 c.2.2.2.2.1 c.2.2.2.2.2.1 c.2.2.2.2.2.2.1 c.2.2.2.2.2.2.2.1 c.2.2.2.2.2.2.2.2.1 c.2.2.2.2.2.2.2.2.2.1 c.2.2.2.2.2.2.2.2.2.2.1 c.2.2.2.2.2.2.2.2.2.2.2.1 c.2.2.2.2.2.2.2.2.2.2.2.2.1 c.2.2.2.2.2.2.2.2.2.2.2.2.2.1 c.2.2.2.2.2.2.2.2.2.2.2.2.2.2.1 c.2.2.2.2.2.2.2.2.2.2.2.2.2.2.2.1 c.2.2.2.2.2.2.2.2.2.2.2.2.2.2.2.2.1 c.2.2.2.2.2.2.2.2.2.2.2.2.2.2.2.2.2.1 c.2.2.2.2.2.2.2.2.2.2.2.2.2.2.2.2.2.2.1 c.2.2.2.2.2.2.2.2.2.2.2.2.2.2.2.2.2.2.2.1 c.2.2.2.2.2.2.2.2.2.2.2.2.2.2.2.2.2.2.2.2 := by
  delta bad at h
  exact Classical.byContradiction fun q => (@Classical.epsilon_spec Cx (fun c => ¬ Pz c.1 c.2.1 c.2.2.1 c.2.2.2.1 c.2.2.2.2.1 c.2.2.2.2.2.1 c.2.2.2.2.2.2.1 c.2.2.2.2.2.2.2.1 c.2.2.2.2.2.2.2.2.1 c.2.2.2.2.2.2.2.2.2.1 c.2.2.2.2.2.2.2.2.2.2.1 c.2.2.2.2.2.2.2.2.2.2.2.1 c.2.2.2.2.2.2.2.2.2.2.2.2.1 c.2.2.2.2.2.2.2.2.2.2.2.2.2.1 c.2.2.2.2.2.2.2.2.2.2.2.2.2.2.1 c.2.2.2.2.2.2.2.2.2.2.2.2.2.2.2.1 c.2.2.2.2.2.2.2.2.2.2.2.2.2.2.2.2.1 c.2.2.2.2.2.2.2.2.2.2.2.2.2.2.2.2.2.1 c.2.2.2.2.2.2.2.2.2.2.2.2.2.2.2.2.2.2.1 c.2.2.2.2.2.2.2.2.2.2.2.2.2.2.2.2.2.2.2.1 c.2.2.2.2.2.2.2.2.2.2.2.2.2.2.2.2.2.2.2.2) ⟨c, q⟩) h
noncomputable def w : World := bad.1
noncomputable def p : Program := bad.2.1
noncomputable def loose : List Str := bad.2.2.1
noncomputable def mean : ExcName → Option Value := bad.2.2.2.1
noncomputable def mg : Str → Option Value := bad.2.2.2.2.1
noncomputable def mb : Str → Option Value := bad.2.2.2.2.2.1
noncomputable def s : Shared := bad.2.2.2.2.2.2.1
noncomputable def dp : Nat := bad.2.2.2.2.2.2.2.1
noncomputable def un : Nat := bad.2.2.2.2.2.2.2.2.1
noncomputable def fr : Option (List Env) := bad.2.2.2.2.2.2.2.2.2.1
noncomputable def gd : Option (List Code) := bad.2.2.2.2.2.2.2.2.2.2.1
noncomputable def E : Value → Shared → Prop := bad.2.2.2.2.2.2.2.2.2.2.2.1
noncomputable def rest : List Stmt := bad.2.2.2.2.2.2.2.2.2.2.2.2.1
noncomputable def L : Addr := bad.2.2.2.2.2.2.2.2.2.2.2.2.2.1
noncomputable def l : Addr := bad.2.2.2.2.2.2.2.2.2.2.2.2.2.2.1
noncomputable def vs : List Value := bad.2.2.2.2.2.2.2.2.2.2.2.2.2.2.2.1
noncomputable def ns : List Int := bad.2.2.2.2.2.2.2.2.2.2.2.2.2.2.2.2.1
noncomputable def h₀ : Heap := bad.2.2.2.2.2.2.2.2.2.2.2.2.2.2.2.2.2.1
noncomputable def g : Heap := bad.2.2.2.2.2.2.2.2.2.2.2.2.2.2.2.2.2.2.1
noncomputable def m : Str → Option Value := bad.2.2.2.2.2.2.2.2.2.2.2.2.2.2.2.2.2.2.2.1
noncomputable def Q : Flow → Shared → Prop := bad.2.2.2.2.2.2.2.2.2.2.2.2.2.2.2.2.2.2.2.2
theorem at_ (KX : (hd.heap_39 w.params).In h₀) (T : Top p loose mean mg mb h₀) (hroom : dp + 20 < recursionLimit) (hl : h₀.IsList l vs.toArray) (hys : IntsAre vs ns) (hn : ns.length ≤ 63) (S : LS h₀ g L m none none none none none none none s.heap) (hm : m (Str.ofString "script") = some (.ref l)) (next : ∀ (g' h' : Heap) (tk' : Nat) (m' : Str → Option Value) (D : Addr) (cs : List Value) (zs : List Int) (t : Tok), LS h₀ g' L m' none none none none none (some (.int (cs.length : Nat) t)) (some (.ref D)) h' → m' (Str.ofString "script") = some (.ref l) → g'.IsList D (List.toArray cs) → StrsAre cs (zs.map pieceOf) → (∀ z ∈ zs, 0 ≤ z) → zs.length ≤ 6 →
      wpAny (model PR w) ((Ar dp un fr gd).deeper (lawEnv w L)) (execs rest (lawEnv w L)) Q E { s with heap := h', toks := tk' }) :
  wpAny (model PR w) ((Ar dp un fr gd).deeper (lawEnv w L)) (execs (lawSt w 0 :: lawSt w 1 :: rest) (lawEnv w L)) Q E s := by
  obtain ⟨o1, o2, o3, o4, o5, o6, o7, objs, N, d1, d2, d3, d4, d5, d6, d7, hg, hob⟩ := S.op
  obtain ⟨n1, n2, n3, n4, n5, n6, n7⟩ := off_cells hob
  have F := fr_pin S.F hm
  obtain ⟨base, up, non⟩ := (⟨S.base, S.up, S.non⟩ : _ ∧ _ ∧ _)
  show wpAny _ _ (execs (Stmt.Assign _ _ _ :: Stmt.Assign _ _ _ :: rest) (envOfC _ (Scope.mk _ _ _ _ _) _ _ _)) _ _ _
  unfold sev at N
  clear S
  k_steps
  refine StopC.go ?_
  rename Fr _ _ _ _ => F1
  rename News _ _ _ _ => N1
  rename IntsAre _ (List.take _ _) => hI1
  refine wpAny_mono (pieces_spec (KX.keeps F1.keep) (T.keeps F1.keep) (by walk_at "My room") (News.isList N1 (.head _)) hI1 (by simp only [List.length_take]; omega)) ?_ (fun _ _ e => e)
  rintro v s' ⟨⟨D, cs, n, zs, rfl, hD, hDn, hcs, hz, hzl⟩, h2, tk2, rfl, hk2⟩
  dsimp only at hD hDn
  have F2 := fr_up F1 hk2
  obtain ⟨N2, hne2⟩ := news_new F1 N1 (news_up N1 hk2) hD hDn
  simp only [AllNe] at hne2
  dsimp only
  have hcl := hcs.len_eq
  rw [List.length_map] at hcl
  have hsz9 : (List.toArray cs).size = cs.length := by simp
  clear F1 N1
  k_steps
  rename Fr _ _ _ _ => F4
  rename News _ _ _ _ => N4
  have hD4 := N4.get (.head _)
  obtain ⟨LS4, hgg⟩ := LS.cl base non hg F4 N4 (fun p hp => .tail _ (.tail _ hp)) (by assumption) (by assumption) (by assumption) (by assumption) (by assumption) (by assumption) (by assumption)
  refine next _ _ _ _ D cs zs _ LS4 rfl ⟨_, veil_get hD4 ?_, rfl, _, rfl⟩ hcs hz hzl
  have q9 : @Ne Nat D L := (N4 _ (.head _)).2.1
  walk_at "My nocell"
end st_1_c
theorem st_1 {w : World} {p : Program} {loose : List Str} {mean : ExcName → Option Value} {mg : Str → Option Value} {mb : Str → Option Value} {s : Shared} {dp : Nat} {un : Nat} {fr : Option (List Env)} {gd : Option (List Code)} {E : Value → Shared → Prop} {rest : List Stmt} {L : Addr} {l : Addr} {vs : List Value} {ns : List Int} {h₀ g : Heap} {m : Str → Option Value} {Q : Flow → Shared → Prop} (KX : (hd.heap_39 w.params).In h₀) (T : Top p loose mean mg mb h₀) (hroom : dp + 20 < recursionLimit) (hl : h₀.IsList l vs.toArray) (hys : IntsAre vs ns) (hn : ns.length ≤ 63)
    (S : LS h₀ g L m none none none none none none none s.heap) (hm : m (Str.ofString "script") = some (.ref l))
    (next : ∀ (g' h' : Heap) (tk' : Nat) (m' : Str → Option Value) (D : Addr) (cs : List Value) (zs : List Int) (t : Tok), LS h₀ g' L m' none none none none none (some (.int (cs.length : Nat) t)) (some (.ref D)) h' → m' (Str.ofString "script") = some (.ref l) → g'.IsList D (List.toArray cs) → StrsAre cs (zs.map pieceOf) → (∀ z ∈ zs, 0 ≤ z) → zs.length ≤ 6 →
      wpAny (model PR w) ((Ar dp un fr gd).deeper (lawEnv w L)) (execs rest (lawEnv w L)) Q E { s with heap := h', toks := tk' }) :
    wpAny (model PR w) ((Ar dp un fr gd).deeper (lawEnv w L)) (execs (lawSt w 0 :: lawSt w 1 :: rest) (lawEnv w L)) Q E s :=
  st_1_c.fin st_1_c.at_ (w, p, loose, mean, mg, mb, s, dp, un, fr, gd, E, rest, L, l, vs, ns, h₀, g, m, Q) KX T hroom hl hys hn S hm next
end
section
local macro_rules | `(tactic| k_all) => `(tactic| assumption)
local macro_rules | `(tactic| walk_at "call ref") => `(tactic| (refine stopC ?_))
section
local macro_rules | `(tactic| walk_at "call type:range") => `(tactic| ((with_reducible show wpAny _ _ (call _ [_, _]) _ _ _); k_dflt (refine' range2_rows ?F ?N ?_; walk_at "My fn"; k_whole; intro h' tk' t1 u1 v1 hR' F' N' hK')))
local macro_rules | `(tactic| walk_at "subscriptTail Name Slice ref ref") => `(tactic| (refine stopC ?_))
local macro_rules | `(tactic| walk_at "binaryOp Add ref ref") => `(tactic| k_dflt (refine' my_add (vs := [_]) ?F ?N ?m ?m2 ?x ?_; walk_at "My fn"; (case m => k_mem); (case m2 => k_mem); (case x => (simp only [List.length_cons, List.length_nil]; omega)); k_whole; intro D' h' F' N' l1'; (try k_lt l1'); (try k_sweep)))
namespace st_3_c
def Pz (w : World) (p : Program) (loose : List Str) (mean : ExcName → Option Value) (mg : Str → Option Value) (mb : Str → Option Value) (s : Shared) (dp : Nat) (un : Nat) (fr : Option (List Env)) (gd : Option (List Code)) (E : Value → Shared → Prop) (rest : List Stmt) (L : Addr) (h₀ : Heap) (g : Heap) (m : Str → Option Value) (Q : Flow → Shared → Prop) (P : Addr) (cs : List Value) (ps : List Str) (t : Tok) : Prop := ∀ (KX : (hd.heap_39 w.params).In h₀) (T : Top p loose mean mg mb h₀) (S : LS h₀ g L m none none none none none (some (.int (cs.length : Nat) t)) (some (.ref P)) s.heap) (hP : g.IsList P (List.toArray cs)) (hcs : StrsAre cs ps) (hpl : ps.length ≤ 6) (next : ∀ (g' h' : Heap) (tk' : Nat) (D : Addr) (us : List Value) (Ws : List (List Str)), LS h₀ g' L m none none none none (some (.ref D)) (some (.int (cs.length : Nat) t)) (some (.ref P)) h' → (∀ b o, g.get? b = some o → g'.get? b = some o) → g'.IsList D (List.toArray us) → Paired (WordAt g') us Ws → (∀ W ∈ Ws, IsSl ps W) → Ws.length ≤ 60 →
      wpAny (model PR w) ((Ar dp un fr gd).deeper (lawEnv w L)) (execs rest (lawEnv w L)) Q E { s with heap := h', toks := tk' }),
  wpAny (model PR w) ((Ar dp un fr gd).deeper (lawEnv w L)) (execs (lawSt w 2 :: rest) (lawEnv w L)) Q E s
abbrev Cx : Type := (World) × (Program) × (List Str) × (ExcName → Option Value) × (Str → Option Value) × (Str → Option Value) × (Shared) × (Nat) × (Nat) × (Option (List Env)) × (Option (List Code)) × (Value → Shared → Prop) × (List Stmt) × (Addr) × (Heap) × (Heap) × (Str → Option Value) × (Flow → Shared → Prop) × (Addr) × (List Value) × (List Str) × (Tok)
theorem ne : Nonempty Cx := ⟨(aWorld 0, default, [], (fun _ => none), (fun _ => none), (fun _ => none), ({} : Shared), (0 : Nat), (0 : Nat), none, none, (fun _ _ => True), [], (0 : Nat), ({} : Heap), ({} : Heap), (fun _ => none), (fun _ _ => True), (0 : Nat), [], [], default)⟩
@[irreducible] noncomputable def bad : Cx := @Classical.epsilon Cx ne fun c => ¬ Pz c.1 c.2.1 c.2.2.1 c.2.2.2.1 c.2.2.2.2.1 c.2.2.2.2.2.1 c.2.2.2.2.2.2.1 c.2.2.2.2.2.2.2.1 c.2.2.2.2.2.2.2.2.1 c.2.2.2.2.2.2.2.2.2.1 c.2.2.2.2.2.2.2.2.2.2.1 c.2.2.2.2.2.2.2.2.2.2.2.1 c.2.2.2.2.2.2.2.2.2.2.2.2.1 c.2.2.2.2.2.2.2.2.2.2.2.2.2.1 c.2.2.2.2.2.2.2.2.2.2.2.2.2.2.1 c.2.2.2.2.2.2.2.2.2.2.2.2.2.2.2.1 c.2.2.2.2.2.2.2.2.2.2.2.2.2.2.2.2.1 c.2.2.2.2.2.2.2.2.2.2.2.2.2.2.2.2.2.1 c.2.2.2.2.2.2.2.2.2.2.2.2.2.2.2.2.2.2.1 c.2.2.2.2.2.2.2.2.2.2.2.2.2.2.2.2.2.2.2.1 c.2.2.2.2.2.2.2.2.2.2.2.2.2.2.2.2.2.2.2.2.1 c.2.2.2.2.2.2.2.2.2.2.2.2.2.2.2.2.2.2.2.2.2
theorem fin (h : Pz bad.1 bad.2.1 bad.2.2.1 bad.2.2.2.1 bad.2.2.2.2.1 bad.2.2.2.2.2.1 bad.2.2.2.2.2.2.1 bad.2.2.2.2.2.2.2.1 bad.2.2.2.2.2.2.2.2.1 bad.2.2.2.2.2.2.2.2.2.1 bad.2.2.2.2.2.2.2.2.2.2.1 bad.2.2.2.2.2.2.2.2.2.2.2.1 bad.2.2.2.2.2.2.2.2.2.2.2.2.1 bad.2.2.2.2.2.2.2.2.2.2.2.2.2.1 bad.2.2.2.2.2.2.2.2.2.2.2.2.2.2.1 bad.2.2.2.2.2.2.2.2.2.2.2.2.2.2.2.1 bad.2.2.2.2.2.2.2.2.2.2.2.2.2.2.2.2.1 bad.2.2.2.2.2.2.2.2.2.2.2.2.2.2.2.2.2.1 bad.2.2.2.2.2.2.2.2.2.2.2.2.2.2.2.2.2.2.1 bad.2.2.2.2.2.2.2.2.2.2.2.2.2.2.2.2.2.2.2.1 bad.2.2.2.2.2.2.2.2.2.2.2.2.2.2.2.2.2.2.2.2.1 bad.2.2.2.2.2.2.2.2.2.2.2.2.2.2.2.2.2.2.2.2.2) (c : Cx) : Pz c.1 c.2.1 c.2.2.1 c.2.2.2.1 c.2.2.2.2.1 c.2.2.2.2.2.1 c.2.2.2.2.2.2.1 c.2.2.2.2.2.2.2.1 c.2.2.2.2.2.2.2.2.1 c.2.2.2.2.2.2.2.2.2.1 c.2.2.2.2.2.2.2.2.2.2.1 c.2.2.2.2.2.2.2.2.2.2.2.1 c.2.2.2.2.2.2.2.2.2.2.2.2.1 c.2.2.2.2.2.2.2.2.2.2.2.2.2.1 c.2.2.2.2.2.2.2.2.2.2.2.2.2.2.1 c.2.2.2.2.2.2.2.2.2.2.2.2.2.2.2.1 c.2.2.2.2.2.2.2.2.2.2.2.2.2.2.2.2.1 c.2.2.2.2.2.2.2.2.2.2.2.2.2.2.2.2.2.1 c.2.2.2.2.2.2.2.2.2.2.2.2.2.2.2.2.2.2.1 c.2.2.2.2.2.2.2.2.2.2.2.2.2.2.2.2.2.2.2.1 c.2.2.2.2.2.2.2.2.2.2.2.2.2.2.2.2.2.2.2.2.1 c.2.2.2.2.2.2.2.2.2.2.2.2.2.2.2.2.2.2.2.2.2 := by
  delta bad at h
  exact Classical.byContradiction fun q => (@Classical.epsilon_spec Cx (fun c => ¬ Pz c.1 c.2.1 c.2.2.1 c.2.2.2.1 c.2.2.2.2.1 c.2.2.2.2.2.1 c.2.2.2.2.2.2.1 c.2.2.2.2.2.2.2.1 c.2.2.2.2.2.2.2.2.1 c.2.2.2.2.2.2.2.2.2.1 c.2.2.2.2.2.2.2.2.2.2.1 c.2.2.2.2.2.2.2.2.2.2.2.1 c.2.2.2.2.2.2.2.2.2.2.2.2.1 c.2.2.2.2.2.2.2.2.2.2.2.2.2.1 c.2.2.2.2.2.2.2.2.2.2.2.2.2.2.1 c.2.2.2.2.2.2.2.2.2.2.2.2.2.2.2.1 c.2.2.2.2.2.2.2.2.2.2.2.2.2.2.2.2.1 c.2.2.2.2.2.2.2.2.2.2.2.2.2.2.2.2.2.1 c.2.2.2.2.2.2.2.2.2.2.2.2.2.2.2.2.2.2.1 c.2.2.2.2.2.2.2.2.2.2.2.2.2.2.2.2.2.2.2.1 c.2.2.2.2.2.2.2.2.2.2.2.2.2.2.2.2.2.2.2.2.1 c.2.2.2.2.2.2.2.2.2.2.2.2.2.2.2.2.2.2.2.2.2) ⟨c, q⟩) h
noncomputable def w : World := bad.1
noncomputable def p : Program := bad.2.1
noncomputable def loose : List Str := bad.2.2.1
noncomputable def mean : ExcName → Option Value := bad.2.2.2.1
noncomputable def mg : Str → Option Value := bad.2.2.2.2.1
noncomputable def mb : Str → Option Value := bad.2.2.2.2.2.1
noncomputable def s : Shared := bad.2.2.2.2.2.2.1
noncomputable def dp : Nat := bad.2.2.2.2.2.2.2.1
noncomputable def un : Nat := bad.2.2.2.2.2.2.2.2.1
noncomputable def fr : Option (List Env) := bad.2.2.2.2.2.2.2.2.2.1
noncomputable def gd : Option (List Code) := bad.2.2.2.2.2.2.2.2.2.2.1
noncomputable def E : Value → Shared → Prop := bad.2.2.2.2.2.2.2.2.2.2.2.1
noncomputable def rest : List Stmt := bad.2.2.2.2.2.2.2.2.2.2.2.2.1
noncomputable def L : Addr := bad.2.2.2.2.2.2.2.2.2.2.2.2.2.1
noncomputable def h₀ : Heap := bad.2.2.2.2.2.2.2.2.2.2.2.2.2.2.1
noncomputable def g : Heap := bad.2.2.2.2.2.2.2.2.2.2.2.2.2.2.2.1
noncomputable def m : Str → Option Value := bad.2.2.2.2.2.2.2.2.2.2.2.2.2.2.2.2.1
noncomputable def Q : Flow → Shared → Prop := bad.2.2.2.2.2.2.2.2.2.2.2.2.2.2.2.2.2.1
noncomputable def P : Addr := bad.2.2.2.2.2.2.2.2.2.2.2.2.2.2.2.2.2.2.1
noncomputable def cs : List Value := bad.2.2.2.2.2.2.2.2.2.2.2.2.2.2.2.2.2.2.2.1
noncomputable def ps : List Str := bad.2.2.2.2.2.2.2.2.2.2.2.2.2.2.2.2.2.2.2.2.1
noncomputable def t : Tok := bad.2.2.2.2.2.2.2.2.2.2.2.2.2.2.2.2.2.2.2.2.2
theorem at_ (KX : (hd.heap_39 w.params).In h₀) (T : Top p loose mean mg mb h₀) (S : LS h₀ g L m none none none none none (some (.int (cs.length : Nat) t)) (some (.ref P)) s.heap) (hP : g.IsList P (List.toArray cs)) (hcs : StrsAre cs ps) (hpl : ps.length ≤ 6) (next : ∀ (g' h' : Heap) (tk' : Nat) (D : Addr) (us : List Value) (Ws : List (List Str)), LS h₀ g' L m none none none none (some (.ref D)) (some (.int (cs.length : Nat) t)) (some (.ref P)) h' → (∀ b o, g.get? b = some o → g'.get? b = some o) → g'.IsList D (List.toArray us) → Paired (WordAt g') us Ws → (∀ W ∈ Ws, IsSl ps W) → Ws.length ≤ 60 →
      wpAny (model PR w) ((Ar dp un fr gd).deeper (lawEnv w L)) (execs rest (lawEnv w L)) Q E { s with heap := h', toks := tk' }) :
  wpAny (model PR w) ((Ar dp un fr gd).deeper (lawEnv w L)) (execs (lawSt w 2 :: rest) (lawEnv w L)) Q E s := by
  obtain ⟨o1, o2, o3, o4, o5, o6, o7, objs, N, d1, d2, d3, d4, d5, d6, d7, hg, hob⟩ := S.op
  obtain ⟨n1, n2, n3, n4, n5, n6, n7⟩ := off_cells hob
  have F := S.F
  have base := S.base
  have non := S.non
  show wpAny _ _ (execs (Stmt.Assign _ _ _ :: rest) (envOfC _ (Scope.mk _ _ _ _ _) _ _ _)) _ _ _
  unfold sev at N
  have hcl := hcs.len_eq
  generalize hln : cs.length = n at *
  k_steps
  refine StopC.go ?_
  dsimp only
  rename Fr _ _ _ _ => F1
  rename News _ _ _ _ => N1
  clear S
  have hPN : ∀ hb : Heap, (∀ b o, h₀.get? b = some o → hb.get? b = some o) → (∀ p ∈ objs, hb.get? p.1 = some p.2) → hb.IsList P (List.toArray cs) := fun hb k1 k2 => hP.at fun o e => by
    rcases hg _ _ e with q | q
    · exact k1 _ _ q
    · exact k2 _ q
  have hN1o : ∀ p ∈ objs, _ := fun p hp => (N1 p (.tail _ (.tail _ (by rw [← sev]; rw [sev_app]; exact List.mem_append_right _ hp)))).1
  refine comp2 (a := 0) (b := (n : Int)) (n := n) (M := 8) (fun o => ∃ us W c, o = PySem.W.listOf (List.toArray us) c ∧ StrsAre us W ∧ IsSl ps W) (fun k => ((k : Nat) : Int) + 1) ((n : Int) + 1) (fun k => n - k) rfl rfl (by decide) rfl (by decide) rfl rfl (by decide) (range_small (by omega)) (range_size (by omega)) (by omega) ?_ ?_ ?_ ?_ ?_
  · refine wpAny_mono (Q := RangeGot _ _ _) ?_ (fun _ _ h => h) (fun _ _ e => e)
    k_steps
    exact ⟨_, _, _, _, rfl, ⟨_, _, rfl, by assumption⟩, by assumption⟩
  · intro k hk
    have := range_facts2 ⟨n, by omega⟩ ⟨k, by omega⟩ hk
    exact ⟨this.1, this.2, by omega⟩
  · rintro k hk C mc hb trk s₂ hkk ⟨t', hx⟩ F N
    have KX' := (KX.keeps F1.keep).keeps hkk
    have T' := (T.keeps F1.keep).keeps hkk
    have hc6 := hkk _ _ (N1.get (.tail _ (.tail _ (.tail _ (.tail _ (.tail _ (.tail _ (.tail _ (.head _)))))))))
    rw [Int.zero_add] at hx
    have F3 := fr_pin F hx
    clear F F1 N1 KX T
    k_steps
    rename Fr _ _ _ _ => F4
    rename News _ _ _ _ => N4
    exact ⟨_, _, _, _, _, _, _, rfl, rfl, F4, ⟨t', by rw [Int.zero_add]; rfl⟩, N4, by assumption⟩
  · rintro k hk j hj hb hkk C mc trk s₂ ⟨t1, hx⟩ ⟨t2, hy⟩ F N
    have KX' := (KX.keeps F1.keep).keeps hkk
    have T' := (T.keeps F1.keep).keeps hkk
    have hc7 := hkk _ _ (N1.get (.tail _ (.tail _ (.tail _ (.tail _ (.tail _ (.tail _ (.tail _ (.tail _ (.head _))))))))))
    have hl := hPN hb (fun b o e => hkk _ _ (F1.keep _ _ e)) (fun p hp => hkk _ _ (hN1o p hp))
    rw [Int.zero_add] at hx
    rw [show ((k : Nat) : Int) + 1 + (j : Int) = ((k + 1 + j : Nat) : Int) from by omega] at hy
    have F3 := fr_pin (fr_pin F hx) (x := Str.ofString "j") (by with_unfolding_all exact hy)
    clear F F1 N1 KX T
    k_steps
    refine StopC.go ?_
    rename Fr _ _ _ _ => F4
    rename News _ _ _ _ => N4
    refine my_slice_strs (a := k) (b := k + 1 + j) F4 N4 (hl.at fun o e => F4.keep _ o e) hcs (by kmk_part) (by kmk_part) (by omega) ?_ (by with_unfolding_all rfl) (by kmk_pure)
    intro D us h' F5 N5 l5 hus
    exact ⟨h', _, _, rfl, F5, ⟨t1, by rw [Int.zero_add]; rfl⟩, D, _, rfl, fun p hp => N5 p (by first | exact hp | exact List.mem_cons_of_mem _ hp), (fun p hp => Nat.ne_of_lt (l5 p (by first | exact hp | exact List.mem_cons_of_mem _ hp))), us, _, _, rfl, hus, _, _, rfl⟩
  · intro D h' tk' ys ents c hyl hye hen hD hDs hkp
    have F2 := fr_up F1 hkp
    have N2 := news_new F1 N1 (news_up N1 hkp) hD hDs
    obtain ⟨N2, hne2⟩ := N2
    simp only [AllNe] at hne2
    obtain ⟨objs2, hN2o, hg2, hob2, hsub⟩ := objs_grow F1 (fun p hp => N1 p (.tail _ (.tail _ hp))) hkp hg hob (fun p hp => ⟨(hen p hp).1, (hen p hp).2.1⟩)
    have N3 := news_swap (pre := [_, _, _, _, _, _, _, _, _, _]) N2 hN2o
    simp only [List.cons_append, List.nil_append] at N3
    obtain ⟨n1, n2, n3, n4, n5, n6, n7⟩ := off_cells hob2
    clear F1 N1 N2 hg hob hPN hN1o
    k_steps
    rename Fr _ _ _ _ => F4
    rename News _ _ _ _ => N4
    obtain ⟨g6, LS4, hgg, hin, hino⟩ := LS.fin base non hg2 F4 N4 (fun p hp => .tail _ (.tail _ (.tail _ (.tail _ hp)))) (by assumption) (by assumption) (by assumption) (by assumption) (by assumption) (by assumption) (by assumption)
    rename_i e0 _ _ eL _ _ D2 _ _ h6 _ _
    have hD4 := N4.get (.head _)
    have he0 := N4.get (.tail _ (.tail _ (.tail _ (.head _))))
    have q1 : @Ne Nat D2 L := (N4 _ (.head _)).2.1
    have q2 : @Ne Nat e0 L := (N4 _ (.tail _ (.tail _ (.tail _ (.head _))))).2.1
    obtain ⟨Ws, hWs, hsl⟩ := paired_ex (F := WordAt (g6)) (G := IsSl ps) (l₁ := ys) fun y hy => by
      obtain ⟨a, o, rfl, hao, us, W, c', rfl, hus, hsl⟩ := hye y hy
      exact ⟨W, ⟨a, us, rfl, ⟨_, hino _ _ (hsub _ hao) hob2, rfl, _, rfl⟩, hus⟩, hsl⟩
    refine next _ _ _ D2 ([.ref e0] ++ ys) ([] :: Ws) LS4 hgg ⟨_, hin _ _ hD4 (by walk_at "My nocell"), rfl, _, rfl⟩ (.cons ⟨e0, [], rfl, ⟨_, hin _ _ he0 (by walk_at "My nocell"), rfl, _, rfl⟩, .nil⟩ hWs) ?_ ?_
    · intro W hW
      rcases List.mem_cons.mp hW with rfl | hW
      · exact ⟨0, 0, by simp⟩
      · exact hsl W hW
    · have := hWs.length
      rw [List.length_cons]; omega
end st_3_c
theorem st_3 {w : World} {p : Program} {loose : List Str} {mean : ExcName → Option Value} {mg : Str → Option Value} {mb : Str → Option Value} {s : Shared} {dp : Nat} {un : Nat} {fr : Option (List Env)} {gd : Option (List Code)} {E : Value → Shared → Prop} {rest : List Stmt} {L : Addr} {h₀ g : Heap} {m : Str → Option Value} {Q : Flow → Shared → Prop} {P : Addr} {cs : List Value} {ps : List Str} {t : Tok} (KX : (hd.heap_39 w.params).In h₀) (T : Top p loose mean mg mb h₀)
    (S : LS h₀ g L m none none none none none (some (.int (cs.length : Nat) t)) (some (.ref P)) s.heap) (hP : g.IsList P (List.toArray cs)) (hcs : StrsAre cs ps) (hpl : ps.length ≤ 6)
    (next : ∀ (g' h' : Heap) (tk' : Nat) (D : Addr) (us : List Value) (Ws : List (List Str)), LS h₀ g' L m none none none none (some (.ref D)) (some (.int (cs.length : Nat) t)) (some (.ref P)) h' → (∀ b o, g.get? b = some o → g'.get? b = some o) → g'.IsList D (List.toArray us) → Paired (WordAt g') us Ws → (∀ W ∈ Ws, IsSl ps W) → Ws.length ≤ 60 →
      wpAny (model PR w) ((Ar dp un fr gd).deeper (lawEnv w L)) (execs rest (lawEnv w L)) Q E { s with heap := h', toks := tk' }) :
    wpAny (model PR w) ((Ar dp un fr gd).deeper (lawEnv w L)) (execs (lawSt w 2 :: rest) (lawEnv w L)) Q E s :=
  st_3_c.fin st_3_c.at_ (w, p, loose, mean, mg, mb, s, dp, un, fr, gd, E, rest, L, h₀, g, m, Q, P, cs, ps, t) KX T S hP hcs hpl next
end
section
section
variable {w : World} {p : Program} {loose : List Str} {mean : ExcName → Option Value} {mg mb : Str → Option Value} {s : Shared} {dp un : Nat} {fr : Option (List Env)} {gd : Option (List Code)} {E : Value → Shared → Prop}
noncomputable abbrev formObj (W : List Str) (t1 t2 : Tok) : Obj := { cls := .type "tuple", data := .seq [Value.bool (formF W).1, .int (-(formF W).2.2) t1, .int ((formF W).2.1 - (formF W).2.2) t2].toArray }
def FormAt (g : Heap) (v : Value) (W : List Str) : Prop := ∃ D t1 t2, v = .ref D ∧ g.get? D = some (formObj W t1 t2)
theorem FormAt.up {g g' : Heap} {v : Value} {W : List Str} (x : FormAt g v W) (h : ∀ b o, g.get? b = some o → g'.get? b = some o) : FormAt g' v W := by
  obtain ⟨a, t1, t2, rfl, e⟩ := x
  exact ⟨a, t1, t2, rfl, h _ _ e⟩
end
namespace st_4_c
def Pz (w : World) (p : Program) (loose : List Str) (mean : ExcName → Option Value) (mg : Str → Option Value) (mb : Str → Option Value) (s : Shared) (dp : Nat) (un : Nat) (fr : Option (List Env)) (gd : Option (List Code)) (E : Value → Shared → Prop) (rest : List Stmt) (L : Addr) (h₀ : Heap) (g : Heap) (m : Str → Option Value) (Q : Flow → Shared → Prop) (Wd : Addr) (us : List Value) (Ws : List (List Str)) (q6 : Option Value) (q7 : Option Value) : Prop := ∀ (KX : (hd.heap_39 w.params).In h₀) (T : Top p loose mean mg mb h₀) (hroom : dp + 20 < recursionLimit) (S : LS h₀ g L m none none none none (some (.ref Wd)) q6 q7 s.heap) (hW : g.IsList Wd (List.toArray us)) (hus : Paired (WordAt g) us Ws) (hb : ∀ W ∈ Ws, W.length ≤ 6 ∧ ∀ y ∈ W, y.length ≤ 17) (hl : Ws.length ≤ 60) (next : ∀ (g' h' : Heap) (tk' : Nat) (D : Addr) (fs : List Value), LS h₀ g' L m none none none (some (.ref D)) (some (.ref Wd)) q6 q7 h' → (∀ b o, g.get? b = some o → g'.get? b = some o) → g'.IsList D (List.toArray fs) → Paired (FormAt g') fs Ws →
      wpAny (model PR w) ((Ar dp un fr gd).deeper (lawEnv w L)) (execs rest (lawEnv w L)) Q E { s with heap := h', toks := tk' }),
  wpAny (model PR w) ((Ar dp un fr gd).deeper (lawEnv w L)) (execs (lawSt w 3 :: rest) (lawEnv w L)) Q E s
abbrev Cx : Type := (World) × (Program) × (List Str) × (ExcName → Option Value) × (Str → Option Value) × (Str → Option Value) × (Shared) × (Nat) × (Nat) × (Option (List Env)) × (Option (List Code)) × (Value → Shared → Prop) × (List Stmt) × (Addr) × (Heap) × (Heap) × (Str → Option Value) × (Flow → Shared → Prop) × (Addr) × (List Value) × (List (List Str)) × (Option Value) × (Option Value)
theorem ne : Nonempty Cx := ⟨(aWorld 0, default, [], (fun _ => none), (fun _ => none), (fun _ => none), ({} : Shared), (0 : Nat), (0 : Nat), none, none, (fun _ _ => True), [], (0 : Nat), ({} : Heap), ({} : Heap), (fun _ => none), (fun _ _ => True), (0 : Nat), [], [], none, none)⟩
@[irreducible] noncomputable def bad : Cx := @Classical.epsilon Cx ne fun c => ¬ Pz c.1 c.2.1 c.2.2.1 c.2.2.2.1 c.2.2.2.2.1 c.2.2.2.2.2.1 c.2.2.2.2.2.2.1 c.2.2.2.2.2.2.2.1 c.2.2.2.2.2.2.2.2.1 c.2.2.2.2.2.2.2.2.2.1 c.2.2.2.2.2.2.2.2.2.2.1 c.2.2.2.2.2.2.2.2.2.2.2.1 c.2.2.2.2.2.2.2.2.2.2.2.2.1 c.2.2.2.2.2.2.2.2.2.2.2.2.2.1 c.2.2.2.2.2.2.2.2.2.2.2.2.2.2.1 c.2.2.2.2.2.2.2.2.2.2.2.2.2.2.2.1 c.2.2.2.2.2.2.2.2.2.2.2.2.2.2.2.2.1 c.2.2.2.2.2.2.2.2.2.2.2.2.2.2.2.2.2.1 c.2.2.2.2.2.2.2.2.2.2.2.2.2.2.2.2.2.2.1 c.2.2.2.2.2.2.2.2.2.2.2.2.2.2.2.2.2.2.2.1 c.2.2.2.2.2.2.2.2.2.2.2.2.2.2.2.2.2.2.2.2.1 c.2.2.2.2.2.2.2.2.2.2.2.2.2.2.2.2.2.2.2.2.2.1 c.2.2.2.2.2.2.2.2.2.2.2.2.2.2.2.2.2.2.2.2.2.2
theorem fin (h : Pz bad.1 bad.2.1 bad.2.2.1 bad.2.2.2.1 bad.2.2.2.2.1 bad.2.2.2.2.2.1 bad.2.2.2.2.2.2.1 bad.2.2.2.2.2.2.2.1 bad.2.2.2.2.2.2.2.2.1 bad.2.2.2.2.2.2.2.2.2.1 bad.2.2.2.2.2.2.2.2.2.2.1 bad.2.2.2.2.2.2.2.2.2.2.2.1 bad.2.2.2.2.2.2.2.2.2.2.2.2.1 bad.2.2.2.2.2.2.2.2.2.2.2.2.2.1 bad.2.2.2.2.2.2.2.2.2.2.2.2.2.2.1 bad.2.2.2.2.2.2.2.2.2.2.2.2.2.2.2.1 bad.2.2.2.2.2.2.2.2.2.2.2.2.2.2.2.2.1 bad.2.2.2.2.2.2.2.2.2.2.2.2.2.2.2.2.2.1 bad.2.2.2.2.2.2.2.2.2.2.2.2.2.2.2.2.2.2.1 bad.2.2.2.2.2.2.2.2.2.2.2.2.2.2.2.2.2.2.2.1 bad.2.2.2.2.2.2.2.2.2.2.2.2.2.2.2.2.2.2.2.2.1 bad.2.2.2.2.2.2.2.2.2.2.2.2.2.2.2.2.2.2.2.2.2.1 bad.2.2.2.2.2.2.2.2.2.2.2.2.2.2.2.2.2.2.2.2.2.2) (c : Cx) : Pz c.1 c.2.1 c.2.2.1 c.2.2.2.1 c.2.2.2.2.1 c.2.2.2.2.2.1 c.2.2.2.2.2.2.1 c.2.2.2.2.2.2.2.1 c.2.2.2.2.2.2.2.2.1 c.2.2.2.2.2.2.2.2.2.1 c.2.2.2.2.2.2.2.2.2.2.1 c.2.2.2.2.2.2.2.2.2.2.2.1 c.2.2.2.2.2.2.2.2.2.2.2.2.1 c.2.2.2.2.2.2.2.2.2.2.2.2.2.1 c.2.2.2.2.2.2.2.2.2.2.2.2.2.2.1 c.2.2.2.2.2.2.2.2.2.2.2.2.2.2.2.1 c.2.2.2.2.2.2.2.2.2.2.2.2.2.2.2.2.1 c.2.2.2.2.2.2.2.2.2.2.2.2.2.2.2.2.2.1 c.2.2.2.2.2.2.2.2.2.2.2.2.2.2.2.2.2.2.1 c.2.2.2.2.2.2.2.2.2.2.2.2.2.2.2.2.2.2.2.1 c.2.2.2.2.2.2.2.2.2.2.2.2.2.2.2.2.2.2.2.2.1 c.2.2.2.2.2.2.2.2.2.2.2.2.2.2.2.2.2.2.2.2.2.1 c.2.2.2.2.2.2.2.2.2.2.2.2.2.2.2.2.2.2.2.2.2.2 := by
  delta bad at h
  exact Classical.byContradiction fun q => (@Classical.epsilon_spec Cx (fun c => ¬ Pz c.1 c.2.1 c.2.2.1 c.2.2.2.1 c.2.2.2.2.1 c.2.2.2.2.2.1 c.2.2.2.2.2.2.1 c.2.2.2.2.2.2.2.1 c.2.2.2.2.2.2.2.2.1 c.2.2.2.2.2.2.2.2.2.1 c.2.2.2.2.2.2.2.2.2.2.1 c.2.2.2.2.2.2.2.2.2.2.2.1 c.2.2.2.2.2.2.2.2.2.2.2.2.1 c.2.2.2.2.2.2.2.2.2.2.2.2.2.1 c.2.2.2.2.2.2.2.2.2.2.2.2.2.2.1 c.2.2.2.2.2.2.2.2.2.2.2.2.2.2.2.1 c.2.2.2.2.2.2.2.2.2.2.2.2.2.2.2.2.1 c.2.2.2.2.2.2.2.2.2.2.2.2.2.2.2.2.2.1 c.2.2.2.2.2.2.2.2.2.2.2.2.2.2.2.2.2.2.1 c.2.2.2.2.2.2.2.2.2.2.2.2.2.2.2.2.2.2.2.1 c.2.2.2.2.2.2.2.2.2.2.2.2.2.2.2.2.2.2.2.2.1 c.2.2.2.2.2.2.2.2.2.2.2.2.2.2.2.2.2.2.2.2.2.1 c.2.2.2.2.2.2.2.2.2.2.2.2.2.2.2.2.2.2.2.2.2.2) ⟨c, q⟩) h
noncomputable def w : World := bad.1
noncomputable def p : Program := bad.2.1
noncomputable def loose : List Str := bad.2.2.1
noncomputable def mean : ExcName → Option Value := bad.2.2.2.1
noncomputable def mg : Str → Option Value := bad.2.2.2.2.1
noncomputable def mb : Str → Option Value := bad.2.2.2.2.2.1
noncomputable def s : Shared := bad.2.2.2.2.2.2.1
noncomputable def dp : Nat := bad.2.2.2.2.2.2.2.1
noncomputable def un : Nat := bad.2.2.2.2.2.2.2.2.1
noncomputable def fr : Option (List Env) := bad.2.2.2.2.2.2.2.2.2.1
noncomputable def gd : Option (List Code) := bad.2.2.2.2.2.2.2.2.2.2.1
noncomputable def E : Value → Shared → Prop := bad.2.2.2.2.2.2.2.2.2.2.2.1
noncomputable def rest : List Stmt := bad.2.2.2.2.2.2.2.2.2.2.2.2.1
noncomputable def L : Addr := bad.2.2.2.2.2.2.2.2.2.2.2.2.2.1
noncomputable def h₀ : Heap := bad.2.2.2.2.2.2.2.2.2.2.2.2.2.2.1
noncomputable def g : Heap := bad.2.2.2.2.2.2.2.2.2.2.2.2.2.2.2.1
noncomputable def m : Str → Option Value := bad.2.2.2.2.2.2.2.2.2.2.2.2.2.2.2.2.1
noncomputable def Q : Flow → Shared → Prop := bad.2.2.2.2.2.2.2.2.2.2.2.2.2.2.2.2.2.1
noncomputable def Wd : Addr := bad.2.2.2.2.2.2.2.2.2.2.2.2.2.2.2.2.2.2.1
noncomputable def us : List Value := bad.2.2.2.2.2.2.2.2.2.2.2.2.2.2.2.2.2.2.2.1
noncomputable def Ws : List (List Str) := bad.2.2.2.2.2.2.2.2.2.2.2.2.2.2.2.2.2.2.2.2.1
noncomputable def q6 : Option Value := bad.2.2.2.2.2.2.2.2.2.2.2.2.2.2.2.2.2.2.2.2.2.1
noncomputable def q7 : Option Value := bad.2.2.2.2.2.2.2.2.2.2.2.2.2.2.2.2.2.2.2.2.2.2
theorem at_ (KX : (hd.heap_39 w.params).In h₀) (T : Top p loose mean mg mb h₀) (hroom : dp + 20 < recursionLimit) (S : LS h₀ g L m none none none none (some (.ref Wd)) q6 q7 s.heap) (hW : g.IsList Wd (List.toArray us)) (hus : Paired (WordAt g) us Ws) (hb : ∀ W ∈ Ws, W.length ≤ 6 ∧ ∀ y ∈ W, y.length ≤ 17) (hl : Ws.length ≤ 60) (next : ∀ (g' h' : Heap) (tk' : Nat) (D : Addr) (fs : List Value), LS h₀ g' L m none none none (some (.ref D)) (some (.ref Wd)) q6 q7 h' → (∀ b o, g.get? b = some o → g'.get? b = some o) → g'.IsList D (List.toArray fs) → Paired (FormAt g') fs Ws →
      wpAny (model PR w) ((Ar dp un fr gd).deeper (lawEnv w L)) (execs rest (lawEnv w L)) Q E { s with heap := h', toks := tk' }) :
  wpAny (model PR w) ((Ar dp un fr gd).deeper (lawEnv w L)) (execs (lawSt w 3 :: rest) (lawEnv w L)) Q E s := by
  obtain ⟨o1, o2, o3, o4, o5, o6, o7, objs, N, d1, d2, d3, d4, d5, d6, d7, hg, hob⟩ := S.op
  obtain ⟨n1, n2, n3, n4, n5, n6, n7⟩ := off_cells hob
  have F := S.F
  have base := S.base
  have non := S.non
  have up := S.up
  show wpAny _ _ (execs (Stmt.Assign _ _ _ :: rest) (envOfC _ (Scope.mk _ _ _ _ _) _ _ _)) _ _ _
  unfold sev at N
  clear S
  have hul := hus.length
  k_steps
  refine StopC.go ?_
  refine comp_listN (l := Wd) (its := us) (fun _ _ => False) (fun i o => ∃ W t1 t2, Ws[i]? = some W ∧ o = formObj W t1 t2) rfl rfl (by decide) rfl (by decide) rfl (by omega) ?_ ?_ ?_
  · refine wpAny_mono (Q := ListGot _ _ _) ?_ (fun _ _ h => h) (fun _ _ e => e)
    k_steps
    exact ⟨rfl, ⟨_, _, rfl, fun _ _ e => e⟩, hW.at fun o e => up _ _ e⟩
  · rintro i C mc hb' trk s₂ hkk ⟨v, hv, hx⟩ F5 N5
    have KX' := (KX.keeps F.keep).keeps hkk
    have T' := (T.keeps F.keep).keeps hkk
    obtain ⟨W, hWi, a, vs, rfl, ha, hvs⟩ := paired_get hus i v hv
    have ha2 : hb'.IsList a (List.toArray vs) := (ha.at fun o e => up _ _ e).at fun o e => hkk _ _ e
    have hbW := hb W (List.mem_of_getElem? hWi)
    have F3 := fr_pin F5 hx
    clear F F5 N KX T
    k_steps
    refine StopC.go ?_
    rename Fr _ _ _ _ => F4
    rename News _ _ _ _ => N4
    refine wpAny_mono (form_spec (KX'.keeps F4.keep) (T'.keeps F4.keep) (by walk_at "My room") (ha2.at fun o e => F4.keep _ o e) hvs (fun y hy => Nat.le_trans (hbW.2 y hy) (by decide)) (by omega)) ?_ (fun _ _ e => e)
    rintro v s' ⟨⟨D, t1, t2, rfl, hD, hDn⟩, h2, tk2, rfl, hk2⟩
    dsimp only at hD hDn hk2
    obtain ⟨N6, hne6⟩ := news_new F4 N4 (news_up N4 hk2) hD hDn
    exact elend_o (fr_up F4 hk2) N6 (fun p hp => by first | exact hp | exact .tail _ hp) (fun p hp => by
      have e := (N4 p (by first | exact hp | exact .tail _ hp)).1
      intro q
      rw [q, hDn] at e; cases e) ⟨W, t1, t2, hWi, rfl⟩
  · intro D h' tk' ys ents c hyl hye hen hD hDs hkp
    have F2 := fr_up F hkp
    have N2 := news_new F N (news_up N hkp) hD hDs
    obtain ⟨N2, hne2⟩ := N2
    simp only [AllNe] at hne2
    obtain ⟨objs2, hN2o, hg2, hob2, hsub⟩ := objs_grow F N hkp hg hob (fun p hp => ⟨(hen p hp).1, (hen p hp).2.1⟩)
    have N3 := news_swap (pre := [_, _, _, _, _, _, _, _]) N2 hN2o
    simp only [List.cons_append, List.nil_append] at N3
    obtain ⟨n1, n2, n3, n4, n5, n6, n7⟩ := off_cells hob2
    clear F N N2 hg hob
    k_steps
    rename Fr _ _ _ _ => F4
    rename News _ _ _ _ => N4
    obtain ⟨g6, LS4, hgg, hin, hino⟩ := LS.fin base non hg2 F4 N4 (fun p hp => .tail _ hp) (by assumption) (by assumption) (by assumption) (by assumption) (by assumption) (by assumption) (by assumption)
    have hD4 := N4.get (.head _)
    have q1 : @Ne Nat D L := (N4 _ (.head _)).2.1
    refine next g6 _ _ D ys LS4 hgg ⟨_, hin _ _ hD4 (by walk_at "My nocell"), rfl, _, rfl⟩ (paired_of (by omega) fun i y W e1 e2 => ?_)
    rcases hye i y e1 with q | ⟨a, o, rfl, hao, W', t1, t2, e3, rfl⟩
    · exact q.elim
    · rw [e2] at e3
      cases e3
      exact ⟨a, t1, t2, rfl, hino _ _ (hsub _ hao) hob2⟩
end st_4_c
theorem st_4 {w : World} {p : Program} {loose : List Str} {mean : ExcName → Option Value} {mg : Str → Option Value} {mb : Str → Option Value} {s : Shared} {dp : Nat} {un : Nat} {fr : Option (List Env)} {gd : Option (List Code)} {E : Value → Shared → Prop} {rest : List Stmt} {L : Addr} {h₀ g : Heap} {m : Str → Option Value} {Q : Flow → Shared → Prop} {Wd : Addr} {us : List Value} {Ws : List (List Str)} {q6 q7 : Option Value} (KX : (hd.heap_39 w.params).In h₀) (T : Top p loose mean mg mb h₀) (hroom : dp + 20 < recursionLimit)
    (S : LS h₀ g L m none none none none (some (.ref Wd)) q6 q7 s.heap) (hW : g.IsList Wd (List.toArray us)) (hus : Paired (WordAt g) us Ws) (hb : ∀ W ∈ Ws, W.length ≤ 6 ∧ ∀ y ∈ W, y.length ≤ 17) (hl : Ws.length ≤ 60)
    (next : ∀ (g' h' : Heap) (tk' : Nat) (D : Addr) (fs : List Value), LS h₀ g' L m none none none (some (.ref D)) (some (.ref Wd)) q6 q7 h' → (∀ b o, g.get? b = some o → g'.get? b = some o) → g'.IsList D (List.toArray fs) → Paired (FormAt g') fs Ws →
      wpAny (model PR w) ((Ar dp un fr gd).deeper (lawEnv w L)) (execs rest (lawEnv w L)) Q E { s with heap := h', toks := tk' }) :
    wpAny (model PR w) ((Ar dp un fr gd).deeper (lawEnv w L)) (execs (lawSt w 3 :: rest) (lawEnv w L)) Q E s :=
  st_4_c.fin st_4_c.at_ (w, p, loose, mean, mg, mb, s, dp, un, fr, gd, E, rest, L, h₀, g, m, Q, Wd, us, Ws, q6, q7) KX T hroom S hW hus hb hl next
end
section
section
variable {w : World} {p : Program} {loose : List Str} {mean : ExcName → Option Value} {mg mb : Str → Option Value} {s : Shared} {dp un : Nat} {fr : Option (List Env)} {gd : Option (List Code)} {E : Value → Shared → Prop}
theorem join_step_len (x y : Str) : (joinF x y).length ≤ x.length + y.length + 1 := by
  unfold joinF
  have e1 : (Str.ofString "/").length = 1 := by decide
  split
  · omega
  · split
    · omega
    · split
      · rw [Str.length_append]; omega
      · rw [Str.length_append, Str.length_append, e1]; omega
theorem joins_len : ∀ (ys : List Str) (x : Str), (∀ y ∈ ys, y.length ≤ 17) → (ys.foldl joinF x).length ≤ x.length + 18 * ys.length
  | [], x, _ => by simp
  | y :: ys, x, h => by
    have h1 := joins_len ys (joinF x y) fun z hz => h z (.tail _ hz)
    have h2 := join_step_len x y
    have h3 := h y (.head _)
    rw [List.foldl_cons, List.length_cons]; omega
theorem join_fn2 : Fn2 w p loose mean mg mb 6 122 joinF (fun x y => x.length ≤ 90000 ∧ y.length ≤ 1000) :=
  fun _ _ _ _ _ _ _ _ _ _ KX T hr hok => join_spec KX T hr hok.1 hok.2
theorem joins_ok {ys : List Str} {x : Str} (hx : x.length ≤ 1000) (hn : ys.length ≤ 6) (hy : ∀ y ∈ ys, y.length ≤ 17) (i : Nat) (y : Str) (e : ys[i]? = some y) : ((ys.take i).foldl joinF x).length ≤ 90000 ∧ y.length ≤ 1000 := by
  refine ⟨?_, Nat.le_trans (hy y (List.mem_of_getElem? e)) (by decide)⟩
  have h1 := joins_len (ys.take i) x fun z hz => hy z (List.mem_of_mem_take hz)
  have h2 : (ys.take i).length ≤ ys.length := by rw [List.length_take]; omega
  omega
noncomputable def pathW (W : List Str) : Str := normF (W.foldl joinF (Str.ofString "."))
def TextAt (v : Value) (x : Str) : Prop := ∃ t, v = .str x t
end
namespace st_5_c
def Pz (w : World) (p : Program) (loose : List Str) (mean : ExcName → Option Value) (mg : Str → Option Value) (mb : Str → Option Value) (s : Shared) (dp : Nat) (un : Nat) (fr : Option (List Env)) (gd : Option (List Code)) (E : Value → Shared → Prop) (rest : List Stmt) (L : Addr) (h₀ : Heap) (g : Heap) (m : Str → Option Value) (Q : Flow → Shared → Prop) (Wd : Addr) (us : List Value) (Ws : List (List Str)) (q4 : Option Value) (q6 : Option Value) (q7 : Option Value) : Prop := ∀ (KX : (hd.heap_39 w.params).In h₀) (T : Top p loose mean mg mb h₀) (hroom : dp + 20 < recursionLimit) (S : LS h₀ g L m none none none q4 (some (.ref Wd)) q6 q7 s.heap) (hW : g.IsList Wd (List.toArray us)) (hus : Paired (WordAt g) us Ws) (hb : ∀ W ∈ Ws, W.length ≤ 6 ∧ ∀ y ∈ W, y.length ≤ 17) (hl : Ws.length ≤ 60) (next : ∀ (g' h' : Heap) (tk' : Nat) (D : Addr) (fs : List Value), LS h₀ g' L m none none (some (.ref D)) q4 (some (.ref Wd)) q6 q7 h' → (∀ b o, g.get? b = some o → g'.get? b = some o) → (∃ c, g'.get? D = some (PySem.W.listOf (List.toArray fs) c)) → Paired (fun v W => TextAt v (pathW W)) fs Ws →
      wpAny (model PR w) ((Ar dp un fr gd).deeper (lawEnv w L)) (execs rest (lawEnv w L)) Q E { s with heap := h', toks := tk' }),
  wpAny (model PR w) ((Ar dp un fr gd).deeper (lawEnv w L)) (execs (lawSt w 4 :: rest) (lawEnv w L)) Q E s
abbrev Cx : Type := (World) × (Program) × (List Str) × (ExcName → Option Value) × (Str → Option Value) × (Str → Option Value) × (Shared) × (Nat) × (Nat) × (Option (List Env)) × (Option (List Code)) × (Value → Shared → Prop) × (List Stmt) × (Addr) × (Heap) × (Heap) × (Str → Option Value) × (Flow → Shared → Prop) × (Addr) × (List Value) × (List (List Str)) × (Option Value) × (Option Value) × (Option Value)
theorem ne : Nonempty Cx := ⟨(aWorld 0, default, [], (fun _ => none), (fun _ => none), (fun _ => none), ({} : Shared), (0 : Nat), (0 : Nat), none, none, (fun _ _ => True), [], (0 : Nat), ({} : Heap), ({} : Heap), (fun _ => none), (fun _ _ => True), (0 : Nat), [], [], none, none, none)⟩
@[irreducible] noncomputable def bad : Cx := @Classical.epsilon Cx ne fun c => ¬ Pz c.1 c.2.1 c.2.2.1 c.2.2.2.1 c.2.2.2.2.1 c.2.2.2.2.2.1 c.2.2.2.2.2.2.1 c.2.2.2.2.2.2.2.1 c.2.2.2.2.2.2.2.2.1 c.2.2.2.2.2.2.2.2.2.1 c.2.2.2.2.2.2.2.2.2.2.1 c.2.2.2.2.2.2.2.2.2.2.2.1 c.2.2.2.2.2.2.2.2.2.2.2.2.1 c.2.2.2.2.2.2.2.2.2.2.2.2.2.1 c.2.2.2.2.2.2.2.2.2.2.2.2.2.2.1 c.2.2.2.2.2.2.2.2.2.2.2.2.2.2.2.1 c.2.2.2.2.2.2.2.2.2.2.2.2.2.2.2.2.1 c.2.2.2.2.2.2.2.2.2.2.2.2.2.2.2.2.2.1 c.2.2.2.2.2.2.2.2.2.2.2.2.2.2.2.2.2.2.1 c.2.2.2.2.2.2.2.2.2.2.2.2.2.2.2.2.2.2.2.1 c.2.2.2.2.2.2.2.2.2.2.2.2.2.2.2.2.2.2.2.2.1 c.2.2.2.2.2.2.2.2.2.2.2.2.2.2.2.2.2.2.2.2.2.1 c.2.2.2.2.2.2.2.2.2.2.2.2.2.2.2.2.2.2.2.2.2.2.1 c.2.2.2.2.2.2.2.2.2.2.2.2.2.2.2.2.2.2.2.2.2.2.2
theorem fin (h : Pz bad.1 bad.2.1 bad.2.2.1 bad.2.2.2.1 bad.2.2.2.2.1 bad.2.2.2.2.2.1 bad.2.2.2.2.2.2.1 bad.2.2.2.2.2.2.2.1 bad.2.2.2.2.2.2.2.2.1 bad.2.2.2.2.2.2.2.2.2.1 bad.2.2.2.2.2.2.2.2.2.2.1 bad.2.2.2.2.2.2.2.2.2.2.2.1 bad.2.2.2.2.2.2.2.2.2.2.2.2.1 bad.2.2.2.2.2.2.2.2.2.2.2.2.2.1 bad.2.2.2.2.2.2.2.2.2.2.2.2.2.2.1 bad.2.2.2.2.2.2.2.2.2.2.2.2.2.2.2.1 bad.2.2.2.2.2.2.2.2.2.2.2.2.2.2.2.2.1 bad.2.2.2.2.2.2.2.2.2.2.2.2.2.2.2.2.2.1 bad.2.2.2.2.2.2.2.2.2.2.2.2.2.2.2.2.2.2.1 bad.2.2.2.2.2.2.2.2.2.2.2.2.2.2.2.2.2.2.2.1 bad.2.2.2.2.2.2.2.2.2.2.2.2.2.2.2.2.2.2.2.2.1 bad.2.2.2.2.2.2.2.2.2.2.2.2.2.2.2.2.2.2.2.2.2.1 bad.2.2.2.2.2.2.2.2.2.2.2.2.2.2.2.2.2.2.2.2.2.2.1 bad.2.2.2.2.2.2.2.2.2.2.2.2.2.2.2.2.2.2.2.2.2.2.2) (c : Cx) : Pz c.1 c.2.1 c.2.2.1 c.2.2.2.1 c.2.2.2.2.1 c.2.2.2.2.2.1 c.2.2.2.2.2.2.1 c.2.2.2.2.2.2.2.1 c.2.2.2.2.2.2.2.2.1 c.2.2.2.2.2.2.2.2.2.1 c.2.2.2.2.2.2.2.2.2.2.1 c.2.2.2.2.2.2.2.2.2.2.2.1 c.2.2.2.2.2.2.2.2.2.2.2.2.1 c.2.2.2.2.2.2.2.2.2.2.2.2.2.1 c.2.2.2.2.2.2.2.2.2.2.2.2.2.2.1 c.2.2.2.2.2.2.2.2.2.2.2.2.2.2.2.1 c.2.2.2.2.2.2.2.2.2.2.2.2.2.2.2.2.1 c.2.2.2.2.2.2.2.2.2.2.2.2.2.2.2.2.2.1 c.2.2.2.2.2.2.2.2.2.2.2.2.2.2.2.2.2.2.1 c.2.2.2.2.2.2.2.2.2.2.2.2.2.2.2.2.2.2.2.1 c.2.2.2.2.2.2.2.2.2.2.2.2.2.2.2.2.2.2.2.2.1 c.2.2.2.2.2.2.2.2.2.2.2.2.2.2.2.2.2.2.2.2.2.1 c.2.2.2.2.2.2.2.2.2.2.2.2.2.2.2.2.2.2.2.2.2.2.1 c.2.2.2.2.2.2.2.2.2.2.2.2.2.2.2.2.2.2.2.2.2.2.2 := by
  delta bad at h
  exact Classical.byContradiction fun q => (@Classical.epsilon_spec Cx (fun c => ¬ Pz c.1 c.2.1 c.2.2.1 c.2.2.2.1 c.2.2.2.2.1 c.2.2.2.2.2.1 c.2.2.2.2.2.2.1 c.2.2.2.2.2.2.2.1 c.2.2.2.2.2.2.2.2.1 c.2.2.2.2.2.2.2.2.2.1 c.2.2.2.2.2.2.2.2.2.2.1 c.2.2.2.2.2.2.2.2.2.2.2.1 c.2.2.2.2.2.2.2.2.2.2.2.2.1 c.2.2.2.2.2.2.2.2.2.2.2.2.2.1 c.2.2.2.2.2.2.2.2.2.2.2.2.2.2.1 c.2.2.2.2.2.2.2.2.2.2.2.2.2.2.2.1 c.2.2.2.2.2.2.2.2.2.2.2.2.2.2.2.2.1 c.2.2.2.2.2.2.2.2.2.2.2.2.2.2.2.2.2.1 c.2.2.2.2.2.2.2.2.2.2.2.2.2.2.2.2.2.2.1 c.2.2.2.2.2.2.2.2.2.2.2.2.2.2.2.2.2.2.2.1 c.2.2.2.2.2.2.2.2.2.2.2.2.2.2.2.2.2.2.2.2.1 c.2.2.2.2.2.2.2.2.2.2.2.2.2.2.2.2.2.2.2.2.2.1 c.2.2.2.2.2.2.2.2.2.2.2.2.2.2.2.2.2.2.2.2.2.2.1 c.2.2.2.2.2.2.2.2.2.2.2.2.2.2.2.2.2.2.2.2.2.2.2) ⟨c, q⟩) h
noncomputable def w : World := bad.1
noncomputable def p : Program := bad.2.1
noncomputable def loose : List Str := bad.2.2.1
noncomputable def mean : ExcName → Option Value := bad.2.2.2.1
noncomputable def mg : Str → Option Value := bad.2.2.2.2.1
noncomputable def mb : Str → Option Value := bad.2.2.2.2.2.1
noncomputable def s : Shared := bad.2.2.2.2.2.2.1
noncomputable def dp : Nat := bad.2.2.2.2.2.2.2.1
noncomputable def un : Nat := bad.2.2.2.2.2.2.2.2.1
noncomputable def fr : Option (List Env) := bad.2.2.2.2.2.2.2.2.2.1
noncomputable def gd : Option (List Code) := bad.2.2.2.2.2.2.2.2.2.2.1
noncomputable def E : Value → Shared → Prop := bad.2.2.2.2.2.2.2.2.2.2.2.1
noncomputable def rest : List Stmt := bad.2.2.2.2.2.2.2.2.2.2.2.2.1
noncomputable def L : Addr := bad.2.2.2.2.2.2.2.2.2.2.2.2.2.1
noncomputable def h₀ : Heap := bad.2.2.2.2.2.2.2.2.2.2.2.2.2.2.1
noncomputable def g : Heap := bad.2.2.2.2.2.2.2.2.2.2.2.2.2.2.2.1
noncomputable def m : Str → Option Value := bad.2.2.2.2.2.2.2.2.2.2.2.2.2.2.2.2.1
noncomputable def Q : Flow → Shared → Prop := bad.2.2.2.2.2.2.2.2.2.2.2.2.2.2.2.2.2.1
noncomputable def Wd : Addr := bad.2.2.2.2.2.2.2.2.2.2.2.2.2.2.2.2.2.2.1
noncomputable def us : List Value := bad.2.2.2.2.2.2.2.2.2.2.2.2.2.2.2.2.2.2.2.1
noncomputable def Ws : List (List Str) := bad.2.2.2.2.2.2.2.2.2.2.2.2.2.2.2.2.2.2.2.2.1
noncomputable def q4 : Option Value := bad.2.2.2.2.2.2.2.2.2.2.2.2.2.2.2.2.2.2.2.2.2.1
noncomputable def q6 : Option Value := bad.2.2.2.2.2.2.2.2.2.2.2.2.2.2.2.2.2.2.2.2.2.2.1
noncomputable def q7 : Option Value := bad.2.2.2.2.2.2.2.2.2.2.2.2.2.2.2.2.2.2.2.2.2.2.2
theorem at_ (KX : (hd.heap_39 w.params).In h₀) (T : Top p loose mean mg mb h₀) (hroom : dp + 20 < recursionLimit) (S : LS h₀ g L m none none none q4 (some (.ref Wd)) q6 q7 s.heap) (hW : g.IsList Wd (List.toArray us)) (hus : Paired (WordAt g) us Ws) (hb : ∀ W ∈ Ws, W.length ≤ 6 ∧ ∀ y ∈ W, y.length ≤ 17) (hl : Ws.length ≤ 60) (next : ∀ (g' h' : Heap) (tk' : Nat) (D : Addr) (fs : List Value), LS h₀ g' L m none none (some (.ref D)) q4 (some (.ref Wd)) q6 q7 h' → (∀ b o, g.get? b = some o → g'.get? b = some o) → (∃ c, g'.get? D = some (PySem.W.listOf (List.toArray fs) c)) → Paired (fun v W => TextAt v (pathW W)) fs Ws →
      wpAny (model PR w) ((Ar dp un fr gd).deeper (lawEnv w L)) (execs rest (lawEnv w L)) Q E { s with heap := h', toks := tk' }) :
  wpAny (model PR w) ((Ar dp un fr gd).deeper (lawEnv w L)) (execs (lawSt w 4 :: rest) (lawEnv w L)) Q E s := by
  obtain ⟨o1, o2, o3, o4, o5, o6, o7, objs, N, d1, d2, d3, d4, d5, d6, d7, hg, hob⟩ := S.op
  obtain ⟨n1, n2, n3, n4, n5, n6, n7⟩ := off_cells hob
  have F := S.F
  have base := S.base
  have non := S.non
  have up := S.up
  show wpAny _ _ (execs (Stmt.Assign _ _ _ :: rest) (envOfC _ (Scope.mk _ _ _ _ _) _ _ _)) _ _ _
  unfold sev at N
  clear S
  have hul := hus.length
  k_steps
  refine StopC.go ?_
  refine comp_listN (l := Wd) (its := us) (fun i v => ∃ W, Ws[i]? = some W ∧ TextAt v (pathW W)) (fun _ _ => False) rfl rfl (by decide) rfl (by decide) rfl (by omega) ?_ ?_ ?_
  · refine wpAny_mono (Q := ListGot _ _ _) ?_ (fun _ _ h => h) (fun _ _ e => e)
    k_steps
    exact ⟨rfl, ⟨_, _, rfl, fun _ _ e => e⟩, hW.at fun o e => up _ _ e⟩
  · rintro i C mc hb' trk s₂ hkk ⟨v, hv, hx⟩ F5 N5
    have KX' := (KX.keeps F.keep).keeps hkk
    have T' := (T.keeps F.keep).keeps hkk
    obtain ⟨W, hWi, a, vs, rfl, ha, hvs⟩ := paired_get hus i v hv
    have ha2 : hb'.IsList a (List.toArray vs) := (ha.at fun o e => up _ _ e).at fun o e => hkk _ _ e
    have hbW := hb W (List.mem_of_getElem? hWi)
    have F3 := fr_pin F5 hx
    clear F F5 N KX T
    have e1 : (Str.ofString ".").length = 1 := by decide
    k_steps
    refine StopC.go ?_
    rename Fr _ _ _ _ => F4
    rename News _ _ _ _ => N4
    refine use_str F4 N4 (reduce_spec (D := 6) join_fn2 (by k_is) (KX'.keeps F4.keep) (T'.keeps F4.keep) (by walk_at "My room") (ha2.at fun o e => F4.keep _ o e) hvs (joins_ok (by omega) hbW.1 hbW.2)) ?_
    intro t' h' tk' F' N'
    clear F4 N4
    k_steps
    refine StopC.go ?_
    rename Fr _ _ _ _ => F4
    rename News _ _ _ _ => N4
    refine use_str F4 N4 (norm_spec (KX'.keeps F4.keep) (T'.keeps F4.keep) (by walk_at "My room") (by have := joins_len W (Str.ofString ".") hbW.2; omega)) ?_
    intro t' h' tk' F' N'
    exact elend_v F' N' (fun p hp => by first | exact hp | exact .tail _ hp) ⟨W, hWi, _, rfl⟩
  · intro D h' tk' ys ents c hyl hye hen hD hDs hkp
    have F2 := fr_up F hkp
    have N2 := news_new F N (news_up N hkp) hD hDs
    obtain ⟨N2, hne2⟩ := N2
    simp only [AllNe] at hne2
    clear F N
    k_steps
    rename Fr _ _ _ _ => F4
    rename News _ _ _ _ => N4
    obtain ⟨g6, LS4, hgg, hin, hino⟩ := LS.fin base non hg F4 N4 (fun p hp => .tail _ hp) (by assumption) (by assumption) (by assumption) (by assumption) (by assumption) (by assumption) (by assumption)
    have hD4 := N4.get (.head _)
    have q1 : @Ne Nat D L := (N4 _ (.head _)).2.1
    refine next g6 _ _ D ys LS4 hgg ⟨_, hin _ _ hD4 (by walk_at "My nocell")⟩ (paired_of (by omega) fun i y W e1 e2 => ?_)
    rcases hye i y e1 with ⟨W', e3, t, rfl⟩ | ⟨a, o, rfl, hao, q⟩
    · rw [e2] at e3
      cases e3
      exact ⟨t, rfl⟩
    · exact q.elim
end st_5_c
theorem st_5 {w : World} {p : Program} {loose : List Str} {mean : ExcName → Option Value} {mg : Str → Option Value} {mb : Str → Option Value} {s : Shared} {dp : Nat} {un : Nat} {fr : Option (List Env)} {gd : Option (List Code)} {E : Value → Shared → Prop} {rest : List Stmt} {L : Addr} {h₀ g : Heap} {m : Str → Option Value} {Q : Flow → Shared → Prop} {Wd : Addr} {us : List Value} {Ws : List (List Str)} {q4 q6 q7 : Option Value} (KX : (hd.heap_39 w.params).In h₀) (T : Top p loose mean mg mb h₀) (hroom : dp + 20 < recursionLimit)
    (S : LS h₀ g L m none none none q4 (some (.ref Wd)) q6 q7 s.heap) (hW : g.IsList Wd (List.toArray us)) (hus : Paired (WordAt g) us Ws) (hb : ∀ W ∈ Ws, W.length ≤ 6 ∧ ∀ y ∈ W, y.length ≤ 17) (hl : Ws.length ≤ 60)
    (next : ∀ (g' h' : Heap) (tk' : Nat) (D : Addr) (fs : List Value), LS h₀ g' L m none none (some (.ref D)) q4 (some (.ref Wd)) q6 q7 h' → (∀ b o, g.get? b = some o → g'.get? b = some o) → (∃ c, g'.get? D = some (PySem.W.listOf (List.toArray fs) c)) → Paired (fun v W => TextAt v (pathW W)) fs Ws →
      wpAny (model PR w) ((Ar dp un fr gd).deeper (lawEnv w L)) (execs rest (lawEnv w L)) Q E { s with heap := h', toks := tk' }) :
    wpAny (model PR w) ((Ar dp un fr gd).deeper (lawEnv w L)) (execs (lawSt w 4 :: rest) (lawEnv w L)) Q E s :=
  st_5_c.fin st_5_c.at_ (w, p, loose, mean, mg, mb, s, dp, un, fr, gd, E, rest, L, h₀, g, m, Q, Wd, us, Ws, q4, q6, q7) KX T hroom S hW hus hb hl next
end
section
local macro_rules | `(tactic| walk_at "call builtin:str.join") => `(tactic| (refine stopC ?_))
section
variable {w : World} {p : Program} {loose : List Str} {mean : ExcName → Option Value} {mg mb : Str → Option Value} {s : Shared} {dp un : Nat} {fr : Option (List Env)} {gd : Option (List Code)} {E : Value → Shared → Prop}
def KindAt (g : Heap) (v : Value) (k : Int × Str × Int) : Prop := ∃ D t1 t2 t3, v = .ref D ∧ g.get? D = some { cls := .type "tuple", data := .seq [Value.int k.1 t1, .str k.2.1 t2, .int k.2.2 t3].toArray }
def KindsOk (ps : List Str) (ks : List (Int × Str × Int)) : Prop := ∃ M a c b, M = 1 + Txt.count (Txt.join (Str.ofString "/") ps) (Str.ofString "..") ∧ 1 ≤ M ∧ M ≤ 130 ∧ 0 ≤ a ∧ a ≤ 2 ∧ 0 ≤ b ∧ b ≤ 3 ∧ (c = Str.ofString "" ∨ c = Str.ofString "y") ∧
  ks = [(0, Str.ofString "x", 0), (M, Str.ofString "x", M), (a, c, b)]
end
namespace st_6_c
def Pz (w : World) (p : Program) (loose : List Str) (mean : ExcName → Option Value) (mg : Str → Option Value) (mb : Str → Option Value) (s : Shared) (dp : Nat) (un : Nat) (fr : Option (List Env)) (gd : Option (List Code)) (E : Value → Shared → Prop) (rest : List Stmt) (L : Addr) (l : Addr) (P : Addr) (vs : List Value) (cs : List Value) (ns : List Int) (ps : List Str) (h₀ : Heap) (g : Heap) (m : Str → Option Value) (Q : Flow → Shared → Prop) (q3 : Option Value) (q4 : Option Value) (q5 : Option Value) (q6 : Option Value) : Prop := ∀ (KX : (hd.heap_39 w.params).In h₀) (T : Top p loose mean mg mb h₀) (hroom : dp + 20 < recursionLimit) (hl : h₀.IsList l vs.toArray) (hys : IntsAre vs ns) (hn : ns.length ≤ 63) (hm : m (Str.ofString "script") = some (.ref l)) (S : LS h₀ g L m none none q3 q4 q5 q6 (some (.ref P)) s.heap) (hP : g.IsList P (List.toArray cs)) (hcs : StrsAre cs ps) (hpl : ps.length ≤ 6) (hps : ∀ y ∈ ps, y.length ≤ 17) (next : ∀ (g' h' : Heap) (tk' : Nat) (m' : Str → Option Value) (K : Addr) (kv : List Value) (ks : List (Int × Str × Int)), LS h₀ g' L m' none none q3 q4 q5 q6 (some (.ref P)) h' → (∀ b o, g.get? b = some o → g'.get? b = some o) → m' (Str.ofString "kinds") = some (.ref K) → g'.IsList K (List.toArray kv) → Paired (KindAt g') kv ks → KindsOk ps ks →
      wpAny (model PR w) ((Ar dp un fr gd).deeper (lawEnv w L)) (execs rest (lawEnv w L)) Q E { s with heap := h', toks := tk' }),
  wpAny (model PR w) ((Ar dp un fr gd).deeper (lawEnv w L)) (execs (lawSt w 5 :: lawSt w 6 :: lawSt w 7 :: rest) (lawEnv w L)) Q E s
abbrev Cx : Type := (World) × (Program) × (List Str) × (ExcName → Option Value) × (Str → Option Value) × (Str → Option Value) × (Shared) × (Nat) × (Nat) × (Option (List Env)) × (Option (List Code)) × (Value → Shared → Prop) × (List Stmt) × (Addr) × (Addr) × (Addr) × (List Value) × (List Value) × (List Int) × (List Str) × (Heap) × (Heap) × (Str → Option Value) × (Flow → Shared → Prop) × (Option Value) × (Option Value) × (Option Value) × (Option Value)
theorem ne : Nonempty Cx := ⟨(aWorld 0, default, [], (fun _ => none), (fun _ => none), (fun _ => none), ({} : Shared), (0 : Nat), (0 : Nat), none, none, (fun _ _ => True), [], (0 : Nat), (0 : Nat), (0 : Nat), [], [], [], [], ({} : Heap), ({} : Heap), (fun _ => none), (fun _ _ => True), none, none, none, none)⟩
@[irreducible] noncomputable def bad : Cx := @Classical.epsilon Cx ne fun c => ¬ Pz c.1 c.2.1 c.2.2.1 c.2.2.2.1 c.2.2.2.2.1 c.2.2.2.2.2.1 c.2.2.2.2.2.2.1 c.2.2.2.2.2.2.2.1 c.2.2.2.2.2.2.2.2.1 c.2.2.2.2.2.2.2.2.2.1 c.2.2.2.2.2.2.2.2.2.2.1 c.2.2.2.2.2.2.2.2.2.2.2.1 c.2.2.2.2.2.2.2.2.2.2.2.2.1 c.2.2.2.2.2.2.2.2.2.2.2.2.2.1 c.2.2.2.2.2.2.2.2.2.2.2.2.2.2.1 c.2.2.2.2.2.2.2.2.2.2.2.2.2.2.2.1 c.2.2.2.2.2.2.2.2.2.2.2.2.2.2.2.2.1 c.2.2.2.2.2.2.2.2.2.2.2.2.2.2.2.2.2.1 c.2.2.2.2.2.2.2.2.2.2.2.2.2.2.2.2.2.2.1 c.2.2.2.2.2.2.2.2.2.2.2.2.2.2.2.2.2.2.2.1 c.2.2.2.2.2.2.2.2.2.2.2.2.2.2.2.2.2.2.2.2.1 c.2.2.2.2.2.2.2.2.2.2.2.2.2.2.2.2.2.2.2.2.2.1 c.2.2.2.2.2.2.2.2.2.2.2.2.2.2.2.2.2.2.2.2.2.2.1 c.2.2.2.2.2.2.2.2.2.2.2.2.2.2.2.2.2.2.2.2.2.2.2.1 c.2.2.2.2.2.2.2.2.2.2.2.2.2.2.2.2.2.2.2.2.2.2.2.2.1 c.2.2.2.2.2.2.2.2.2.2.2.2.2.2.2.2.2.2.2.2.2.2.2.2.2.1 c.2.2.2.2.2.2.2.2.2.2.2.2.2.2.2.2.2.2.2.2.2.2.2.2.2.2.1 c.2.2.2.2.2.2.2.2.2.2.2.2.2.2.2.2.2.2.2.2.2.2.2.2.2.2.2
theorem fin (h : Pz bad.1 bad.2.1 bad.2.2.1 bad.2.2.2.1 bad.2.2.2.2.1 bad.2.2.2.2.2.1 bad.2.2.2.2.2.2.1 bad.2.2.2.2.2.2.2.1 bad.2.2.2.2.2.2.2.2.1 bad.2.2.2.2.2.2.2.2.2.1 bad.2.2.2.2.2.2.2.2.2.2.1 bad.2.2.2.2.2.2.2.2.2.2.2.1 bad.2.2.2.2.2.2.2.2.2.2.2.2.1 bad.2.2.2.2.2.2.2.2.2.2.2.2.2.1 bad.2.2.2.2.2.2.2.2.2.2.2.2.2.2.1 bad.2.2.2.2.2.2.2.2.2.2.2.2.2.2.2.1 bad.2.2.2.2.2.2.2.2.2.2.2.2.2.2.2.2.1 bad.2.2.2.2.2.2.2.2.2.2.2.2.2.2.2.2.2.1 bad.2.2.2.2.2.2.2.2.2.2.2.2.2.2.2.2.2.2.1 bad.2.2.2.2.2.2.2.2.2.2.2.2.2.2.2.2.2.2.2.1 bad.2.2.2.2.2.2.2.2.2.2.2.2.2.2.2.2.2.2.2.2.1 bad.2.2.2.2.2.2.2.2.2.2.2.2.2.2.2.2.2.2.2.2.2.1 bad.2.2.2.2.2.2.2.2.2.2.2.2.2.2.2.2.2.2.2.2.2.2.1 bad.2.2.2.2.2.2.2.2.2.2.2.2.2.2.2.2.2.2.2.2.2.2.2.1 bad.2.2.2.2.2.2.2.2.2.2.2.2.2.2.2.2.2.2.2.2.2.2.2.2.1 bad.2.2.2.2.2.2.2.2.2.2.2.2.2.2.2.2.2.2.2.2.2.2.2.2.2.1 bad.2.2.2.2.2.2.2.2.2.2.2.2.2.2.2.2.2.2.2.2.2.2.2.2.2.2.1 bad.2.2.2.2.2.2.2.2.2.2.2.2.2.2.2.2.2.2.2.2.2.2.2.2.2.2.2) (c : Cx) : Pz c.1 c.2.1 c.2.2.1 c.2.2.2.1 c.2.2.2.2.1 c.2.2.2.2.2.1 c.2.2.2.2.2.2.1 c.2.2.2.2.2.2.2.1 c.2.2.2.2.2.2.2.2.1 c.2.2.2.2.2.2.2.2.2.1 c.2.2.2.2.2.2.2.2.2.2.1 c.2.2.2.2.2.2.2.2.2.2.2.1 c.2.2.2.2.2.2.2.2.2.2.2.2.1 c.2.2.2.2.2.2.2.2.2.2.2.2.2.1 c.2.2.2.2.2.2.2.2.2.2.2.2.2.2.1 c.2.2.2.2.2.2.2.2.2.2.2.2.2.2.2.1 c.2.2.2.2.2.2.2.2.2.2.2.2.2.2.2.2.1 c.2.2.2.2.2.2.2.2.2.2.2.2.2.2.2.2.2.1 c.2.2.2.2.2.2.2.2.2.2.2.2.2.2.2.2.2.2.1 c.2.2.2.2.2.2.2.2.2.2.2.2.2.2.2.2.2.2.2.1 c.2.2.2.2.2.2.2.2.2.2.2.2.2.2.2.2.2.2.2.2.1 c.2.2.2.2.2.2.2.2.2.2.2.2.2.2.2.2.2.2.2.2.2.1 c.2.2.2.2.2.2.2.2.2.2.2.2.2.2.2.2.2.2.2.2.2.2.1 c.2.2.2.2.2.2.2.2.2.2.2.2.2.2.2.2.2.2.2.2.2.2.2.1 c.2.2.2.2.2.2.2.2.2.2.2.2.2.2.2.2.2.2.2.2.2.2.2.2.1 c.2.2.2.2.2.2.2.2.2.2.2.2.2.2.2.2.2.2.2.2.2.2.2.2.2.1 c.2.2.2.2.2.2.2.2.2.2.2.2.2.2.2.2.2.2.2.2.2.2.2.2.2.2.1 c.2.2.2.2.2.2.2.2.2.2.2.2.2.2.2.2.2.2.2.2.2.2.2.2.2.2.2 := by
  delta bad at h
  exact Classical.byContradiction fun q => (@Classical.epsilon_spec Cx (fun c => ¬ Pz c.1 c.2.1 c.2.2.1 c.2.2.2.1 c.2.2.2.2.1 c.2.2.2.2.2.1 c.2.2.2.2.2.2.1 c.2.2.2.2.2.2.2.1 c.2.2.2.2.2.2.2.2.1 c.2.2.2.2.2.2.2.2.2.1 c.2.2.2.2.2.2.2.2.2.2.1 c.2.2.2.2.2.2.2.2.2.2.2.1 c.2.2.2.2.2.2.2.2.2.2.2.2.1 c.2.2.2.2.2.2.2.2.2.2.2.2.2.1 c.2.2.2.2.2.2.2.2.2.2.2.2.2.2.1 c.2.2.2.2.2.2.2.2.2.2.2.2.2.2.2.1 c.2.2.2.2.2.2.2.2.2.2.2.2.2.2.2.2.1 c.2.2.2.2.2.2.2.2.2.2.2.2.2.2.2.2.2.1 c.2.2.2.2.2.2.2.2.2.2.2.2.2.2.2.2.2.2.1 c.2.2.2.2.2.2.2.2.2.2.2.2.2.2.2.2.2.2.2.1 c.2.2.2.2.2.2.2.2.2.2.2.2.2.2.2.2.2.2.2.2.1 c.2.2.2.2.2.2.2.2.2.2.2.2.2.2.2.2.2.2.2.2.2.1 c.2.2.2.2.2.2.2.2.2.2.2.2.2.2.2.2.2.2.2.2.2.2.1 c.2.2.2.2.2.2.2.2.2.2.2.2.2.2.2.2.2.2.2.2.2.2.2.1 c.2.2.2.2.2.2.2.2.2.2.2.2.2.2.2.2.2.2.2.2.2.2.2.2.1 c.2.2.2.2.2.2.2.2.2.2.2.2.2.2.2.2.2.2.2.2.2.2.2.2.2.1 c.2.2.2.2.2.2.2.2.2.2.2.2.2.2.2.2.2.2.2.2.2.2.2.2.2.2.1 c.2.2.2.2.2.2.2.2.2.2.2.2.2.2.2.2.2.2.2.2.2.2.2.2.2.2.2) ⟨c, q⟩) h
noncomputable def w : World := bad.1
noncomputable def p : Program := bad.2.1
noncomputable def loose : List Str := bad.2.2.1
noncomputable def mean : ExcName → Option Value := bad.2.2.2.1
noncomputable def mg : Str → Option Value := bad.2.2.2.2.1
noncomputable def mb : Str → Option Value := bad.2.2.2.2.2.1
noncomputable def s : Shared := bad.2.2.2.2.2.2.1
noncomputable def dp : Nat := bad.2.2.2.2.2.2.2.1
noncomputable def un : Nat := bad.2.2.2.2.2.2.2.2.1
noncomputable def fr : Option (List Env) := bad.2.2.2.2.2.2.2.2.2.1
noncomputable def gd : Option (List Code) := bad.2.2.2.2.2.2.2.2.2.2.1
noncomputable def E : Value → Shared → Prop := bad.2.2.2.2.2.2.2.2.2.2.2.1
noncomputable def rest : List Stmt := bad.2.2.2.2.2.2.2.2.2.2.2.2.1
noncomputable def L : Addr := bad.2.2.2.2.2.2.2.2.2.2.2.2.2.1
noncomputable def l : Addr := bad.2.2.2.2.2.2.2.2.2.2.2.2.2.2.1
noncomputable def P : Addr := bad.2.2.2.2.2.2.2.2.2.2.2.2.2.2.2.1
noncomputable def vs : List Value := bad.2.2.2.2.2.2.2.2.2.2.2.2.2.2.2.2.1
noncomputable def cs : List Value := bad.2.2.2.2.2.2.2.2.2.2.2.2.2.2.2.2.2.1
noncomputable def ns : List Int := bad.2.2.2.2.2.2.2.2.2.2.2.2.2.2.2.2.2.2.1
noncomputable def ps : List Str := bad.2.2.2.2.2.2.2.2.2.2.2.2.2.2.2.2.2.2.2.1
noncomputable def h₀ : Heap := bad.2.2.2.2.2.2.2.2.2.2.2.2.2.2.2.2.2.2.2.2.1
noncomputable def g : Heap := bad.2.2.2.2.2.2.2.2.2.2.2.2.2.2.2.2.2.2.2.2.2.1
noncomputable def m : Str → Option Value := bad.2.2.2.2.2.2.2.2.2.2.2.2.2.2.2.2.2.2.2.2.2.2.1
noncomputable def Q : Flow → Shared → Prop := bad.2.2.2.2.2.2.2.2.2.2.2.2.2.2.2.2.2.2.2.2.2.2.2.1
noncomputable def q3 : Option Value := bad.2.2.2.2.2.2.2.2.2.2.2.2.2.2.2.2.2.2.2.2.2.2.2.2.1
noncomputable def q4 : Option Value := bad.2.2.2.2.2.2.2.2.2.2.2.2.2.2.2.2.2.2.2.2.2.2.2.2.2.1
noncomputable def q5 : Option Value := bad.2.2.2.2.2.2.2.2.2.2.2.2.2.2.2.2.2.2.2.2.2.2.2.2.2.2.1
noncomputable def q6 : Option Value := bad.2.2.2.2.2.2.2.2.2.2.2.2.2.2.2.2.2.2.2.2.2.2.2.2.2.2.2
theorem at_ (KX : (hd.heap_39 w.params).In h₀) (T : Top p loose mean mg mb h₀) (hroom : dp + 20 < recursionLimit) (hl : h₀.IsList l vs.toArray) (hys : IntsAre vs ns) (hn : ns.length ≤ 63) (hm : m (Str.ofString "script") = some (.ref l)) (S : LS h₀ g L m none none q3 q4 q5 q6 (some (.ref P)) s.heap) (hP : g.IsList P (List.toArray cs)) (hcs : StrsAre cs ps) (hpl : ps.length ≤ 6) (hps : ∀ y ∈ ps, y.length ≤ 17) (next : ∀ (g' h' : Heap) (tk' : Nat) (m' : Str → Option Value) (K : Addr) (kv : List Value) (ks : List (Int × Str × Int)), LS h₀ g' L m' none none q3 q4 q5 q6 (some (.ref P)) h' → (∀ b o, g.get? b = some o → g'.get? b = some o) → m' (Str.ofString "kinds") = some (.ref K) → g'.IsList K (List.toArray kv) → Paired (KindAt g') kv ks → KindsOk ps ks →
      wpAny (model PR w) ((Ar dp un fr gd).deeper (lawEnv w L)) (execs rest (lawEnv w L)) Q E { s with heap := h', toks := tk' }) :
  wpAny (model PR w) ((Ar dp un fr gd).deeper (lawEnv w L)) (execs (lawSt w 5 :: lawSt w 6 :: lawSt w 7 :: rest) (lawEnv w L)) Q E s := by
  obtain ⟨o1, o2, o3, o4, o5, o6, o7, objs, N, d1, d2, d3, d4, d5, d6, d7, hg, hob⟩ := S.op
  obtain ⟨n1, n2, n3, n4, n5, n6, n7⟩ := off_cells hob
  have F := fr_pin S.F hm
  have base := S.base
  have non := S.non
  have up := S.up
  show wpAny _ _ (execs (Stmt.Assign _ _ _ :: Stmt.Assign _ _ _ :: Stmt.Assign _ _ _ :: rest) (envOfC _ (Scope.mk _ _ _ _ _) _ _ _)) _ _ _
  unfold sev at N
  clear S
  have hcl := hcs.len_eq
  k_steps
  refine StopC.go ?_
  rename Fr _ _ _ _ => F1
  rename News _ _ _ _ => N1
  have hP1 := hP.at (h' := _) fun o e => by
    rcases hg _ _ e with q | q
    · exact F1.keep _ _ q
    · exact (N1 _ (.tail _ (.tail _ (.tail _ (.tail _ (.tail _ (.tail _ (.tail _ (.tail _ q))))))))).1
  have hsum := sum_bound 17 ps hps
  refine join_listW hP1 hcs (by decide +kernel) (by omega) ?_
  intro tj kj
  have hjl := join_len ps
  have hcn := PyProof.Rows.count_bounds (Txt.join (Str.ofString "/") ps) (Str.ofString "..")
  k_steps
  all_goals
    rename Fr _ _ _ _ => F4
    rename News _ _ _ _ => N4
    obtain ⟨g6, LS4, hgg, hin, hino⟩ := LS.fin base non hg F4 N4 (fun p hp => .tail _ (.tail _ (.tail _ (.tail _ (.tail _ hp))))) (by assumption) (by assumption) (by assumption) (by assumption) (by assumption) (by assumption) (by assumption)
    have hK := N4.get (.head _)
    have hT3 := N4.get (.tail _ (.head _))
    have hT2 := N4.get (.tail _ (.tail _ (.head _)))
    have hT1 := N4.get (.tail _ (.tail _ (.tail _ (.head _))))
    have hKc := hin _ _ hK (by walk_at "My nocell")
    have hT3c := hin _ _ hT3 (by walk_at "My nocell")
    have hT2c := hin _ _ hT2 (by walk_at "My nocell")
    have hT1c := hin _ _ hT1 (by walk_at "My nocell")
    refine next g6 _ _ _ _ [_, _, _] [(0, Str.ofString "x", 0), (_, Str.ofString "x", _), (_, _, _)] LS4 hgg rfl ⟨_, hKc, rfl, _, rfl⟩ (.cons ⟨_, _, _, _, rfl, hT1c⟩ (.cons ⟨_, _, _, _, rfl, hT2c⟩ (.cons ⟨_, _, _, _, rfl, hT3c⟩ .nil))) ⟨_, _, _, _, rfl, by omega, by omega, Int.fmod_nonneg_of_pos _ (by decide), Int.le_of_lt_add_one (Int.fmod_lt_of_pos _ (by decide)), Int.fmod_nonneg_of_pos _ (by decide), Int.le_of_lt_add_one (Int.fmod_lt_of_pos _ (by decide)), ?_, rfl⟩
    first | exact .inl rfl | exact .inr rfl
end st_6_c
theorem st_6 {w : World} {p : Program} {loose : List Str} {mean : ExcName → Option Value} {mg : Str → Option Value} {mb : Str → Option Value} {s : Shared} {dp : Nat} {un : Nat} {fr : Option (List Env)} {gd : Option (List Code)} {E : Value → Shared → Prop} {rest : List Stmt} {L l P : Addr} {vs cs : List Value} {ns : List Int} {ps : List Str} {h₀ g : Heap} {m : Str → Option Value} {Q : Flow → Shared → Prop} {q3 q4 q5 q6 : Option Value} (KX : (hd.heap_39 w.params).In h₀) (T : Top p loose mean mg mb h₀) (hroom : dp + 20 < recursionLimit)
    (hl : h₀.IsList l vs.toArray) (hys : IntsAre vs ns) (hn : ns.length ≤ 63) (hm : m (Str.ofString "script") = some (.ref l))
    (S : LS h₀ g L m none none q3 q4 q5 q6 (some (.ref P)) s.heap) (hP : g.IsList P (List.toArray cs)) (hcs : StrsAre cs ps) (hpl : ps.length ≤ 6) (hps : ∀ y ∈ ps, y.length ≤ 17)
    (next : ∀ (g' h' : Heap) (tk' : Nat) (m' : Str → Option Value) (K : Addr) (kv : List Value) (ks : List (Int × Str × Int)), LS h₀ g' L m' none none q3 q4 q5 q6 (some (.ref P)) h' → (∀ b o, g.get? b = some o → g'.get? b = some o) → m' (Str.ofString "kinds") = some (.ref K) → g'.IsList K (List.toArray kv) → Paired (KindAt g') kv ks → KindsOk ps ks →
      wpAny (model PR w) ((Ar dp un fr gd).deeper (lawEnv w L)) (execs rest (lawEnv w L)) Q E { s with heap := h', toks := tk' }) :
    wpAny (model PR w) ((Ar dp un fr gd).deeper (lawEnv w L)) (execs (lawSt w 5 :: lawSt w 6 :: lawSt w 7 :: rest) (lawEnv w L)) Q E s :=
  st_6_c.fin st_6_c.at_ (w, p, loose, mean, mg, mb, s, dp, un, fr, gd, E, rest, L, l, P, vs, cs, ns, ps, h₀, g, m, Q, q3, q4, q5, q6) KX T hroom hl hys hn hm S hP hcs hpl hps next
end
section
section
variable {w : World} {p : Program} {loose : List Str} {mean : ExcName → Option Value} {mg mb : Str → Option Value} {s : Shared} {dp un : Nat} {fr : Option (List Env)} {gd : Option (List Code)} {E : Value → Shared → Prop}
noncomputable def kindText (k : Int × Str × Int) : Str := Txt.mul (Str.ofString "\"") k.1 ++ k.2.1 ++ Txt.mul (Str.ofString "\"") k.2.2
def KindsB (ks : List (Int × Str × Int)) : Prop := ks.length = 3 ∧ ∀ k ∈ ks, (0 ≤ k.1 ∧ k.1 ≤ 130) ∧ k.2.1.length ≤ 1 ∧ (0 ≤ k.2.2 ∧ k.2.2 ≤ 130)
theorem kinds_b {ps : List Str} {ks : List (Int × Str × Int)} (h : KindsOk ps ks) : KindsB ks := by
  obtain ⟨M, a, c, b, -, h1, h2, h3, h4, h5, h6, hc, rfl⟩ := h
  have e0 : (Str.ofString "x").length ≤ 1 := by decide
  have ec : c.length ≤ 1 := by rcases hc with rfl | rfl <;> decide
  refine ⟨rfl, fun k hk => ?_⟩
  simp only [List.mem_cons, List.not_mem_nil, or_false] at hk
  rcases hk with rfl | rfl | rfl
  · exact ⟨⟨Int.le_refl 0, by decide⟩, e0, Int.le_refl 0, by decide⟩
  · exact ⟨⟨by dsimp only; omega, h2⟩, e0, by dsimp only; omega, h2⟩
  · exact ⟨⟨h3, by dsimp only; omega⟩, ec, h5, by dsimp only; omega⟩
def KG (ks : List (Int × Str × Int)) (i : Nat) (va vb vc : Value) : Prop := ∃ k t1 t2 t3, ks[i]? = some k ∧ va = .int k.1 t1 ∧ vb = .str k.2.1 t2 ∧ vc = .int k.2.2 t3
theorem kinds_tup {g h : Heap} {kv : List Value} {ks : List (Int × Str × Int)} (hk : Paired (KindAt g) kv ks) (up : ∀ b o, g.get? b = some o → h.get? b = some o) (i : Nat) (v : Value) (e : kv[i]? = some v) : ∃ T va vb vc, v = .ref T ∧ h.IsTuple T #[va, vb, vc] ∧ KG ks i va vb vc := by
  obtain ⟨k, hk, D, t1, t2, t3, rfl, hD⟩ := paired_get hk i v e
  exact ⟨D, _, _, _, rfl, ⟨_, up _ _ hD, rfl, _, rfl⟩, k, t1, t2, t3, hk, rfl, rfl, rfl⟩
end
namespace st_9_c
def Pz (w : World) (p : Program) (loose : List Str) (mean : ExcName → Option Value) (mg : Str → Option Value) (mb : Str → Option Value) (s : Shared) (dp : Nat) (un : Nat) (fr : Option (List Env)) (gd : Option (List Code)) (E : Value → Shared → Prop) (rest : List Stmt) (L : Addr) (K : Addr) (kv : List Value) (ks : List (Int × Str × Int)) (h₀ : Heap) (g : Heap) (m : Str → Option Value) (Q : Flow → Shared → Prop) (q3 : Option Value) (q4 : Option Value) (q5 : Option Value) (q6 : Option Value) (q7 : Option Value) : Prop := ∀ (KX : (hd.heap_39 w.params).In h₀) (T : Top p loose mean mg mb h₀) (hm : m (Str.ofString "kinds") = some (.ref K)) (S : LS h₀ g L m none none q3 q4 q5 q6 q7 s.heap) (hK : g.IsList K (List.toArray kv)) (hkv : Paired (KindAt g) kv ks) (hkb : KindsB ks) (next : ∀ (g' h' : Heap) (tk' : Nat) (m' : Str → Option Value) (X : Addr) (xs : List Value), LS h₀ g' L m' none none q3 q4 q5 q6 q7 h' → (∀ b o, g.get? b = some o → g'.get? b = some o) → m' (Str.ofString "kinds") = some (.ref K) → m' (Str.ofString "texts") = some (.ref X) → g'.IsList X (List.toArray xs) → Paired (fun v k => TextAt v (kindText k)) xs ks →
      wpAny (model PR w) ((Ar dp un fr gd).deeper (lawEnv w L)) (execs rest (lawEnv w L)) Q E { s with heap := h', toks := tk' }),
  wpAny (model PR w) ((Ar dp un fr gd).deeper (lawEnv w L)) (execs (lawSt w 8 :: rest) (lawEnv w L)) Q E s
abbrev Cx : Type := (World) × (Program) × (List Str) × (ExcName → Option Value) × (Str → Option Value) × (Str → Option Value) × (Shared) × (Nat) × (Nat) × (Option (List Env)) × (Option (List Code)) × (Value → Shared → Prop) × (List Stmt) × (Addr) × (Addr) × (List Value) × (List (Int × Str × Int)) × (Heap) × (Heap) × (Str → Option Value) × (Flow → Shared → Prop) × (Option Value) × (Option Value) × (Option Value) × (Option Value) × (Option Value)
theorem ne : Nonempty Cx := ⟨(aWorld 0, default, [], (fun _ => none), (fun _ => none), (fun _ => none), ({} : Shared), (0 : Nat), (0 : Nat), none, none, (fun _ _ => True), [], (0 : Nat), (0 : Nat), [], [], ({} : Heap), ({} : Heap), (fun _ => none), (fun _ _ => True), none, none, none, none, none)⟩
@[irreducible] noncomputable def bad : Cx := @Classical.epsilon Cx ne fun c => ¬ Pz c.1 c.2.1 c.2.2.1 c.2.2.2.1 c.2.2.2.2.1 c.2.2.2.2.2.1 c.2.2.2.2.2.2.1 c.2.2.2.2.2.2.2.1 c.2.2.2.2.2.2.2.2.1 c.2.2.2.2.2.2.2.2.2.1 c.2.2.2.2.2.2.2.2.2.2.1 c.2.2.2.2.2.2.2.2.2.2.2.1 c.2.2.2.2.2.2.2.2.2.2.2.2.1 c.2.2.2.2.2.2.2.2.2.2.2.2.2.1 c.2.2.2.2.2.2.2.2.2.2.2.2.2.2.1 c.2.2.2.2.2.2.2.2.2.2.2.2.2.2.2.1 c.2.2.2.2.2.2.2.2.2.2.2.2.2.2.2.2.1 c.2.2.2.2.2.2.2.2.2.2.2.2.2.2.2.2.2.1 c.2.2.2.2.2.2.2.2.2.2.2.2.2.2.2.2.2.2.1 c.2.2.2.2.2.2.2.2.2.2.2.2.2.2.2.2.2.2.2.1 c.2.2.2.2.2.2.2.2.2.2.2.2.2.2.2.2.2.2.2.2.1 c.2.2.2.2.2.2.2.2.2.2.2.2.2.2.2.2.2.2.2.2.2.1 c.2.2.2.2.2.2.2.2.2.2.2.2.2.2.2.2.2.2.2.2.2.2.1 c.2.2.2.2.2.2.2.2.2.2.2.2.2.2.2.2.2.2.2.2.2.2.2.1 c.2.2.2.2.2.2.2.2.2.2.2.2.2.2.2.2.2.2.2.2.2.2.2.2.1 c.2.2.2.2.2.2.2.2.2.2.2.2.2.2.2.2.2.2.2.2.2.2.2.2.2
theorem fin (h : Pz bad.1 bad.2.1 bad.2.2.1 bad.2.2.2.1 bad.2.2.2.2.1 bad.2.2.2.2.2.1 bad.2.2.2.2.2.2.1 bad.2.2.2.2.2.2.2.1 bad.2.2.2.2.2.2.2.2.1 bad.2.2.2.2.2.2.2.2.2.1 bad.2.2.2.2.2.2.2.2.2.2.1 bad.2.2.2.2.2.2.2.2.2.2.2.1 bad.2.2.2.2.2.2.2.2.2.2.2.2.1 bad.2.2.2.2.2.2.2.2.2.2.2.2.2.1 bad.2.2.2.2.2.2.2.2.2.2.2.2.2.2.1 bad.2.2.2.2.2.2.2.2.2.2.2.2.2.2.2.1 bad.2.2.2.2.2.2.2.2.2.2.2.2.2.2.2.2.1 bad.2.2.2.2.2.2.2.2.2.2.2.2.2.2.2.2.2.1 bad.2.2.2.2.2.2.2.2.2.2.2.2.2.2.2.2.2.2.1 bad.2.2.2.2.2.2.2.2.2.2.2.2.2.2.2.2.2.2.2.1 bad.2.2.2.2.2.2.2.2.2.2.2.2.2.2.2.2.2.2.2.2.1 bad.2.2.2.2.2.2.2.2.2.2.2.2.2.2.2.2.2.2.2.2.2.1 bad.2.2.2.2.2.2.2.2.2.2.2.2.2.2.2.2.2.2.2.2.2.2.1 bad.2.2.2.2.2.2.2.2.2.2.2.2.2.2.2.2.2.2.2.2.2.2.2.1 bad.2.2.2.2.2.2.2.2.2.2.2.2.2.2.2.2.2.2.2.2.2.2.2.2.1 bad.2.2.2.2.2.2.2.2.2.2.2.2.2.2.2.2.2.2.2.2.2.2.2.2.2) (c : Cx) : Pz c.1 c.2.1 c.2.2.1 c.2.2.2.1 c.2.2.2.2.1 c.2.2.2.2.2.1 c.2.2.2.2.2.2.1 c.2.2.2.2.2.2.2.1 c.2.2.2.2.2.2.2.2.1 c.2.2.2.2.2.2.2.2.2.1 c.2.2.2.2.2.2.2.2.2.2.1 c.2.2.2.2.2.2.2.2.2.2.2.1 c.2.2.2.2.2.2.2.2.2.2.2.2.1 c.2.2.2.2.2.2.2.2.2.2.2.2.2.1 c.2.2.2.2.2.2.2.2.2.2.2.2.2.2.1 c.2.2.2.2.2.2.2.2.2.2.2.2.2.2.2.1 c.2.2.2.2.2.2.2.2.2.2.2.2.2.2.2.2.1 c.2.2.2.2.2.2.2.2.2.2.2.2.2.2.2.2.2.1 c.2.2.2.2.2.2.2.2.2.2.2.2.2.2.2.2.2.2.1 c.2.2.2.2.2.2.2.2.2.2.2.2.2.2.2.2.2.2.2.1 c.2.2.2.2.2.2.2.2.2.2.2.2.2.2.2.2.2.2.2.2.1 c.2.2.2.2.2.2.2.2.2.2.2.2.2.2.2.2.2.2.2.2.2.1 c.2.2.2.2.2.2.2.2.2.2.2.2.2.2.2.2.2.2.2.2.2.2.1 c.2.2.2.2.2.2.2.2.2.2.2.2.2.2.2.2.2.2.2.2.2.2.2.1 c.2.2.2.2.2.2.2.2.2.2.2.2.2.2.2.2.2.2.2.2.2.2.2.2.1 c.2.2.2.2.2.2.2.2.2.2.2.2.2.2.2.2.2.2.2.2.2.2.2.2.2 := by
  delta bad at h
  exact Classical.byContradiction fun q => (@Classical.epsilon_spec Cx (fun c => ¬ Pz c.1 c.2.1 c.2.2.1 c.2.2.2.1 c.2.2.2.2.1 c.2.2.2.2.2.1 c.2.2.2.2.2.2.1 c.2.2.2.2.2.2.2.1 c.2.2.2.2.2.2.2.2.1 c.2.2.2.2.2.2.2.2.2.1 c.2.2.2.2.2.2.2.2.2.2.1 c.2.2.2.2.2.2.2.2.2.2.2.1 c.2.2.2.2.2.2.2.2.2.2.2.2.1 c.2.2.2.2.2.2.2.2.2.2.2.2.2.1 c.2.2.2.2.2.2.2.2.2.2.2.2.2.2.1 c.2.2.2.2.2.2.2.2.2.2.2.2.2.2.2.1 c.2.2.2.2.2.2.2.2.2.2.2.2.2.2.2.2.1 c.2.2.2.2.2.2.2.2.2.2.2.2.2.2.2.2.2.1 c.2.2.2.2.2.2.2.2.2.2.2.2.2.2.2.2.2.2.1 c.2.2.2.2.2.2.2.2.2.2.2.2.2.2.2.2.2.2.2.1 c.2.2.2.2.2.2.2.2.2.2.2.2.2.2.2.2.2.2.2.2.1 c.2.2.2.2.2.2.2.2.2.2.2.2.2.2.2.2.2.2.2.2.2.1 c.2.2.2.2.2.2.2.2.2.2.2.2.2.2.2.2.2.2.2.2.2.2.1 c.2.2.2.2.2.2.2.2.2.2.2.2.2.2.2.2.2.2.2.2.2.2.2.1 c.2.2.2.2.2.2.2.2.2.2.2.2.2.2.2.2.2.2.2.2.2.2.2.2.1 c.2.2.2.2.2.2.2.2.2.2.2.2.2.2.2.2.2.2.2.2.2.2.2.2.2) ⟨c, q⟩) h
noncomputable def w : World := bad.1
noncomputable def p : Program := bad.2.1
noncomputable def loose : List Str := bad.2.2.1
noncomputable def mean : ExcName → Option Value := bad.2.2.2.1
noncomputable def mg : Str → Option Value := bad.2.2.2.2.1
noncomputable def mb : Str → Option Value := bad.2.2.2.2.2.1
noncomputable def s : Shared := bad.2.2.2.2.2.2.1
noncomputable def dp : Nat := bad.2.2.2.2.2.2.2.1
noncomputable def un : Nat := bad.2.2.2.2.2.2.2.2.1
noncomputable def fr : Option (List Env) := bad.2.2.2.2.2.2.2.2.2.1
noncomputable def gd : Option (List Code) := bad.2.2.2.2.2.2.2.2.2.2.1
noncomputable def E : Value → Shared → Prop := bad.2.2.2.2.2.2.2.2.2.2.2.1
noncomputable def rest : List Stmt := bad.2.2.2.2.2.2.2.2.2.2.2.2.1
noncomputable def L : Addr := bad.2.2.2.2.2.2.2.2.2.2.2.2.2.1
noncomputable def K : Addr := bad.2.2.2.2.2.2.2.2.2.2.2.2.2.2.1
noncomputable def kv : List Value := bad.2.2.2.2.2.2.2.2.2.2.2.2.2.2.2.1
noncomputable def ks : List (Int × Str × Int) := bad.2.2.2.2.2.2.2.2.2.2.2.2.2.2.2.2.1
noncomputable def h₀ : Heap := bad.2.2.2.2.2.2.2.2.2.2.2.2.2.2.2.2.2.1
noncomputable def g : Heap := bad.2.2.2.2.2.2.2.2.2.2.2.2.2.2.2.2.2.2.1
noncomputable def m : Str → Option Value := bad.2.2.2.2.2.2.2.2.2.2.2.2.2.2.2.2.2.2.2.1
noncomputable def Q : Flow → Shared → Prop := bad.2.2.2.2.2.2.2.2.2.2.2.2.2.2.2.2.2.2.2.2.1
noncomputable def q3 : Option Value := bad.2.2.2.2.2.2.2.2.2.2.2.2.2.2.2.2.2.2.2.2.2.1
noncomputable def q4 : Option Value := bad.2.2.2.2.2.2.2.2.2.2.2.2.2.2.2.2.2.2.2.2.2.2.1
noncomputable def q5 : Option Value := bad.2.2.2.2.2.2.2.2.2.2.2.2.2.2.2.2.2.2.2.2.2.2.2.1
noncomputable def q6 : Option Value := bad.2.2.2.2.2.2.2.2.2.2.2.2.2.2.2.2.2.2.2.2.2.2.2.2.1
noncomputable def q7 : Option Value := bad.2.2.2.2.2.2.2.2.2.2.2.2.2.2.2.2.2.2.2.2.2.2.2.2.2
theorem at_ (KX : (hd.heap_39 w.params).In h₀) (T : Top p loose mean mg mb h₀) (hm : m (Str.ofString "kinds") = some (.ref K)) (S : LS h₀ g L m none none q3 q4 q5 q6 q7 s.heap) (hK : g.IsList K (List.toArray kv)) (hkv : Paired (KindAt g) kv ks) (hkb : KindsB ks) (next : ∀ (g' h' : Heap) (tk' : Nat) (m' : Str → Option Value) (X : Addr) (xs : List Value), LS h₀ g' L m' none none q3 q4 q5 q6 q7 h' → (∀ b o, g.get? b = some o → g'.get? b = some o) → m' (Str.ofString "kinds") = some (.ref K) → m' (Str.ofString "texts") = some (.ref X) → g'.IsList X (List.toArray xs) → Paired (fun v k => TextAt v (kindText k)) xs ks →
      wpAny (model PR w) ((Ar dp un fr gd).deeper (lawEnv w L)) (execs rest (lawEnv w L)) Q E { s with heap := h', toks := tk' }) :
  wpAny (model PR w) ((Ar dp un fr gd).deeper (lawEnv w L)) (execs (lawSt w 8 :: rest) (lawEnv w L)) Q E s := by
  obtain ⟨o1, o2, o3, o4, o5, o6, o7, objs, N, d1, d2, d3, d4, d5, d6, d7, hg, hob⟩ := S.op
  have F := fr_pin S.F hm
  have up := S.up
  show wpAny _ _ (execs (Stmt.Assign _ _ _ :: rest) (envOfC _ (Scope.mk _ _ _ _ _) _ _ _)) _ _ _
  unfold sev at N
  have hkl := hkv.length
  have hk3 := hkb.1
  walk1
  refine comp_assignT (l := K) (its := kv) (m := m) (fun i v => ∃ k, ks[i]? = some k ∧ TextAt v (kindText k)) (fun _ _ => False) (Bind3 (KG ks) (Str.ofString "ahead") (Str.ofString "core") (Str.ofString "behind")) rfl (by with_unfolding_all rfl) rfl (by decide) rfl (by decide) (by omega) rfl rfl S.F.ns (fun I => casg_three (KG ks) rfl rfl rfl rfl rfl (by decide) (by decide) (by decide) (kinds_tup hkv up)) ?_ ?_ ?_
  · refine wpAny_mono (Q := ListGot _ _ _) ?_ (fun _ _ h => h) (fun _ _ e => e)
    clear S
    k_steps
    exact ⟨rfl, ⟨_, _, rfl, fun _ _ e => e⟩, hK.at fun o e => up _ _ e⟩
  · rintro i C mc hb' trk s₂ hkk ⟨va, vb, vc, ⟨k, t1, t2, t3, hki, rfl, rfl, rfl⟩, ha, hb, hc⟩ F5 N5
    have KX' := (KX.keeps F.keep).keeps hkk
    have T' := (T.keeps F.keep).keeps hkk
    obtain ⟨⟨b1, b2⟩, b3, b4, b5⟩ := hkb.2 k (List.mem_of_getElem? hki)
    have F3 := fr_pin (fr_pin (fr_pin F5 ha) (x := Str.ofString "core") (by with_unfolding_all exact hb)) (x := Str.ofString "behind") (by with_unfolding_all exact hc)
    clear S F F5 N KX T
    k_steps
    rename Fr _ _ _ _ => F4
    rename News _ _ _ _ => N4
    exact elend_v F4 N4 (fun p hp => by first | exact hp | exact .tail _ hp) ⟨k, hki, _, rfl⟩
  · intro D h' tk' ys ents c hyl hye hen hD hDs hns hkp
    obtain ⟨g6, LS4, hgg, hin⟩ := LS.local S hns hkp
    clear F N
    have hL := next g6 h' tk' _ D ys LS4 hgg (by rw [if_neg (by decide)]; exact hm) (by rw [if_pos rfl]) ⟨_, hin _ _ hD hDs, rfl, _, rfl⟩ (paired_of (by omega) fun i y W e1 e2 => by
      rcases hye i y e1 with ⟨W', e3, t, rfl⟩ | ⟨a, o, rfl, hao, q⟩
      · rw [e2] at e3
        cases e3
        exact ⟨t, rfl⟩
      · exact q.elim)
    exact hL
end st_9_c
theorem st_9 {w : World} {p : Program} {loose : List Str} {mean : ExcName → Option Value} {mg : Str → Option Value} {mb : Str → Option Value} {s : Shared} {dp : Nat} {un : Nat} {fr : Option (List Env)} {gd : Option (List Code)} {E : Value → Shared → Prop} {rest : List Stmt} {L K : Addr} {kv : List Value} {ks : List (Int × Str × Int)} {h₀ g : Heap} {m : Str → Option Value} {Q : Flow → Shared → Prop} {q3 q4 q5 q6 q7 : Option Value} (KX : (hd.heap_39 w.params).In h₀) (T : Top p loose mean mg mb h₀)
    (hm : m (Str.ofString "kinds") = some (.ref K)) (S : LS h₀ g L m none none q3 q4 q5 q6 q7 s.heap) (hK : g.IsList K (List.toArray kv)) (hkv : Paired (KindAt g) kv ks) (hkb : KindsB ks)
    (next : ∀ (g' h' : Heap) (tk' : Nat) (m' : Str → Option Value) (X : Addr) (xs : List Value), LS h₀ g' L m' none none q3 q4 q5 q6 q7 h' → (∀ b o, g.get? b = some o → g'.get? b = some o) → m' (Str.ofString "kinds") = some (.ref K) → m' (Str.ofString "texts") = some (.ref X) → g'.IsList X (List.toArray xs) → Paired (fun v k => TextAt v (kindText k)) xs ks →
      wpAny (model PR w) ((Ar dp un fr gd).deeper (lawEnv w L)) (execs rest (lawEnv w L)) Q E { s with heap := h', toks := tk' }) :
    wpAny (model PR w) ((Ar dp un fr gd).deeper (lawEnv w L)) (execs (lawSt w 8 :: rest) (lawEnv w L)) Q E s :=
  st_9_c.fin st_9_c.at_ (w, p, loose, mean, mg, mb, s, dp, un, fr, gd, E, rest, L, K, kv, ks, h₀, g, m, Q, q3, q4, q5, q6, q7) KX T hm S hK hkv hkb next
end
section
section
variable {w : World} {p : Program} {loose : List Str} {mean : ExcName → Option Value} {mg mb : Str → Option Value} {s : Shared} {dp un : Nat} {fr : Option (List Env)} {gd : Option (List Code)} {E : Value → Shared → Prop}
noncomputable def toldText (k : Int × Str × Int) (W : List Str) : Str := textF (formF W).1 (-(formF W).2.2) ((formF W).2.1 - (formF W).2.2) k.1 k.2.1 k.2.2
def FG (Ws : List (List Str)) (i : Nat) (va vb vc : Value) : Prop := ∃ W t1 t2, Ws[i]? = some W ∧ va = .bool (formF W).1 ∧ vb = .int (-(formF W).2.2) t1 ∧ vc = .int ((formF W).2.1 - (formF W).2.2) t2
theorem forms_tup {g h : Heap} {fs : List Value} {Ws : List (List Str)} (hk : Paired (FormAt g) fs Ws) (up : ∀ b o, g.get? b = some o → h.get? b = some o) (i : Nat) (v : Value) (e : fs[i]? = some v) : ∃ T va vb vc, v = .ref T ∧ h.IsTuple T #[va, vb, vc] ∧ FG Ws i va vb vc := by
  obtain ⟨W, hk, D, t1, t2, rfl, hD⟩ := paired_get hk i v e
  exact ⟨D, _, _, _, rfl, ⟨_, up _ _ hD, rfl, _, rfl⟩, W, t1, t2, hk, rfl, rfl, rfl⟩
/-- a row of texts -/
def RowAt (f : List Str → Str) (Ws : List (List Str)) (o : Obj) : Prop := ∃ vs c, o = PySem.W.listOf (List.toArray vs) c ∧ Paired (fun v W => TextAt v (f W)) vs Ws
def RowsAt (g : Heap) (f : Int × Str × Int → List Str → Str) (Ws : List (List Str)) (v : Value) (k : Int × Str × Int) : Prop := ∃ a o, v = .ref a ∧ g.get? a = some o ∧ RowAt (f k) Ws o
def FormsB (Ws : List (List Str)) : Prop := ∀ W ∈ Ws, (0 ≤ -(formF W).2.2 ∧ -(formF W).2.2 ≤ 200) ∧ (0 ≤ (formF W).2.1 - (formF W).2.2 ∧ (formF W).2.1 - (formF W).2.2 ≤ 200)
end
namespace st_10_c
def Pz (w : World) (p : Program) (loose : List Str) (mean : ExcName → Option Value) (mg : Str → Option Value) (mb : Str → Option Value) (s : Shared) (dp : Nat) (un : Nat) (fr : Option (List Env)) (gd : Option (List Code)) (E : Value → Shared → Prop) (rest : List Stmt) (L : Addr) (K : Addr) (X : Addr) (Fd : Addr) (kv : List Value) (fs : List Value) (ks : List (Int × Str × Int)) (Ws : List (List Str)) (h₀ : Heap) (g : Heap) (m : Str → Option Value) (Q : Flow → Shared → Prop) (q3 : Option Value) (q5 : Option Value) (q6 : Option Value) (q7 : Option Value) : Prop := ∀ (KX : (hd.heap_39 w.params).In h₀) (T : Top p loose mean mg mb h₀) (hroom : dp + 20 < recursionLimit) (hm : m (Str.ofString "kinds") = some (.ref K)) (hmx : m (Str.ofString "texts") = some (.ref X)) (S : LS h₀ g L m none none q3 (some (.ref Fd)) q5 q6 q7 s.heap) (hK : g.IsList K (List.toArray kv)) (hkv : Paired (KindAt g) kv ks) (hkb : KindsB ks) (hFd : g.IsList Fd (List.toArray fs)) (hfs : Paired (FormAt g) fs Ws) (hWl : Ws.length ≤ 60) (hfb : FormsB Ws) (next : ∀ (g' h' : Heap) (tk' : Nat) (m' : Str → Option Value) (Y : Addr) (ts : List Value), LS h₀ g' L m' none none q3 (some (.ref Fd)) q5 q6 q7 h' → (∀ b o, g.get? b = some o → g'.get? b = some o) → m' (Str.ofString "texts") = some (.ref X) → m' (Str.ofString "told") = some (.ref Y) → g'.IsList Y (List.toArray ts) → Paired (RowsAt g' toldText Ws) ts ks →
      wpAny (model PR w) ((Ar dp un fr gd).deeper (lawEnv w L)) (execs rest (lawEnv w L)) Q E { s with heap := h', toks := tk' }),
  wpAny (model PR w) ((Ar dp un fr gd).deeper (lawEnv w L)) (execs (lawSt w 9 :: rest) (lawEnv w L)) Q E s
abbrev Cx : Type := (World) × (Program) × (List Str) × (ExcName → Option Value) × (Str → Option Value) × (Str → Option Value) × (Shared) × (Nat) × (Nat) × (Option (List Env)) × (Option (List Code)) × (Value → Shared → Prop) × (List Stmt) × (Addr) × (Addr) × (Addr) × (Addr) × (List Value) × (List Value) × (List (Int × Str × Int)) × (List (List Str)) × (Heap) × (Heap) × (Str → Option Value) × (Flow → Shared → Prop) × (Option Value) × (Option Value) × (Option Value) × (Option Value)
theorem ne : Nonempty Cx := ⟨(aWorld 0, default, [], (fun _ => none), (fun _ => none), (fun _ => none), ({} : Shared), (0 : Nat), (0 : Nat), none, none, (fun _ _ => True), [], (0 : Nat), (0 : Nat), (0 : Nat), (0 : Nat), [], [], [], [], ({} : Heap), ({} : Heap), (fun _ => none), (fun _ _ => True), none, none, none, none)⟩
@[irreducible] noncomputable def bad : Cx := @Classical.epsilon Cx ne fun c => ¬ Pz c.1 c.2.1 c.2.2.1 c.2.2.2.1 c.2.2.2.2.1 c.2.2.2.2.2.1 c.2.2.2.2.2.2.1 c.2.2.2.2.2.2.2.1 c.2.2.2.2.2.2.2.2.1 c.2.2.2.2.2.2.2.2.2.1 c.2.2.2.2.2.2.2.2.2.2.1 c.2.2.2.2.2.2.2.2.2.2.2.1 c.2.2.2.2.2.2.2.2.2.2.2.2.1 c.2.2.2.2.2.2.2.2.2.2.2.2.2.1 c.2.2.2.2.2.2.2.2.2.2.2.2.2.2.1 c.2.2.2.2.2.2.2.2.2.2.2.2.2.2.2.1 c.2.2.2.2.2.2.2.2.2.2.2.2.2.2.2.2.1 c.2.2.2.2.2.2.2.2.2.2.2.2.2.2.2.2.2.1 c.2.2.2.2.2.2.2.2.2.2.2.2.2.2.2.2.2.2.1 c.2.2.2.2.2.2.2.2.2.2.2.2.2.2.2.2.2.2.2.1 c.2.2.2.2.2.2.2.2.2.2.2.2.2.2.2.2.2.2.2.2.1 c.2.2.2.2.2.2.2.2.2.2.2.2.2.2.2.2.2.2.2.2.2.1 c.2.2.2.2.2.2.2.2.2.2.2.2.2.2.2.2.2.2.2.2.2.2.1 c.2.2.2.2.2.2.2.2.2.2.2.2.2.2.2.2.2.2.2.2.2.2.2.1 c.2.2.2.2.2.2.2.2.2.2.2.2.2.2.2.2.2.2.2.2.2.2.2.2.1 c.2.2.2.2.2.2.2.2.2.2.2.2.2.2.2.2.2.2.2.2.2.2.2.2.2.1 c.2.2.2.2.2.2.2.2.2.2.2.2.2.2.2.2.2.2.2.2.2.2.2.2.2.2.1 c.2.2.2.2.2.2.2.2.2.2.2.2.2.2.2.2.2.2.2.2.2.2.2.2.2.2.2.1 c.2.2.2.2.2.2.2.2.2.2.2.2.2.2.2.2.2.2.2.2.2.2.2.2.2.2.2.2
theorem fin (h : Pz bad.1 bad.2.1 bad.2.2.1 bad.2.2.2.1 bad.2.2.2.2.1 bad.2.2.2.2.2.1 bad.2.2.2.2.2.2.1 bad.2.2.2.2.2.2.2.1 bad.2.2.2.2.2.2.2.2.1 bad.2.2.2.2.2.2.2.2.2.1 bad.2.2.2.2.2.2.2.2.2.2.1 bad.2.2.2.2.2.2.2.2.2.2.2.1 bad.2.2.2.2.2.2.2.2.2.2.2.2.1 bad.2.2.2.2.2.2.2.2.2.2.2.2.2.1 bad.2.2.2.2.2.2.2.2.2.2.2.2.2.2.1 bad.2.2.2.2.2.2.2.2.2.2.2.2.2.2.2.1 bad.2.2.2.2.2.2.2.2.2.2.2.2.2.2.2.2.1 bad.2.2.2.2.2.2.2.2.2.2.2.2.2.2.2.2.2.1 bad.2.2.2.2.2.2.2.2.2.2.2.2.2.2.2.2.2.2.1 bad.2.2.2.2.2.2.2.2.2.2.2.2.2.2.2.2.2.2.2.1 bad.2.2.2.2.2.2.2.2.2.2.2.2.2.2.2.2.2.2.2.2.1 bad.2.2.2.2.2.2.2.2.2.2.2.2.2.2.2.2.2.2.2.2.2.1 bad.2.2.2.2.2.2.2.2.2.2.2.2.2.2.2.2.2.2.2.2.2.2.1 bad.2.2.2.2.2.2.2.2.2.2.2.2.2.2.2.2.2.2.2.2.2.2.2.1 bad.2.2.2.2.2.2.2.2.2.2.2.2.2.2.2.2.2.2.2.2.2.2.2.2.1 bad.2.2.2.2.2.2.2.2.2.2.2.2.2.2.2.2.2.2.2.2.2.2.2.2.2.1 bad.2.2.2.2.2.2.2.2.2.2.2.2.2.2.2.2.2.2.2.2.2.2.2.2.2.2.1 bad.2.2.2.2.2.2.2.2.2.2.2.2.2.2.2.2.2.2.2.2.2.2.2.2.2.2.2.1 bad.2.2.2.2.2.2.2.2.2.2.2.2.2.2.2.2.2.2.2.2.2.2.2.2.2.2.2.2) (c : Cx) : Pz c.1 c.2.1 c.2.2.1 c.2.2.2.1 c.2.2.2.2.1 c.2.2.2.2.2.1 c.2.2.2.2.2.2.1 c.2.2.2.2.2.2.2.1 c.2.2.2.2.2.2.2.2.1 c.2.2.2.2.2.2.2.2.2.1 c.2.2.2.2.2.2.2.2.2.2.1 c.2.2.2.2.2.2.2.2.2.2.2.1 c.2.2.2.2.2.2.2.2.2.2.2.2.1 c.2.2.2.2.2.2.2.2.2.2.2.2.2.1 c.2.2.2.2.2.2.2.2.2.2.2.2.2.2.1 c.2.2.2.2.2.2.2.2.2.2.2.2.2.2.2.1 c.2.2.2.2.2.2.2.2.2.2.2.2.2.2.2.2.1 c.2.2.2.2.2.2.2.2.2.2.2.2.2.2.2.2.2.1 c.2.2.2.2.2.2.2.2.2.2.2.2.2.2.2.2.2.2.1 c.2.2.2.2.2.2.2.2.2.2.2.2.2.2.2.2.2.2.2.1 c.2.2.2.2.2.2.2.2.2.2.2.2.2.2.2.2.2.2.2.2.1 c.2.2.2.2.2.2.2.2.2.2.2.2.2.2.2.2.2.2.2.2.2.1 c.2.2.2.2.2.2.2.2.2.2.2.2.2.2.2.2.2.2.2.2.2.2.1 c.2.2.2.2.2.2.2.2.2.2.2.2.2.2.2.2.2.2.2.2.2.2.2.1 c.2.2.2.2.2.2.2.2.2.2.2.2.2.2.2.2.2.2.2.2.2.2.2.2.1 c.2.2.2.2.2.2.2.2.2.2.2.2.2.2.2.2.2.2.2.2.2.2.2.2.2.1 c.2.2.2.2.2.2.2.2.2.2.2.2.2.2.2.2.2.2.2.2.2.2.2.2.2.2.1 c.2.2.2.2.2.2.2.2.2.2.2.2.2.2.2.2.2.2.2.2.2.2.2.2.2.2.2.1 c.2.2.2.2.2.2.2.2.2.2.2.2.2.2.2.2.2.2.2.2.2.2.2.2.2.2.2.2 := by
  delta bad at h
  exact Classical.byContradiction fun q => (@Classical.epsilon_spec Cx (fun c => ¬ Pz c.1 c.2.1 c.2.2.1 c.2.2.2.1 c.2.2.2.2.1 c.2.2.2.2.2.1 c.2.2.2.2.2.2.1 c.2.2.2.2.2.2.2.1 c.2.2.2.2.2.2.2.2.1 c.2.2.2.2.2.2.2.2.2.1 c.2.2.2.2.2.2.2.2.2.2.1 c.2.2.2.2.2.2.2.2.2.2.2.1 c.2.2.2.2.2.2.2.2.2.2.2.2.1 c.2.2.2.2.2.2.2.2.2.2.2.2.2.1 c.2.2.2.2.2.2.2.2.2.2.2.2.2.2.1 c.2.2.2.2.2.2.2.2.2.2.2.2.2.2.2.1 c.2.2.2.2.2.2.2.2.2.2.2.2.2.2.2.2.1 c.2.2.2.2.2.2.2.2.2.2.2.2.2.2.2.2.2.1 c.2.2.2.2.2.2.2.2.2.2.2.2.2.2.2.2.2.2.1 c.2.2.2.2.2.2.2.2.2.2.2.2.2.2.2.2.2.2.2.1 c.2.2.2.2.2.2.2.2.2.2.2.2.2.2.2.2.2.2.2.2.1 c.2.2.2.2.2.2.2.2.2.2.2.2.2.2.2.2.2.2.2.2.2.1 c.2.2.2.2.2.2.2.2.2.2.2.2.2.2.2.2.2.2.2.2.2.2.1 c.2.2.2.2.2.2.2.2.2.2.2.2.2.2.2.2.2.2.2.2.2.2.2.1 c.2.2.2.2.2.2.2.2.2.2.2.2.2.2.2.2.2.2.2.2.2.2.2.2.1 c.2.2.2.2.2.2.2.2.2.2.2.2.2.2.2.2.2.2.2.2.2.2.2.2.2.1 c.2.2.2.2.2.2.2.2.2.2.2.2.2.2.2.2.2.2.2.2.2.2.2.2.2.2.1 c.2.2.2.2.2.2.2.2.2.2.2.2.2.2.2.2.2.2.2.2.2.2.2.2.2.2.2.1 c.2.2.2.2.2.2.2.2.2.2.2.2.2.2.2.2.2.2.2.2.2.2.2.2.2.2.2.2) ⟨c, q⟩) h
noncomputable def w : World := bad.1
noncomputable def p : Program := bad.2.1
noncomputable def loose : List Str := bad.2.2.1
noncomputable def mean : ExcName → Option Value := bad.2.2.2.1
noncomputable def mg : Str → Option Value := bad.2.2.2.2.1
noncomputable def mb : Str → Option Value := bad.2.2.2.2.2.1
noncomputable def s : Shared := bad.2.2.2.2.2.2.1
noncomputable def dp : Nat := bad.2.2.2.2.2.2.2.1
noncomputable def un : Nat := bad.2.2.2.2.2.2.2.2.1
noncomputable def fr : Option (List Env) := bad.2.2.2.2.2.2.2.2.2.1
noncomputable def gd : Option (List Code) := bad.2.2.2.2.2.2.2.2.2.2.1
noncomputable def E : Value → Shared → Prop := bad.2.2.2.2.2.2.2.2.2.2.2.1
noncomputable def rest : List Stmt := bad.2.2.2.2.2.2.2.2.2.2.2.2.1
noncomputable def L : Addr := bad.2.2.2.2.2.2.2.2.2.2.2.2.2.1
noncomputable def K : Addr := bad.2.2.2.2.2.2.2.2.2.2.2.2.2.2.1
noncomputable def X : Addr := bad.2.2.2.2.2.2.2.2.2.2.2.2.2.2.2.1
noncomputable def Fd : Addr := bad.2.2.2.2.2.2.2.2.2.2.2.2.2.2.2.2.1
noncomputable def kv : List Value := bad.2.2.2.2.2.2.2.2.2.2.2.2.2.2.2.2.2.1
noncomputable def fs : List Value := bad.2.2.2.2.2.2.2.2.2.2.2.2.2.2.2.2.2.2.1
noncomputable def ks : List (Int × Str × Int) := bad.2.2.2.2.2.2.2.2.2.2.2.2.2.2.2.2.2.2.2.1
noncomputable def Ws : List (List Str) := bad.2.2.2.2.2.2.2.2.2.2.2.2.2.2.2.2.2.2.2.2.1
noncomputable def h₀ : Heap := bad.2.2.2.2.2.2.2.2.2.2.2.2.2.2.2.2.2.2.2.2.2.1
noncomputable def g : Heap := bad.2.2.2.2.2.2.2.2.2.2.2.2.2.2.2.2.2.2.2.2.2.2.1
noncomputable def m : Str → Option Value := bad.2.2.2.2.2.2.2.2.2.2.2.2.2.2.2.2.2.2.2.2.2.2.2.1
noncomputable def Q : Flow → Shared → Prop := bad.2.2.2.2.2.2.2.2.2.2.2.2.2.2.2.2.2.2.2.2.2.2.2.2.1
noncomputable def q3 : Option Value := bad.2.2.2.2.2.2.2.2.2.2.2.2.2.2.2.2.2.2.2.2.2.2.2.2.2.1
noncomputable def q5 : Option Value := bad.2.2.2.2.2.2.2.2.2.2.2.2.2.2.2.2.2.2.2.2.2.2.2.2.2.2.1
noncomputable def q6 : Option Value := bad.2.2.2.2.2.2.2.2.2.2.2.2.2.2.2.2.2.2.2.2.2.2.2.2.2.2.2.1
noncomputable def q7 : Option Value := bad.2.2.2.2.2.2.2.2.2.2.2.2.2.2.2.2.2.2.2.2.2.2.2.2.2.2.2.2
theorem at_ (KX : (hd.heap_39 w.params).In h₀) (T : Top p loose mean mg mb h₀) (hroom : dp + 20 < recursionLimit) (hm : m (Str.ofString "kinds") = some (.ref K)) (hmx : m (Str.ofString "texts") = some (.ref X)) (S : LS h₀ g L m none none q3 (some (.ref Fd)) q5 q6 q7 s.heap) (hK : g.IsList K (List.toArray kv)) (hkv : Paired (KindAt g) kv ks) (hkb : KindsB ks) (hFd : g.IsList Fd (List.toArray fs)) (hfs : Paired (FormAt g) fs Ws) (hWl : Ws.length ≤ 60) (hfb : FormsB Ws) (next : ∀ (g' h' : Heap) (tk' : Nat) (m' : Str → Option Value) (Y : Addr) (ts : List Value), LS h₀ g' L m' none none q3 (some (.ref Fd)) q5 q6 q7 h' → (∀ b o, g.get? b = some o → g'.get? b = some o) → m' (Str.ofString "texts") = some (.ref X) → m' (Str.ofString "told") = some (.ref Y) → g'.IsList Y (List.toArray ts) → Paired (RowsAt g' toldText Ws) ts ks →
      wpAny (model PR w) ((Ar dp un fr gd).deeper (lawEnv w L)) (execs rest (lawEnv w L)) Q E { s with heap := h', toks := tk' }) :
  wpAny (model PR w) ((Ar dp un fr gd).deeper (lawEnv w L)) (execs (lawSt w 9 :: rest) (lawEnv w L)) Q E s := by
  obtain ⟨o1, o2, o3, o4, o5, o6, o7, objs, N, d1, d2, d3, d4, d5, d6, d7, hg, hob⟩ := S.op
  have F := fr_pin S.F hm
  have up := S.up
  show wpAny _ _ (execs (Stmt.Assign _ _ _ :: rest) (envOfC _ (Scope.mk _ _ _ _ _) _ _ _)) _ _ _
  unfold sev at N
  have hkl := hkv.length
  have hfl := hfs.length
  have hk3 := hkb.1
  walk1
  refine comp_assignX (l := K) (its := kv) (m := m) (fun _ _ => False) (fun i o => ∃ k, ks[i]? = some k ∧ RowAt (toldText k) Ws o) (Cells3 (KG ks)) rfl (by with_unfolding_all rfl) rfl rfl (by decide) (by omega) rfl rfl S.F.ns
    (fun I => casgX_three (KG ks) rfl rfl (fun C => .tail _ (.tail _ (.head _))) (fun C => .tail _ (.head _)) (fun C => .head _) (fun C => rfl) (fun C => rfl) (fun C => rfl) (fun C => rfl) (fun C => rfl) (fun C => rfl) (kinds_tup hkv up)) ?_ ?_ ?_
  · refine wpAny_mono (Q := ListGot _ _ _) ?_ (fun _ _ h => h) (fun _ _ e => e)
    clear S
    k_steps
    exact ⟨rfl, ⟨_, _, rfl, fun _ _ e => e⟩, hK.at fun o e => up _ _ e⟩
  · rintro i C mc hb' trk s₂ hkk ⟨va, vb, vc, ⟨k, t1, t2, t3, hki, rfl, rfl, rfl⟩, ha, hb, hc⟩ F5 N5
    have KX' := (KX.keeps F.keep).keeps hkk
    have T' := (T.keeps F.keep).keeps hkk
    have hcF := hkk _ _ (N.get (.tail _ (.tail _ (.tail _ (.head _)))))
    obtain ⟨⟨b1, b2⟩, b3, b4, b5⟩ := hkb.2 k (List.mem_of_getElem? hki)
    have up2 : ∀ b o, g.get? b = some o → s₂.heap.get? b = some o := fun b o e => F5.keep _ _ (hkk _ _ (up _ _ e))
    clear S F N KX T
    refine comp_listT (l := Fd) (its := fs) (fun i v => ∃ W, Ws[i]? = some W ∧ TextAt v (toldText k W)) (fun _ _ => False) (Bind3 (FG Ws) (Str.ofString "rooted") (Str.ofString "down") (Str.ofString "up")) rfl rfl (by decide) rfl (by decide) (by omega) (fun I => casg_three (FG Ws) rfl rfl rfl rfl rfl (by decide) (by decide) (by decide) (forms_tup hfs up2)) ?_ ?_ ?_
    · refine wpAny_mono (Q := ListGot _ _ _) ?_ (fun _ _ h => h) (fun _ _ e => e)
      k_steps
      exact ⟨rfl, ⟨_, _, rfl, fun _ _ e => e⟩, hFd.at fun o e => up2 _ _ e⟩
    · rintro j C2 mc2 hb2 trk2 s₃ hkk2 ⟨va, vb, vc, ⟨W, t4, t5, hWj, rfl, rfl, rfl⟩, h1, h2, h3⟩ F6 N6
      obtain ⟨oa, ea, da⟩ := ha
      obtain ⟨ob, eb, db⟩ := hb
      obtain ⟨oc, ec, dc⟩ := hc
      have ea2 := hkk2 _ _ ea
      have eb2 := hkk2 _ _ eb
      have ec2 := hkk2 _ _ ec
      have KX2 := (KX'.keeps F5.keep).keeps hkk2
      have T2 := (T'.keeps F5.keep).keeps hkk2
      obtain ⟨hf1, hf2⟩ := hfb W (List.mem_of_getElem? hWj)
      have F7 := fr_pin (fr_pin (fr_pin F6 h1) (x := Str.ofString "down") (by with_unfolding_all exact h2)) (x := Str.ofString "up") (by with_unfolding_all exact h3)
      clear F5 F6 N5 KX' T'
      k_steps
      refine StopC.go ?_
      rename Fr _ _ _ _ => F8
      rename News _ _ _ _ => N8
      refine use_str F8 N8 (text_spec (KX2.keeps F8.keep) (T2.keeps F8.keep) (by walk_at "My room") ⟨b1, by omega⟩ ⟨b4, by omega⟩ hf1 hf2 (by omega)) ?_
      intro t' h' tk' F' N'
      exact elend_v F' N' (fun p hp => by first | exact hp | exact .tail _ hp) ⟨W, hWj, _, rfl⟩
    · intro D h' tk' ys ents c hyl hye hen hD hDs hkp
      obtain ⟨N6, hne6⟩ := news_new F5 N5 (news_up N5 hkp) hD hDs
      exact elend_o (fr_up F5 hkp) N6 (fun p hp => hp) (fun p hp => by
        have e := (N5 p hp).1
        intro q
        rw [q, hDs] at e; cases e) ⟨k, hki, ys, c, rfl, paired_of (by omega) fun i y W e1 e2 => by
          rcases hye i y e1 with ⟨W', e3, t, rfl⟩ | ⟨a, o, rfl, hao, q⟩
          · rw [e2] at e3
            cases e3
            exact ⟨t, rfl⟩
          · exact q.elim⟩
  · intro D h' tk' ys ents c hyl hye hen hD hDs hns hkp
    obtain ⟨g6, LS4, hgg, hin⟩ := LS.local S hns hkp
    clear F N
    refine next g6 h' tk' _ D ys LS4 hgg (by rw [if_neg (by decide)]; exact hmx) (by rw [if_pos rfl]) ⟨_, hin _ _ hD hDs, rfl, _, rfl⟩ (paired_of (by omega) fun i y k e1 e2 => ?_)
    rcases hye i y e1 with q | ⟨a, o, rfl, hao, k', e3, hr⟩
    · exact q.elim
    · rw [e2] at e3
      cases e3
      exact ⟨a, o, rfl, hin _ _ (hen _ hao).1 (hen _ hao).2.1, hr⟩
end st_10_c
theorem st_10 {w : World} {p : Program} {loose : List Str} {mean : ExcName → Option Value} {mg : Str → Option Value} {mb : Str → Option Value} {s : Shared} {dp : Nat} {un : Nat} {fr : Option (List Env)} {gd : Option (List Code)} {E : Value → Shared → Prop} {rest : List Stmt} {L K X Fd : Addr} {kv fs : List Value} {ks : List (Int × Str × Int)} {Ws : List (List Str)} {h₀ g : Heap} {m : Str → Option Value} {Q : Flow → Shared → Prop} {q3 q5 q6 q7 : Option Value} (KX : (hd.heap_39 w.params).In h₀) (T : Top p loose mean mg mb h₀) (hroom : dp + 20 < recursionLimit)
    (hm : m (Str.ofString "kinds") = some (.ref K)) (hmx : m (Str.ofString "texts") = some (.ref X)) (S : LS h₀ g L m none none q3 (some (.ref Fd)) q5 q6 q7 s.heap) (hK : g.IsList K (List.toArray kv)) (hkv : Paired (KindAt g) kv ks) (hkb : KindsB ks)
    (hFd : g.IsList Fd (List.toArray fs)) (hfs : Paired (FormAt g) fs Ws) (hWl : Ws.length ≤ 60) (hfb : FormsB Ws)
    (next : ∀ (g' h' : Heap) (tk' : Nat) (m' : Str → Option Value) (Y : Addr) (ts : List Value), LS h₀ g' L m' none none q3 (some (.ref Fd)) q5 q6 q7 h' → (∀ b o, g.get? b = some o → g'.get? b = some o) → m' (Str.ofString "texts") = some (.ref X) → m' (Str.ofString "told") = some (.ref Y) → g'.IsList Y (List.toArray ts) → Paired (RowsAt g' toldText Ws) ts ks →
      wpAny (model PR w) ((Ar dp un fr gd).deeper (lawEnv w L)) (execs rest (lawEnv w L)) Q E { s with heap := h', toks := tk' }) :
    wpAny (model PR w) ((Ar dp un fr gd).deeper (lawEnv w L)) (execs (lawSt w 9 :: rest) (lawEnv w L)) Q E s :=
  st_10_c.fin st_10_c.at_ (w, p, loose, mean, mg, mb, s, dp, un, fr, gd, E, rest, L, K, X, Fd, kv, fs, ks, Ws, h₀, g, m, Q, q3, q5, q6, q7) KX T hroom hm hmx S hK hkv hkb hFd hfs hWl hfb next
end
section
section
variable {w : World} {p : Program} {loose : List Str} {mean : ExcName → Option Value} {mg mb : Str → Option Value} {s : Shared} {dp un : Nat} {fr : Option (List Env)} {gd : Option (List Code)} {E : Value → Shared → Prop}
open PySem.SeqAt
section
variable {prog : Program} {A : Around}
theorem all_true (n : Nat) : ((List.range n).all fun _ => true) = true := by simp
theorem eqat_text {v u : Value} {x : Str} (h : TextAt v x) (h' : TextAt u x) : EqAt A s v u true := by
  obtain ⟨t, rfl⟩ := h
  obtain ⟨t', rfl⟩ := h'
  have := EqAt.str_str (A := A) (s := s) x t x t'
  rwa [show (x == x) = true from beq_self_eq_true x] at this
theorem lists_true {l b : Addr} {vs us : List Value} (hl : s.heap.IsList l vs.toArray) (hb : s.heap.IsList b us.toArray) (hlen : vs.length = us.length) (hu : A.units + 3 < cLine)
    (he : ∀ (i : Nat) v u, vs[i]? = some v → us[i]? = some u → EqAt A.in1 s v u true) : RcAt A s (.ref l) (.ref b) true := by
  have := RcAt.lists (A := A) (e := fun _ => true) hl hb (by simpa using hlen) (by omega) (fun j h1 h2 => he j _ _ (by simp) (by simp))
  rwa [all_true] at this
theorem eq_true {l b : Addr} {vs us : List Value} {Q : Value → Shared → Prop} (hl : s.heap.IsList l vs.toArray) (hb : s.heap.IsList b us.toArray) (hlen : vs.length = us.length) (hu : A.units + 3 < cLine)
    (he : ∀ (i : Nat) v u, vs[i]? = some v → us[i]? = some u → EqAt A.in1 s v u true) (h : Q (.bool true) s) : wpAny (model prog w) A (compareOp .Eq (.ref l) (.ref b)) Q E s :=
  lists_true hl hb hlen hu he prog w E Q h
theorem refs_true {l b : Addr} {vs us : List Value} (hl : s.heap.IsList l vs.toArray) (hb : s.heap.IsList b us.toArray) (hlen : vs.length = us.length) (hu : A.units + 3 < cLine)
    (he : ∀ (i : Nat) v u, vs[i]? = some v → us[i]? = some u → EqAt A.in1 s v u true) : EqAt A s (.ref l) (.ref b) true := by
  by_cases hne : l = b
  · rw [hne]; exact EqAt.same _
  · exact EqAt.of_refs hne (lists_true hl hb hlen hu he)
theorem rows_true {a b : Addr} {o o' : Obj} {f f' : List Str → Str} {Ws : List (List Str)} (ha : s.heap.get? a = some o) (hb : s.heap.get? b = some o') (h : RowAt f Ws o) (h' : RowAt f' Ws o') (hff : ∀ W ∈ Ws, f W = f' W) (hu : A.units + 3 < cLine) : EqAt A s (.ref a) (.ref b) true := by
  obtain ⟨vs, c, rfl, p⟩ := h
  obtain ⟨us, c', rfl, p'⟩ := h'
  have l1 := p.length
  have l2 := p'.length
  refine refs_true (vs := vs) (us := us) ⟨_, ha, rfl, _, rfl⟩ ⟨_, hb, rfl, _, rfl⟩ (by omega) hu fun i v u e1 e2 => ?_
  obtain ⟨W, hW, t1⟩ := paired_get p i v e1
  obtain ⟨W', hW', t2⟩ := paired_get p' i u e2
  rw [hW] at hW'; cases hW'
  rw [← hff W (List.mem_of_getElem? hW)] at t2
  exact eqat_text t1 t2
theorem pair_eq {a b : Addr} {o o' : Obj} {x0 x1 y0 y1 : Str} {t0 t1 u0 u1 : Tok} {c c' : Nat} (ha : s.heap.get? a = some o) (hb : s.heap.get? b = some o') (h : o = PySem.W.listOf (List.toArray [.str x0 t0, .str x1 t1]) c) (h' : o' = PySem.W.listOf (List.toArray [.str y0 u0, .str y1 u1]) c') (hu : A.units + 3 < cLine) :
    EqAt A s (.ref a) (.ref b) ([x0, x1] == [y0, y1]) := by
  subst h h'
  by_cases hne : a = b
  · subst hne
    rw [ha] at hb
    have e : ([.str x0 t0, .str x1 t1] : List Value) = [.str y0 u0, .str y1 u1] := by
      have := Option.some.inj hb
      simp only [PySem.W.listOf, Obj.mk.injEq, Data.seq.injEq] at this
      simpa using this.2.2.1.1
    simp only [List.cons.injEq, Value.str.injEq, and_true] at e
    rw [e.1.1, e.2.1, beq_self_eq_true]
    exact EqAt.same _
  · refine EqAt.of_refs hne ?_
    have := RcAt.lists (A := A) (s := s) (l := a) (b := b) (items := (List.toArray [.str x0 t0, .str x1 t1])) (items2 := (List.toArray [.str y0 u0, .str y1 u1])) (e := fun j => if j = 0 then x0 == y0 else x1 == y1) ⟨_, ha, rfl, _, rfl⟩ ⟨_, hb, rfl, _, rfl⟩ rfl (by omega) (fun j h1 h2 => by
      have h1' : j < 2 := h1
      rcases Nat.lt_or_ge j 1 with q | q
      · obtain rfl : j = 0 := by omega
        exact EqAt.str_str _ _ _ _
      · obtain rfl : j = 1 := by omega
        exact EqAt.str_str _ _ _ _)
    have e2 : ((List.range (List.toArray [Value.str x0 t0, .str x1 t1]).size).all fun j => if j = 0 then x0 == y0 else x1 == y1) = ([x0, x1] == [y0, y1]) := by
      show ((List.range 2).all _) = _
      simp [List.range, List.range.loop]
    rw [← e2]
    exact this
end
end
end
section
section
variable {w : World} {p : Program} {loose : List Str} {mean : ExcName → Option Value} {mg mb : Str → Option Value} {s : Shared} {dp un : Nat} {fr : Option (List Env)} {gd : Option (List Code)} {E : Value → Shared → Prop}
theorem run_fn2 : Fn2 w p loose mean mg mb 12 171 runF (fun x y => x.length ≤ 80000 ∧ y.length ≤ 1000) :=
  fun _ _ _ _ _ _ _ _ _ _ KX T hr hok => run_spec KX T hr hok.1 hok.2
theorem runs_len : ∀ (ys : List Str) (x : Str), (∀ y ∈ ys, y.length ≤ 17) → (ys.foldl runF x).length ≤ x.length + 39 * ys.length
  | [], x, _ => by simp
  | y :: ys, x, h => by
    have h1 := runs_len ys (runF x y) fun z hz => h z (.tail _ hz)
    have h2 := run_len x y (.inr trivial)
    have h3 := h y (.head _)
    rw [List.foldl_cons, List.length_cons]; omega
theorem runs_ok {ys : List Str} {x : Str} (hx : x.length ≤ 1000) (hn : ys.length ≤ 6) (hy : ∀ y ∈ ys, y.length ≤ 17) (i : Nat) (y : Str) (e : ys[i]? = some y) : ((ys.take i).foldl runF x).length ≤ 80000 ∧ y.length ≤ 1000 := by
  refine ⟨?_, Nat.le_trans (hy y (List.mem_of_getElem? e)) (by decide)⟩
  have h1 := runs_len (ys.take i) x fun z hz => hy z (List.mem_of_mem_take hz)
  have h2 : (ys.take i).length ≤ ys.length := by rw [List.length_take]; omega
  omega
noncomputable def doneText (k : Int × Str × Int) (W : List Str) : Str := W.foldl runF (kindText k)
end
namespace st_11_c
def Pz (w : World) (p : Program) (loose : List Str) (mean : ExcName → Option Value) (mg : Str → Option Value) (mb : Str → Option Value) (s : Shared) (dp : Nat) (un : Nat) (fr : Option (List Env)) (gd : Option (List Code)) (E : Value → Shared → Prop) (rest : List Stmt) (L : Addr) (X : Addr) (Wd : Addr) (us : List Value) (xs : List Value) (ks : List (Int × Str × Int)) (Ws : List (List Str)) (h₀ : Heap) (g : Heap) (m : Str → Option Value) (Q : Flow → Shared → Prop) (q3 : Option Value) (q4 : Option Value) (q6 : Option Value) (q7 : Option Value) : Prop := ∀ (KX : (hd.heap_39 w.params).In h₀) (T : Top p loose mean mg mb h₀) (hroom : dp + 20 < recursionLimit) (hm : m (Str.ofString "texts") = some (.ref X)) (S : LS h₀ g L m none none q3 q4 (some (.ref Wd)) q6 q7 s.heap) (hX : g.IsList X (List.toArray xs)) (hxs : Paired (fun v k => TextAt v (kindText k)) xs ks) (hks : ks.length = 3) (hkl : ∀ k ∈ ks, (kindText k).length ≤ 1000) (hW : g.IsList Wd (List.toArray us)) (hus : Paired (WordAt g) us Ws) (hb : ∀ W ∈ Ws, W.length ≤ 6 ∧ ∀ y ∈ W, y.length ≤ 17) (hl : Ws.length ≤ 60) (next : ∀ (g' h' : Heap) (tk' : Nat) (Y : Addr) (ts : List Value), LS h₀ g' L m none (some (.ref Y)) q3 q4 (some (.ref Wd)) q6 q7 h' → (∀ b o, g.get? b = some o → g'.get? b = some o) → g'.IsList Y (List.toArray ts) → Paired (RowsAt g' doneText Ws) ts ks →
      wpAny (model PR w) ((Ar dp un fr gd).deeper (lawEnv w L)) (execs rest (lawEnv w L)) Q E { s with heap := h', toks := tk' }),
  wpAny (model PR w) ((Ar dp un fr gd).deeper (lawEnv w L)) (execs (lawSt w 10 :: rest) (lawEnv w L)) Q E s
abbrev Cx : Type := (World) × (Program) × (List Str) × (ExcName → Option Value) × (Str → Option Value) × (Str → Option Value) × (Shared) × (Nat) × (Nat) × (Option (List Env)) × (Option (List Code)) × (Value → Shared → Prop) × (List Stmt) × (Addr) × (Addr) × (Addr) × (List Value) × (List Value) × (List (Int × Str × Int)) × (List (List Str)) × (Heap) × (Heap) × (Str → Option Value) × (Flow → Shared → Prop) × (Option Value) × (Option Value) × (Option Value) × (Option Value)
theorem ne : Nonempty Cx := ⟨(aWorld 0, default, [], (fun _ => none), (fun _ => none), (fun _ => none), ({} : Shared), (0 : Nat), (0 : Nat), none, none, (fun _ _ => True), [], (0 : Nat), (0 : Nat), (0 : Nat), [], [], [], [], ({} : Heap), ({} : Heap), (fun _ => none), (fun _ _ => True), none, none, none, none)⟩
@[irreducible] noncomputable def bad : Cx := @Classical.epsilon Cx ne fun c => ¬ Pz c.1 c.2.1 c.2.2.1 c.2.2.2.1 c.2.2.2.2.1 c.2.2.2.2.2.1 c.2.2.2.2.2.2.1 c.2.2.2.2.2.2.2.1 c.2.2.2.2.2.2.2.2.1 c.2.2.2.2.2.2.2.2.2.1 c.2.2.2.2.2.2.2.2.2.2.1 c.2.2.2.2.2.2.2.2.2.2.2.1 c.2.2.2.2.2.2.2.2.2.2.2.2.1 c.2.2.2.2.2.2.2.2.2.2.2.2.2.1 c.2.2.2.2.2.2.2.2.2.2.2.2.2.2.1 c.2.2.2.2.2.2.2.2.2.2.2.2.2.2.2.1 c.2.2.2.2.2.2.2.2.2.2.2.2.2.2.2.2.1 c.2.2.2.2.2.2.2.2.2.2.2.2.2.2.2.2.2.1 c.2.2.2.2.2.2.2.2.2.2.2.2.2.2.2.2.2.2.1 c.2.2.2.2.2.2.2.2.2.2.2.2.2.2.2.2.2.2.2.1 c.2.2.2.2.2.2.2.2.2.2.2.2.2.2.2.2.2.2.2.2.1 c.2.2.2.2.2.2.2.2.2.2.2.2.2.2.2.2.2.2.2.2.2.1 c.2.2.2.2.2.2.2.2.2.2.2.2.2.2.2.2.2.2.2.2.2.2.1 c.2.2.2.2.2.2.2.2.2.2.2.2.2.2.2.2.2.2.2.2.2.2.2.1 c.2.2.2.2.2.2.2.2.2.2.2.2.2.2.2.2.2.2.2.2.2.2.2.2.1 c.2.2.2.2.2.2.2.2.2.2.2.2.2.2.2.2.2.2.2.2.2.2.2.2.2.1 c.2.2.2.2.2.2.2.2.2.2.2.2.2.2.2.2.2.2.2.2.2.2.2.2.2.2.1 c.2.2.2.2.2.2.2.2.2.2.2.2.2.2.2.2.2.2.2.2.2.2.2.2.2.2.2
theorem fin (h : Pz bad.1 bad.2.1 bad.2.2.1 bad.2.2.2.1 bad.2.2.2.2.1 bad.2.2.2.2.2.1 bad.2.2.2.2.2.2.1 bad.2.2.2.2.2.2.2.1 bad.2.2.2.2.2.2.2.2.1 bad.2.2.2.2.2.2.2.2.2.1 bad.2.2.2.2.2.2.2.2.2.2.1 bad.2.2.2.2.2.2.2.2.2.2.2.1 bad.2.2.2.2.2.2.2.2.2.2.2.2.1 bad.2.2.2.2.2.2.2.2.2.2.2.2.2.1 bad.2.2.2.2.2.2.2.2.2.2.2.2.2.2.1 bad.2.2.2.2.2.2.2.2.2.2.2.2.2.2.2.1 bad.2.2.2.2.2.2.2.2.2.2.2.2.2.2.2.2.1 bad.2.2.2.2.2.2.2.2.2.2.2.2.2.2.2.2.2.1 bad.2.2.2.2.2.2.2.2.2.2.2.2.2.2.2.2.2.2.1 bad.2.2.2.2.2.2.2.2.2.2.2.2.2.2.2.2.2.2.2.1 bad.2.2.2.2.2.2.2.2.2.2.2.2.2.2.2.2.2.2.2.2.1 bad.2.2.2.2.2.2.2.2.2.2.2.2.2.2.2.2.2.2.2.2.2.1 bad.2.2.2.2.2.2.2.2.2.2.2.2.2.2.2.2.2.2.2.2.2.2.1 bad.2.2.2.2.2.2.2.2.2.2.2.2.2.2.2.2.2.2.2.2.2.2.2.1 bad.2.2.2.2.2.2.2.2.2.2.2.2.2.2.2.2.2.2.2.2.2.2.2.2.1 bad.2.2.2.2.2.2.2.2.2.2.2.2.2.2.2.2.2.2.2.2.2.2.2.2.2.1 bad.2.2.2.2.2.2.2.2.2.2.2.2.2.2.2.2.2.2.2.2.2.2.2.2.2.2.1 bad.2.2.2.2.2.2.2.2.2.2.2.2.2.2.2.2.2.2.2.2.2.2.2.2.2.2.2) (c : Cx) : Pz c.1 c.2.1 c.2.2.1 c.2.2.2.1 c.2.2.2.2.1 c.2.2.2.2.2.1 c.2.2.2.2.2.2.1 c.2.2.2.2.2.2.2.1 c.2.2.2.2.2.2.2.2.1 c.2.2.2.2.2.2.2.2.2.1 c.2.2.2.2.2.2.2.2.2.2.1 c.2.2.2.2.2.2.2.2.2.2.2.1 c.2.2.2.2.2.2.2.2.2.2.2.2.1 c.2.2.2.2.2.2.2.2.2.2.2.2.2.1 c.2.2.2.2.2.2.2.2.2.2.2.2.2.2.1 c.2.2.2.2.2.2.2.2.2.2.2.2.2.2.2.1 c.2.2.2.2.2.2.2.2.2.2.2.2.2.2.2.2.1 c.2.2.2.2.2.2.2.2.2.2.2.2.2.2.2.2.2.1 c.2.2.2.2.2.2.2.2.2.2.2.2.2.2.2.2.2.2.1 c.2.2.2.2.2.2.2.2.2.2.2.2.2.2.2.2.2.2.2.1 c.2.2.2.2.2.2.2.2.2.2.2.2.2.2.2.2.2.2.2.2.1 c.2.2.2.2.2.2.2.2.2.2.2.2.2.2.2.2.2.2.2.2.2.1 c.2.2.2.2.2.2.2.2.2.2.2.2.2.2.2.2.2.2.2.2.2.2.1 c.2.2.2.2.2.2.2.2.2.2.2.2.2.2.2.2.2.2.2.2.2.2.2.1 c.2.2.2.2.2.2.2.2.2.2.2.2.2.2.2.2.2.2.2.2.2.2.2.2.1 c.2.2.2.2.2.2.2.2.2.2.2.2.2.2.2.2.2.2.2.2.2.2.2.2.2.1 c.2.2.2.2.2.2.2.2.2.2.2.2.2.2.2.2.2.2.2.2.2.2.2.2.2.2.1 c.2.2.2.2.2.2.2.2.2.2.2.2.2.2.2.2.2.2.2.2.2.2.2.2.2.2.2 := by
  delta bad at h
  exact Classical.byContradiction fun q => (@Classical.epsilon_spec Cx (fun c => ¬ Pz c.1 c.2.1 c.2.2.1 c.2.2.2.1 c.2.2.2.2.1 c.2.2.2.2.2.1 c.2.2.2.2.2.2.1 c.2.2.2.2.2.2.2.1 c.2.2.2.2.2.2.2.2.1 c.2.2.2.2.2.2.2.2.2.1 c.2.2.2.2.2.2.2.2.2.2.1 c.2.2.2.2.2.2.2.2.2.2.2.1 c.2.2.2.2.2.2.2.2.2.2.2.2.1 c.2.2.2.2.2.2.2.2.2.2.2.2.2.1 c.2.2.2.2.2.2.2.2.2.2.2.2.2.2.1 c.2.2.2.2.2.2.2.2.2.2.2.2.2.2.2.1 c.2.2.2.2.2.2.2.2.2.2.2.2.2.2.2.2.1 c.2.2.2.2.2.2.2.2.2.2.2.2.2.2.2.2.2.1 c.2.2.2.2.2.2.2.2.2.2.2.2.2.2.2.2.2.2.1 c.2.2.2.2.2.2.2.2.2.2.2.2.2.2.2.2.2.2.2.1 c.2.2.2.2.2.2.2.2.2.2.2.2.2.2.2.2.2.2.2.2.1 c.2.2.2.2.2.2.2.2.2.2.2.2.2.2.2.2.2.2.2.2.2.1 c.2.2.2.2.2.2.2.2.2.2.2.2.2.2.2.2.2.2.2.2.2.2.1 c.2.2.2.2.2.2.2.2.2.2.2.2.2.2.2.2.2.2.2.2.2.2.2.1 c.2.2.2.2.2.2.2.2.2.2.2.2.2.2.2.2.2.2.2.2.2.2.2.2.1 c.2.2.2.2.2.2.2.2.2.2.2.2.2.2.2.2.2.2.2.2.2.2.2.2.2.1 c.2.2.2.2.2.2.2.2.2.2.2.2.2.2.2.2.2.2.2.2.2.2.2.2.2.2.1 c.2.2.2.2.2.2.2.2.2.2.2.2.2.2.2.2.2.2.2.2.2.2.2.2.2.2.2) ⟨c, q⟩) h
noncomputable def w : World := bad.1
noncomputable def p : Program := bad.2.1
noncomputable def loose : List Str := bad.2.2.1
noncomputable def mean : ExcName → Option Value := bad.2.2.2.1
noncomputable def mg : Str → Option Value := bad.2.2.2.2.1
noncomputable def mb : Str → Option Value := bad.2.2.2.2.2.1
noncomputable def s : Shared := bad.2.2.2.2.2.2.1
noncomputable def dp : Nat := bad.2.2.2.2.2.2.2.1
noncomputable def un : Nat := bad.2.2.2.2.2.2.2.2.1
noncomputable def fr : Option (List Env) := bad.2.2.2.2.2.2.2.2.2.1
noncomputable def gd : Option (List Code) := bad.2.2.2.2.2.2.2.2.2.2.1
noncomputable def E : Value → Shared → Prop := bad.2.2.2.2.2.2.2.2.2.2.2.1
noncomputable def rest : List Stmt := bad.2.2.2.2.2.2.2.2.2.2.2.2.1
noncomputable def L : Addr := bad.2.2.2.2.2.2.2.2.2.2.2.2.2.1
noncomputable def X : Addr := bad.2.2.2.2.2.2.2.2.2.2.2.2.2.2.1
noncomputable def Wd : Addr := bad.2.2.2.2.2.2.2.2.2.2.2.2.2.2.2.1
noncomputable def us : List Value := bad.2.2.2.2.2.2.2.2.2.2.2.2.2.2.2.2.1
noncomputable def xs : List Value := bad.2.2.2.2.2.2.2.2.2.2.2.2.2.2.2.2.2.1
noncomputable def ks : List (Int × Str × Int) := bad.2.2.2.2.2.2.2.2.2.2.2.2.2.2.2.2.2.2.1
noncomputable def Ws : List (List Str) := bad.2.2.2.2.2.2.2.2.2.2.2.2.2.2.2.2.2.2.2.1
noncomputable def h₀ : Heap := bad.2.2.2.2.2.2.2.2.2.2.2.2.2.2.2.2.2.2.2.2.1
noncomputable def g : Heap := bad.2.2.2.2.2.2.2.2.2.2.2.2.2.2.2.2.2.2.2.2.2.1
noncomputable def m : Str → Option Value := bad.2.2.2.2.2.2.2.2.2.2.2.2.2.2.2.2.2.2.2.2.2.2.1
noncomputable def Q : Flow → Shared → Prop := bad.2.2.2.2.2.2.2.2.2.2.2.2.2.2.2.2.2.2.2.2.2.2.2.1
noncomputable def q3 : Option Value := bad.2.2.2.2.2.2.2.2.2.2.2.2.2.2.2.2.2.2.2.2.2.2.2.2.1
noncomputable def q4 : Option Value := bad.2.2.2.2.2.2.2.2.2.2.2.2.2.2.2.2.2.2.2.2.2.2.2.2.2.1
noncomputable def q6 : Option Value := bad.2.2.2.2.2.2.2.2.2.2.2.2.2.2.2.2.2.2.2.2.2.2.2.2.2.2.1
noncomputable def q7 : Option Value := bad.2.2.2.2.2.2.2.2.2.2.2.2.2.2.2.2.2.2.2.2.2.2.2.2.2.2.2
theorem at_ (KX : (hd.heap_39 w.params).In h₀) (T : Top p loose mean mg mb h₀) (hroom : dp + 20 < recursionLimit) (hm : m (Str.ofString "texts") = some (.ref X)) (S : LS h₀ g L m none none q3 q4 (some (.ref Wd)) q6 q7 s.heap) (hX : g.IsList X (List.toArray xs)) (hxs : Paired (fun v k => TextAt v (kindText k)) xs ks) (hks : ks.length = 3) (hkl : ∀ k ∈ ks, (kindText k).length ≤ 1000) (hW : g.IsList Wd (List.toArray us)) (hus : Paired (WordAt g) us Ws) (hb : ∀ W ∈ Ws, W.length ≤ 6 ∧ ∀ y ∈ W, y.length ≤ 17) (hl : Ws.length ≤ 60) (next : ∀ (g' h' : Heap) (tk' : Nat) (Y : Addr) (ts : List Value), LS h₀ g' L m none (some (.ref Y)) q3 q4 (some (.ref Wd)) q6 q7 h' → (∀ b o, g.get? b = some o → g'.get? b = some o) → g'.IsList Y (List.toArray ts) → Paired (RowsAt g' doneText Ws) ts ks →
      wpAny (model PR w) ((Ar dp un fr gd).deeper (lawEnv w L)) (execs rest (lawEnv w L)) Q E { s with heap := h', toks := tk' }) :
  wpAny (model PR w) ((Ar dp un fr gd).deeper (lawEnv w L)) (execs (lawSt w 10 :: rest) (lawEnv w L)) Q E s := by
  obtain ⟨o1, o2, o3, o4, o5, o6, o7, objs, N, d1, d2, d3, d4, d5, d6, d7, hg, hob⟩ := S.op
  obtain ⟨n1, n2, n3, n4, n5, n6, n7⟩ := off_cells hob
  have F := fr_pin S.F hm
  have F00 := S.F
  have base := S.base
  have non := S.non
  have up := S.up
  show wpAny _ _ (execs (Stmt.Assign _ _ _ :: rest) (envOfC _ (Scope.mk _ _ _ _ _) _ _ _)) _ _ _
  unfold sev at N
  clear S
  have hul := hus.length
  have hxl := hxs.length
  k_steps
  refine StopC.go ?_
  refine comp_listX (l := X) (its := xs) (fun _ _ => False) (fun i o => ∃ k, ks[i]? = some k ∧ RowAt (doneText k) Ws o) (fun i C h => ∃ v, xs[i]? = some v ∧ h.IsCell (C + 1) (some v)) rfl rfl rfl (by decide) (by omega)
    (fun I => casgX_one rfl (fun C => .head _) (fun C => rfl) (fun C => rfl)) ?_ ?_ ?_
  · refine wpAny_mono (Q := ListGot _ _ _) ?_ (fun _ _ h => h) (fun _ _ e => e)
    clear F00
    k_steps
    exact ⟨rfl, ⟨_, _, rfl, fun _ _ e => e⟩, hX.at fun o e => up _ _ e⟩
  · rintro i C mc hb' trk s₂ hkk ⟨v, hv, ha⟩ F5 N5
    have KX' := (KX.keeps F.keep).keeps hkk
    have T' := (T.keeps F.keep).keeps hkk
    have hcF := hkk _ _ (N.get (.tail _ (.tail _ (.tail _ (.tail _ (.head _))))))
    obtain ⟨k, hki, t0, rfl⟩ := paired_get hxs i v hv
    have hkl1 := hkl k (List.mem_of_getElem? hki)
    have up2 : ∀ b o, g.get? b = some o → s₂.heap.get? b = some o := fun b o e => F5.keep _ _ (hkk _ _ (up _ _ e))
    clear F F00 N KX T
    refine comp_listN (l := Wd) (its := us) (fun i v => ∃ W, Ws[i]? = some W ∧ TextAt v (doneText k W)) (fun _ _ => False) rfl rfl (by decide) rfl (by decide) rfl (by omega) ?_ ?_ ?_
    · refine wpAny_mono (Q := ListGot _ _ _) ?_ (fun _ _ h => h) (fun _ _ e => e)
      k_steps
      exact ⟨rfl, ⟨_, _, rfl, fun _ _ e => e⟩, hW.at fun o e => up2 _ _ e⟩
    · rintro j C2 mc2 hb2 trk2 s₃ hkk2 ⟨v, hv2, h1⟩ F6 N6
      obtain ⟨oa, ea, da⟩ := ha
      have ea2 := hkk2 _ _ ea
      have KX2 := (KX'.keeps F5.keep).keeps hkk2
      have T2 := (T'.keeps F5.keep).keeps hkk2
      obtain ⟨W, hWi, a, vs, rfl, ha2, hvs⟩ := paired_get hus j v hv2
      have ha3 : hb2.IsList a (List.toArray vs) := (ha2.at fun o e => up2 _ _ e).at fun o e => hkk2 _ _ e
      have hbW := hb W (List.mem_of_getElem? hWi)
      have F7 := fr_pin F6 h1
      clear F5 F6 N5 KX' T'
      k_steps
      refine StopC.go ?_
      rename Fr _ _ _ _ => F8
      rename News _ _ _ _ => N8
      refine use_str F8 N8 (reduce_spec (D := 12) run_fn2 (by k_is) (KX2.keeps F8.keep) (T2.keeps F8.keep) (by walk_at "My room") (ha3.at fun o e => F8.keep _ o e) hvs (runs_ok hkl1 hbW.1 hbW.2)) ?_
      intro t' h' tk' F' N'
      exact elend_v F' N' (fun p hp => by first | exact hp | exact .tail _ hp) ⟨W, hWi, _, rfl⟩
    · intro D h' tk' ys ents c hyl hye hen hD hDs hkp
      obtain ⟨N6, hne6⟩ := news_new F5 N5 (news_up N5 hkp) hD hDs
      exact elend_o (fr_up F5 hkp) N6 (fun p hp => hp) (fun p hp => by
        have e := (N5 p hp).1
        intro q
        rw [q, hDs] at e; cases e) ⟨k, hki, ys, c, rfl, paired_of (by omega) fun i y W e1 e2 => by
          rcases hye i y e1 with ⟨W', e3, t, rfl⟩ | ⟨a, o, rfl, hao, q⟩
          · rw [e2] at e3
            cases e3
            exact ⟨t, rfl⟩
          · exact q.elim⟩
  · intro D h' tk' ys ents c hyl hye hen hD hDs hkp
    have F2 := fr_up F00 hkp
    have N2 := news_new F00 N (news_up N hkp) hD hDs
    obtain ⟨N2, hne2⟩ := N2
    simp only [AllNe] at hne2
    obtain ⟨objs2, hN2o, hg2, hob2, hsub⟩ := objs_grow F00 N hkp hg hob (fun p hp => ⟨(hen p hp).1, (hen p hp).2.1⟩)
    have N3 := news_swap (pre := [_, _, _, _, _, _, _, _]) N2 hN2o
    simp only [List.cons_append, List.nil_append] at N3
    obtain ⟨n1, n2, n3, n4, n5, n6, n7⟩ := off_cells hob2
    clear F F00 N N2 hg hob
    k_steps
    rename Fr _ _ _ _ => F4
    rename News _ _ _ _ => N4
    obtain ⟨g6, LS4, hgg, hin, hino⟩ := LS.fin base non hg2 F4 N4 (fun p hp => .tail _ hp) (by assumption) (by assumption) (by assumption) (by assumption) (by assumption) (by assumption) (by assumption)
    have hD4 := N4.get (.head _)
    have q1 : @Ne Nat D L := (N4 _ (.head _)).2.1
    refine next g6 _ _ D ys LS4 hgg ⟨_, hin _ _ hD4 (by walk_at "My nocell"), rfl, _, rfl⟩ (paired_of (by omega) fun i y k e1 e2 => ?_)
    rcases hye i y e1 with q | ⟨a, o, rfl, hao, k', e3, hr⟩
    · exact q.elim
    · rw [e2] at e3
      cases e3
      exact ⟨a, o, rfl, hino _ _ (hsub _ hao) hob2, hr⟩
end st_11_c
theorem st_11 {w : World} {p : Program} {loose : List Str} {mean : ExcName → Option Value} {mg : Str → Option Value} {mb : Str → Option Value} {s : Shared} {dp : Nat} {un : Nat} {fr : Option (List Env)} {gd : Option (List Code)} {E : Value → Shared → Prop} {rest : List Stmt} {L X Wd : Addr} {us xs : List Value} {ks : List (Int × Str × Int)} {Ws : List (List Str)} {h₀ g : Heap} {m : Str → Option Value} {Q : Flow → Shared → Prop} {q3 q4 q6 q7 : Option Value} (KX : (hd.heap_39 w.params).In h₀) (T : Top p loose mean mg mb h₀) (hroom : dp + 20 < recursionLimit)
    (hm : m (Str.ofString "texts") = some (.ref X)) (S : LS h₀ g L m none none q3 q4 (some (.ref Wd)) q6 q7 s.heap) (hX : g.IsList X (List.toArray xs)) (hxs : Paired (fun v k => TextAt v (kindText k)) xs ks) (hks : ks.length = 3) (hkl : ∀ k ∈ ks, (kindText k).length ≤ 1000)
    (hW : g.IsList Wd (List.toArray us)) (hus : Paired (WordAt g) us Ws) (hb : ∀ W ∈ Ws, W.length ≤ 6 ∧ ∀ y ∈ W, y.length ≤ 17) (hl : Ws.length ≤ 60)
    (next : ∀ (g' h' : Heap) (tk' : Nat) (Y : Addr) (ts : List Value), LS h₀ g' L m none (some (.ref Y)) q3 q4 (some (.ref Wd)) q6 q7 h' → (∀ b o, g.get? b = some o → g'.get? b = some o) → g'.IsList Y (List.toArray ts) → Paired (RowsAt g' doneText Ws) ts ks →
      wpAny (model PR w) ((Ar dp un fr gd).deeper (lawEnv w L)) (execs rest (lawEnv w L)) Q E { s with heap := h', toks := tk' }) :
    wpAny (model PR w) ((Ar dp un fr gd).deeper (lawEnv w L)) (execs (lawSt w 10 :: rest) (lawEnv w L)) Q E s :=
  st_11_c.fin st_11_c.at_ (w, p, loose, mean, mg, mb, s, dp, un, fr, gd, E, rest, L, X, Wd, us, xs, ks, Ws, h₀, g, m, Q, q3, q4, q6, q7) KX T hroom hm S hX hxs hks hkl hW hus hb hl next
end
section
local macro_rules | `(tactic| walk_at "call builtin:len") => `(tactic| (refine stopC ?_))
local macro_rules | `(tactic| walk_at "subscriptTail") => `(tactic| (refine stopC ?_))
section
variable {w : World} {p : Program} {loose : List Str} {mean : ExcName → Option Value} {mg mb : Str → Option Value} {s : Shared} {dp un : Nat} {fr : Option (List Env)} {gd : Option (List Code)} {E : Value → Shared → Prop}
/-- the rows of pairs: two texts a word -/
def PairAt (ks : List (Int × Str × Int)) (Ws : List (List Str)) (i : Nat) (o : Obj) : Prop := ∃ W t1 t2 c, Ws[i]? = some W ∧ o = PySem.W.listOf (List.toArray [.str (doneText (ks.getD 0 (0, Str.ofString "", 0)) W) t1, .str (doneText (ks.getD 1 (0, Str.ofString "", 0)) W) t2]) c
end
namespace st_12_c
def Pz (w : World) (p : Program) (loose : List Str) (mean : ExcName → Option Value) (mg : Str → Option Value) (mb : Str → Option Value) (s : Shared) (dp : Nat) (un : Nat) (fr : Option (List Env)) (gd : Option (List Code)) (E : Value → Shared → Prop) (rest : List Stmt) (L : Addr) (Y : Addr) (Wd : Addr) (us : List Value) (ts : List Value) (ks : List (Int × Str × Int)) (Ws : List (List Str)) (h₀ : Heap) (g : Heap) (m : Str → Option Value) (Q : Flow → Shared → Prop) (q3 : Option Value) (q4 : Option Value) (q6 : Option Value) (q7 : Option Value) : Prop := ∀ (KX : (hd.heap_39 w.params).In h₀) (T : Top p loose mean mg mb h₀) (hroom : dp + 20 < recursionLimit) (S : LS h₀ g L m none (some (.ref Y)) q3 q4 (some (.ref Wd)) q6 q7 s.heap) (hks : ks.length = 3) (hW : g.IsList Wd (List.toArray us)) (hus : us.length = Ws.length) (hl : Ws.length ≤ 60) (hY : g.IsList Y (List.toArray ts)) (hts : Paired (RowsAt g doneText Ws) ts ks) (next : ∀ (g' h' : Heap) (tk' : Nat) (Z : Addr) (zs : List Value), LS h₀ g' L m (some (.ref Z)) (some (.ref Y)) q3 q4 (some (.ref Wd)) q6 q7 h' → (∀ b o, g.get? b = some o → g'.get? b = some o) → (∃ c, g'.get? Z = some (PySem.W.listOf (List.toArray zs) c)) → zs.length = Ws.length → (∀ (i : Nat) v, zs[i]? = some v → ∃ a o, v = .ref a ∧ g'.get? a = some o ∧ PairAt ks Ws i o) →
      wpAny (model PR w) ((Ar dp un fr gd).deeper (lawEnv w L)) (execs rest (lawEnv w L)) Q E { s with heap := h', toks := tk' }),
  wpAny (model PR w) ((Ar dp un fr gd).deeper (lawEnv w L)) (execs (lawSt w 11 :: rest) (lawEnv w L)) Q E s
abbrev Cx : Type := (World) × (Program) × (List Str) × (ExcName → Option Value) × (Str → Option Value) × (Str → Option Value) × (Shared) × (Nat) × (Nat) × (Option (List Env)) × (Option (List Code)) × (Value → Shared → Prop) × (List Stmt) × (Addr) × (Addr) × (Addr) × (List Value) × (List Value) × (List (Int × Str × Int)) × (List (List Str)) × (Heap) × (Heap) × (Str → Option Value) × (Flow → Shared → Prop) × (Option Value) × (Option Value) × (Option Value) × (Option Value)
theorem ne : Nonempty Cx := ⟨(aWorld 0, default, [], (fun _ => none), (fun _ => none), (fun _ => none), ({} : Shared), (0 : Nat), (0 : Nat), none, none, (fun _ _ => True), [], (0 : Nat), (0 : Nat), (0 : Nat), [], [], [], [], ({} : Heap), ({} : Heap), (fun _ => none), (fun _ _ => True), none, none, none, none)⟩
@[irreducible] noncomputable def bad : Cx := @Classical.epsilon Cx ne fun c => ¬ Pz c.1 c.2.1 c.2.2.1 c.2.2.2.1 c.2.2.2.2.1 c.2.2.2.2.2.1 c.2.2.2.2.2.2.1 c.2.2.2.2.2.2.2.1 c.2.2.2.2.2.2.2.2.1 c.2.2.2.2.2.2.2.2.2.1 c.2.2.2.2.2.2.2.2.2.2.1 c.2.2.2.2.2.2.2.2.2.2.2.1 c.2.2.2.2.2.2.2.2.2.2.2.2.1 c.2.2.2.2.2.2.2.2.2.2.2.2.2.1 c.2.2.2.2.2.2.2.2.2.2.2.2.2.2.1 c.2.2.2.2.2.2.2.2.2.2.2.2.2.2.2.1 c.2.2.2.2.2.2.2.2.2.2.2.2.2.2.2.2.1 c.2.2.2.2.2.2.2.2.2.2.2.2.2.2.2.2.2.1 c.2.2.2.2.2.2.2.2.2.2.2.2.2.2.2.2.2.2.1 c.2.2.2.2.2.2.2.2.2.2.2.2.2.2.2.2.2.2.2.1 c.2.2.2.2.2.2.2.2.2.2.2.2.2.2.2.2.2.2.2.2.1 c.2.2.2.2.2.2.2.2.2.2.2.2.2.2.2.2.2.2.2.2.2.1 c.2.2.2.2.2.2.2.2.2.2.2.2.2.2.2.2.2.2.2.2.2.2.1 c.2.2.2.2.2.2.2.2.2.2.2.2.2.2.2.2.2.2.2.2.2.2.2.1 c.2.2.2.2.2.2.2.2.2.2.2.2.2.2.2.2.2.2.2.2.2.2.2.2.1 c.2.2.2.2.2.2.2.2.2.2.2.2.2.2.2.2.2.2.2.2.2.2.2.2.2.1 c.2.2.2.2.2.2.2.2.2.2.2.2.2.2.2.2.2.2.2.2.2.2.2.2.2.2.1 c.2.2.2.2.2.2.2.2.2.2.2.2.2.2.2.2.2.2.2.2.2.2.2.2.2.2.2
theorem fin (h : Pz bad.1 bad.2.1 bad.2.2.1 bad.2.2.2.1 bad.2.2.2.2.1 bad.2.2.2.2.2.1 bad.2.2.2.2.2.2.1 bad.2.2.2.2.2.2.2.1 bad.2.2.2.2.2.2.2.2.1 bad.2.2.2.2.2.2.2.2.2.1 bad.2.2.2.2.2.2.2.2.2.2.1 bad.2.2.2.2.2.2.2.2.2.2.2.1 bad.2.2.2.2.2.2.2.2.2.2.2.2.1 bad.2.2.2.2.2.2.2.2.2.2.2.2.2.1 bad.2.2.2.2.2.2.2.2.2.2.2.2.2.2.1 bad.2.2.2.2.2.2.2.2.2.2.2.2.2.2.2.1 bad.2.2.2.2.2.2.2.2.2.2.2.2.2.2.2.2.1 bad.2.2.2.2.2.2.2.2.2.2.2.2.2.2.2.2.2.1 bad.2.2.2.2.2.2.2.2.2.2.2.2.2.2.2.2.2.2.1 bad.2.2.2.2.2.2.2.2.2.2.2.2.2.2.2.2.2.2.2.1 bad.2.2.2.2.2.2.2.2.2.2.2.2.2.2.2.2.2.2.2.2.1 bad.2.2.2.2.2.2.2.2.2.2.2.2.2.2.2.2.2.2.2.2.2.1 bad.2.2.2.2.2.2.2.2.2.2.2.2.2.2.2.2.2.2.2.2.2.2.1 bad.2.2.2.2.2.2.2.2.2.2.2.2.2.2.2.2.2.2.2.2.2.2.2.1 bad.2.2.2.2.2.2.2.2.2.2.2.2.2.2.2.2.2.2.2.2.2.2.2.2.1 bad.2.2.2.2.2.2.2.2.2.2.2.2.2.2.2.2.2.2.2.2.2.2.2.2.2.1 bad.2.2.2.2.2.2.2.2.2.2.2.2.2.2.2.2.2.2.2.2.2.2.2.2.2.2.1 bad.2.2.2.2.2.2.2.2.2.2.2.2.2.2.2.2.2.2.2.2.2.2.2.2.2.2.2) (c : Cx) : Pz c.1 c.2.1 c.2.2.1 c.2.2.2.1 c.2.2.2.2.1 c.2.2.2.2.2.1 c.2.2.2.2.2.2.1 c.2.2.2.2.2.2.2.1 c.2.2.2.2.2.2.2.2.1 c.2.2.2.2.2.2.2.2.2.1 c.2.2.2.2.2.2.2.2.2.2.1 c.2.2.2.2.2.2.2.2.2.2.2.1 c.2.2.2.2.2.2.2.2.2.2.2.2.1 c.2.2.2.2.2.2.2.2.2.2.2.2.2.1 c.2.2.2.2.2.2.2.2.2.2.2.2.2.2.1 c.2.2.2.2.2.2.2.2.2.2.2.2.2.2.2.1 c.2.2.2.2.2.2.2.2.2.2.2.2.2.2.2.2.1 c.2.2.2.2.2.2.2.2.2.2.2.2.2.2.2.2.2.1 c.2.2.2.2.2.2.2.2.2.2.2.2.2.2.2.2.2.2.1 c.2.2.2.2.2.2.2.2.2.2.2.2.2.2.2.2.2.2.2.1 c.2.2.2.2.2.2.2.2.2.2.2.2.2.2.2.2.2.2.2.2.1 c.2.2.2.2.2.2.2.2.2.2.2.2.2.2.2.2.2.2.2.2.2.1 c.2.2.2.2.2.2.2.2.2.2.2.2.2.2.2.2.2.2.2.2.2.2.1 c.2.2.2.2.2.2.2.2.2.2.2.2.2.2.2.2.2.2.2.2.2.2.2.1 c.2.2.2.2.2.2.2.2.2.2.2.2.2.2.2.2.2.2.2.2.2.2.2.2.1 c.2.2.2.2.2.2.2.2.2.2.2.2.2.2.2.2.2.2.2.2.2.2.2.2.2.1 c.2.2.2.2.2.2.2.2.2.2.2.2.2.2.2.2.2.2.2.2.2.2.2.2.2.2.1 c.2.2.2.2.2.2.2.2.2.2.2.2.2.2.2.2.2.2.2.2.2.2.2.2.2.2.2 := by
  delta bad at h
  exact Classical.byContradiction fun q => (@Classical.epsilon_spec Cx (fun c => ¬ Pz c.1 c.2.1 c.2.2.1 c.2.2.2.1 c.2.2.2.2.1 c.2.2.2.2.2.1 c.2.2.2.2.2.2.1 c.2.2.2.2.2.2.2.1 c.2.2.2.2.2.2.2.2.1 c.2.2.2.2.2.2.2.2.2.1 c.2.2.2.2.2.2.2.2.2.2.1 c.2.2.2.2.2.2.2.2.2.2.2.1 c.2.2.2.2.2.2.2.2.2.2.2.2.1 c.2.2.2.2.2.2.2.2.2.2.2.2.2.1 c.2.2.2.2.2.2.2.2.2.2.2.2.2.2.1 c.2.2.2.2.2.2.2.2.2.2.2.2.2.2.2.1 c.2.2.2.2.2.2.2.2.2.2.2.2.2.2.2.2.1 c.2.2.2.2.2.2.2.2.2.2.2.2.2.2.2.2.2.1 c.2.2.2.2.2.2.2.2.2.2.2.2.2.2.2.2.2.2.1 c.2.2.2.2.2.2.2.2.2.2.2.2.2.2.2.2.2.2.2.1 c.2.2.2.2.2.2.2.2.2.2.2.2.2.2.2.2.2.2.2.2.1 c.2.2.2.2.2.2.2.2.2.2.2.2.2.2.2.2.2.2.2.2.2.1 c.2.2.2.2.2.2.2.2.2.2.2.2.2.2.2.2.2.2.2.2.2.2.1 c.2.2.2.2.2.2.2.2.2.2.2.2.2.2.2.2.2.2.2.2.2.2.2.1 c.2.2.2.2.2.2.2.2.2.2.2.2.2.2.2.2.2.2.2.2.2.2.2.2.1 c.2.2.2.2.2.2.2.2.2.2.2.2.2.2.2.2.2.2.2.2.2.2.2.2.2.1 c.2.2.2.2.2.2.2.2.2.2.2.2.2.2.2.2.2.2.2.2.2.2.2.2.2.2.1 c.2.2.2.2.2.2.2.2.2.2.2.2.2.2.2.2.2.2.2.2.2.2.2.2.2.2.2) ⟨c, q⟩) h
noncomputable def w : World := bad.1
noncomputable def p : Program := bad.2.1
noncomputable def loose : List Str := bad.2.2.1
noncomputable def mean : ExcName → Option Value := bad.2.2.2.1
noncomputable def mg : Str → Option Value := bad.2.2.2.2.1
noncomputable def mb : Str → Option Value := bad.2.2.2.2.2.1
noncomputable def s : Shared := bad.2.2.2.2.2.2.1
noncomputable def dp : Nat := bad.2.2.2.2.2.2.2.1
noncomputable def un : Nat := bad.2.2.2.2.2.2.2.2.1
noncomputable def fr : Option (List Env) := bad.2.2.2.2.2.2.2.2.2.1
noncomputable def gd : Option (List Code) := bad.2.2.2.2.2.2.2.2.2.2.1
noncomputable def E : Value → Shared → Prop := bad.2.2.2.2.2.2.2.2.2.2.2.1
noncomputable def rest : List Stmt := bad.2.2.2.2.2.2.2.2.2.2.2.2.1
noncomputable def L : Addr := bad.2.2.2.2.2.2.2.2.2.2.2.2.2.1
noncomputable def Y : Addr := bad.2.2.2.2.2.2.2.2.2.2.2.2.2.2.1
noncomputable def Wd : Addr := bad.2.2.2.2.2.2.2.2.2.2.2.2.2.2.2.1
noncomputable def us : List Value := bad.2.2.2.2.2.2.2.2.2.2.2.2.2.2.2.2.1
noncomputable def ts : List Value := bad.2.2.2.2.2.2.2.2.2.2.2.2.2.2.2.2.2.1
noncomputable def ks : List (Int × Str × Int) := bad.2.2.2.2.2.2.2.2.2.2.2.2.2.2.2.2.2.2.1
noncomputable def Ws : List (List Str) := bad.2.2.2.2.2.2.2.2.2.2.2.2.2.2.2.2.2.2.2.1
noncomputable def h₀ : Heap := bad.2.2.2.2.2.2.2.2.2.2.2.2.2.2.2.2.2.2.2.2.1
noncomputable def g : Heap := bad.2.2.2.2.2.2.2.2.2.2.2.2.2.2.2.2.2.2.2.2.2.1
noncomputable def m : Str → Option Value := bad.2.2.2.2.2.2.2.2.2.2.2.2.2.2.2.2.2.2.2.2.2.2.1
noncomputable def Q : Flow → Shared → Prop := bad.2.2.2.2.2.2.2.2.2.2.2.2.2.2.2.2.2.2.2.2.2.2.2.1
noncomputable def q3 : Option Value := bad.2.2.2.2.2.2.2.2.2.2.2.2.2.2.2.2.2.2.2.2.2.2.2.2.1
noncomputable def q4 : Option Value := bad.2.2.2.2.2.2.2.2.2.2.2.2.2.2.2.2.2.2.2.2.2.2.2.2.2.1
noncomputable def q6 : Option Value := bad.2.2.2.2.2.2.2.2.2.2.2.2.2.2.2.2.2.2.2.2.2.2.2.2.2.2.1
noncomputable def q7 : Option Value := bad.2.2.2.2.2.2.2.2.2.2.2.2.2.2.2.2.2.2.2.2.2.2.2.2.2.2.2
theorem at_ (KX : (hd.heap_39 w.params).In h₀) (T : Top p loose mean mg mb h₀) (hroom : dp + 20 < recursionLimit) (S : LS h₀ g L m none (some (.ref Y)) q3 q4 (some (.ref Wd)) q6 q7 s.heap) (hks : ks.length = 3) (hW : g.IsList Wd (List.toArray us)) (hus : us.length = Ws.length) (hl : Ws.length ≤ 60) (hY : g.IsList Y (List.toArray ts)) (hts : Paired (RowsAt g doneText Ws) ts ks) (next : ∀ (g' h' : Heap) (tk' : Nat) (Z : Addr) (zs : List Value), LS h₀ g' L m (some (.ref Z)) (some (.ref Y)) q3 q4 (some (.ref Wd)) q6 q7 h' → (∀ b o, g.get? b = some o → g'.get? b = some o) → (∃ c, g'.get? Z = some (PySem.W.listOf (List.toArray zs) c)) → zs.length = Ws.length → (∀ (i : Nat) v, zs[i]? = some v → ∃ a o, v = .ref a ∧ g'.get? a = some o ∧ PairAt ks Ws i o) →
      wpAny (model PR w) ((Ar dp un fr gd).deeper (lawEnv w L)) (execs rest (lawEnv w L)) Q E { s with heap := h', toks := tk' }) :
  wpAny (model PR w) ((Ar dp un fr gd).deeper (lawEnv w L)) (execs (lawSt w 11 :: rest) (lawEnv w L)) Q E s := by
  obtain ⟨o1, o2, o3, o4, o5, o6, o7, objs, N, d1, d2, d3, d4, d5, d6, d7, hg, hob⟩ := S.op
  obtain ⟨n1, n2, n3, n4, n5, n6, n7⟩ := off_cells hob
  have F := S.F
  have base := S.base
  have non := S.non
  have up := S.up
  show wpAny _ _ (execs (Stmt.Assign _ _ _ :: rest) (envOfC _ (Scope.mk _ _ _ _ _) _ _ _)) _ _ _
  unfold sev at N
  clear S
  have htl := hts.length
  k_steps
  refine StopC.go ?_
  refine comp_range (a := 0) (b := ((us.length : Nat) : Int)) (n := us.length) (fun _ _ => False) (PairAt ks Ws) rfl rfl (by decide) rfl (by decide) rfl (by omega) (range_facts3 ⟨us.length, by omega⟩).1 (range_facts3 ⟨us.length, by omega⟩).2 ?_ ?_ ?_
  · refine wpAny_mono (Q := RangeGot _ _ _) ?_ (fun _ _ h => h) (fun _ _ e => e)
    k_steps
    refine StopC.go ?_
    refine Calls.call_len_list (hW.at fun o e => up _ _ e) (by rw [List.size_toArray]; omega) ?_
    rw [List.size_toArray]
    k_steps
    exact ⟨_, _, _, _, rfl, ⟨_, _, rfl, by assumption⟩, by assumption⟩
  · rintro i C mc hb' trk s₂ hkk ⟨v, ⟨hi, t, rfl⟩, hx⟩ F5 N5
    rw [Int.zero_add] at hx
    have KX' := (KX.keeps F.keep).keeps hkk
    have T' := (T.keeps F.keep).keeps hkk
    have hcF := hkk _ _ (N.get (.tail _ (.head _)))
    have up2 : ∀ b o, g.get? b = some o → s₂.heap.get? b = some o := fun b o e => F5.keep _ _ (hkk _ _ (up _ _ e))
    have F3 := fr_pin F5 hx
    clear F F5 N KX T
    have row : ∀ j, j < 3 → ∃ k a vs c, ks.getD j (0, Str.ofString "", 0) = k ∧ ts[j]? = some (.ref a) ∧ g.get? a = some (PySem.W.listOf (List.toArray vs) c) ∧ Paired (fun v W => TextAt v (doneText k W)) vs Ws := by
      intro j hj
      have hv : ts[j]? = some (ts[j]'(by omega)) := List.getElem?_eq_getElem _
      obtain ⟨k, hk, a, o, e1, e2, vs, c, rfl, e3⟩ := paired_get hts j _ hv
      exact ⟨k, a, vs, c, by rw [List.getD_eq_getElem?_getD, hk]; rfl, by rw [hv, e1], e2, e3⟩
    obtain ⟨k0, a0, v0, c0, hk0, ht0, ha0, hp0⟩ := row 0 (by omega)
    obtain ⟨k1, a1, v1, c1, hk1, ht1, ha1, hp1⟩ := row 1 (by omega)
    have hl0 := hp0.length
    have hl1 := hp1.length
    have hi0 : v0[i]? = some (v0[i]'(by omega)) := List.getElem?_eq_getElem _
    have hi1 : v1[i]? = some (v1[i]'(by omega)) := List.getElem?_eq_getElem _
    obtain ⟨W, hWi, x0, e0⟩ := paired_get hp0 i _ hi0
    obtain ⟨W', hWi', x1, e1⟩ := paired_get hp1 i _ hi1
    rw [hWi] at hWi'; cases hWi'
    rw [e0] at hi0
    rw [e1] at hi1
    k_steps
    refine StopC.go ?_
    refine my_item (k := 0) (hY.at fun o e => up2 _ _ e) ht0 (by omega) ?_
    k_steps
    refine StopC.go ?_
    refine my_item (k := i) ⟨_, up2 _ _ ha0, rfl, _, rfl⟩ hi0 (by omega) ?_
    k_steps
    refine StopC.go ?_
    refine my_item (k := 1) (hY.at fun o e => up2 _ _ e) ht1 (by omega) ?_
    k_steps
    refine StopC.go ?_
    refine my_item (k := i) ⟨_, up2 _ _ ha1, rfl, _, rfl⟩ hi1 (by omega) ?_
    k_steps
    rename Fr _ _ _ _ => F8
    rename News _ _ _ _ => N8
    refine elend_o F8 N8 (fun p hp => hp) (fun p hp => ?_) ⟨W, x0, x1, 0, hWi, by rw [hk0, hk1]⟩
    rename ∀ p ∈ trk, p.1 < _ => l8
    exact Nat.ne_of_lt (l8 p hp)
  · intro D h' tk' ys ents c hyl hye hen hD hDs hkp
    have F2 := fr_up F hkp
    have N2 := news_new F N (news_up N hkp) hD hDs
    obtain ⟨N2, hne2⟩ := N2
    simp only [AllNe] at hne2
    obtain ⟨objs2, hN2o, hg2, hob2, hsub⟩ := objs_grow F N hkp hg hob (fun p hp => ⟨(hen p hp).1, (hen p hp).2.1⟩)
    have N3 := news_swap (pre := [_, _, _, _, _, _, _, _]) N2 hN2o
    simp only [List.cons_append, List.nil_append] at N3
    obtain ⟨n1, n2, n3, n4, n5, n6, n7⟩ := off_cells hob2
    clear F N N2 hg hob
    k_steps
    rename Fr _ _ _ _ => F4
    rename News _ _ _ _ => N4
    obtain ⟨g6, LS4, hgg, hin, hino⟩ := LS.fin base non hg2 F4 N4 (fun p hp => .tail _ hp) (by assumption) (by assumption) (by assumption) (by assumption) (by assumption) (by assumption) (by assumption)
    have hD4 := N4.get (.head _)
    have q1 : @Ne Nat D L := (N4 _ (.head _)).2.1
    refine next g6 _ _ D ys LS4 hgg ⟨_, hin _ _ hD4 (by walk_at "My nocell")⟩ (by omega) (fun i v e1 => ?_)
    rcases hye i v e1 with q | ⟨a, o, rfl, hao, hr⟩
    · exact q.elim
    · exact ⟨a, o, rfl, hino _ _ (hsub _ hao) hob2, hr⟩
end st_12_c
theorem st_12 {w : World} {p : Program} {loose : List Str} {mean : ExcName → Option Value} {mg : Str → Option Value} {mb : Str → Option Value} {s : Shared} {dp : Nat} {un : Nat} {fr : Option (List Env)} {gd : Option (List Code)} {E : Value → Shared → Prop} {rest : List Stmt} {L Y Wd : Addr} {us ts : List Value} {ks : List (Int × Str × Int)} {Ws : List (List Str)} {h₀ g : Heap} {m : Str → Option Value} {Q : Flow → Shared → Prop} {q3 q4 q6 q7 : Option Value} (KX : (hd.heap_39 w.params).In h₀) (T : Top p loose mean mg mb h₀) (hroom : dp + 20 < recursionLimit)
    (S : LS h₀ g L m none (some (.ref Y)) q3 q4 (some (.ref Wd)) q6 q7 s.heap) (hks : ks.length = 3)
    (hW : g.IsList Wd (List.toArray us)) (hus : us.length = Ws.length) (hl : Ws.length ≤ 60) (hY : g.IsList Y (List.toArray ts)) (hts : Paired (RowsAt g doneText Ws) ts ks)
    (next : ∀ (g' h' : Heap) (tk' : Nat) (Z : Addr) (zs : List Value), LS h₀ g' L m (some (.ref Z)) (some (.ref Y)) q3 q4 (some (.ref Wd)) q6 q7 h' → (∀ b o, g.get? b = some o → g'.get? b = some o) → (∃ c, g'.get? Z = some (PySem.W.listOf (List.toArray zs) c)) → zs.length = Ws.length → (∀ (i : Nat) v, zs[i]? = some v → ∃ a o, v = .ref a ∧ g'.get? a = some o ∧ PairAt ks Ws i o) →
      wpAny (model PR w) ((Ar dp un fr gd).deeper (lawEnv w L)) (execs rest (lawEnv w L)) Q E { s with heap := h', toks := tk' }) :
    wpAny (model PR w) ((Ar dp un fr gd).deeper (lawEnv w L)) (execs (lawSt w 11 :: rest) (lawEnv w L)) Q E s :=
  st_12_c.fin st_12_c.at_ (w, p, loose, mean, mg, mb, s, dp, un, fr, gd, E, rest, L, Y, Wd, us, ts, ks, Ws, h₀, g, m, Q, q3, q4, q6, q7) KX T hroom S hks hW hus hl hY hts next
end
section
local macro_rules | `(tactic| walk_at "compareOp Eq ref ref") => `(tactic| (refine stopC ?_))
local macro_rules | `(tactic| walk_at "call builtin:list.index") => `(tactic| (refine stopC ?_))
local macro_rules | `(tactic| walk_at "getMethod ref") => `(tactic| (refine stopC ?_))
section
variable {w : World} {p : Program} {loose : List Str} {mean : ExcName → Option Value} {mg mb : Str → Option Value} {s : Shared} {dp un : Nat} {fr : Option (List Env)} {gd : Option (List Code)} {E : Value → Shared → Prop}
theorem key_ref {h : Heap} {a : Addr} {vs : List Value} {c : Nat} (e : h.get? a = some (PySem.W.listOf (List.toArray vs) c)) : keyOf h (.ref a) = vs.map strOf := by
  show (match h.get? a with | some o => (match o.data with | .seq its _ => its.toList.map strOf | _ => []) | none => []) = _
  rw [e]
end
namespace st_13_c
def Pz (w : World) (p : Program) (loose : List Str) (mean : ExcName → Option Value) (mg : Str → Option Value) (mb : Str → Option Value) (s : Shared) (dp : Nat) (un : Nat) (fr : Option (List Env)) (gd : Option (List Code)) (E : Value → Shared → Prop) (L : Addr) (X : Addr) (Y : Addr) (Z : Addr) (Dn : Addr) (Fd : Addr) (Sd : Addr) (xs : List Value) (ts : List Value) (ds : List Value) (zs : List Value) (fs : List Value) (ss : List Value) (ks : List (Int × Str × Int)) (Ws : List (List Str)) (h₀ : Heap) (g : Heap) (m : Str → Option Value) (Q : Flow → Shared → Prop) (q5 : Option Value) (q6 : Option Value) (q7 : Option Value) : Prop := ∀ (KX : (hd.heap_39 w.params).In h₀) (T : Top p loose mean mg mb h₀) (hroom : dp + 20 < recursionLimit) (hun : un + 20 < cLine) (hmx : m (Str.ofString "texts") = some (.ref X)) (hmt : m (Str.ofString "told") = some (.ref Y)) (S : LS h₀ g L m (some (.ref Z)) (some (.ref Dn)) (some (.ref Sd)) (some (.ref Fd)) q5 q6 q7 s.heap) (hks : ks.length = 3) (hkl : ∀ k ∈ ks, (kindText k).length ≤ 1000) (hl : Ws.length ≤ 60) (hX : g.IsList X (List.toArray xs)) (hxs : Paired (fun v k => TextAt v (kindText k)) xs ks) (hFd : g.IsList Fd (List.toArray fs)) (hfs : Paired (FormAt g) fs Ws) (hfb : FormsB Ws) (hSo : ∃ c, g.get? Sd = some (PySem.W.listOf (List.toArray ss) c)) (hss : Paired (fun v W => TextAt v (pathW W)) ss Ws) (hpw : ∀ W ∈ Ws, (pathW W).length ≤ 1000) (hY : g.IsList Y (List.toArray ts)) (hts : Paired (RowsAt g toldText Ws) ts ks) (hDn : g.IsList Dn (List.toArray ds)) (hds : Paired (RowsAt g doneText Ws) ds ks) (hZo : ∃ c, g.get? Z = some (PySem.W.listOf (List.toArray zs) c)) (hzl : zs.length = Ws.length) (hzs : ∀ (i : Nat) v, zs[i]? = some v → ∃ a o, v = .ref a ∧ g.get? a = some o ∧ PairAt ks Ws i o) (law1 : ∀ W ∈ Ws, pathW W = pathF (formF W).1 (-(formF W).2.2) ((formF W).2.1 - (formF W).2.2)) (law2 : ∀ k ∈ ks, ∀ W ∈ Ws, doneText k W = toldText k W) (law3 : ∀ k ∈ ks, ∀ W ∈ Ws, runF (kindText k) (pathW W) = toldText k W) (law4 : ∀ W ∈ Ws, (Ws.map fun W => [pathW W]).idxOf [pathW W] = (Ws.map fun W => [doneText (ks.getD 0 (0, Str.ofString "", 0)) W, doneText (ks.getD 1 (0, Str.ofString "", 0)) W]).idxOf [doneText (ks.getD 0 (0, Str.ofString "", 0)) W, doneText (ks.getD 1 (0, Str.ofString "", 0)) W]) (next : ∀ h' tk', (∀ b o, h₀.get? b = some o → h'.get? b = some o) → Q (.ret (.bool true)) { s with heap := h', toks := tk' }),
  wpAny (model PR w) ((Ar dp un fr gd).deeper (lawEnv w L)) (execs (lawSt w 12 :: []) (lawEnv w L)) Q E s
abbrev Cx : Type := (World) × (Program) × (List Str) × (ExcName → Option Value) × (Str → Option Value) × (Str → Option Value) × (Shared) × (Nat) × (Nat) × (Option (List Env)) × (Option (List Code)) × (Value → Shared → Prop) × (Addr) × (Addr) × (Addr) × (Addr) × (Addr) × (Addr) × (Addr) × (List Value) × (List Value) × (List Value) × (List Value) × (List Value) × (List Value) × (List (Int × Str × Int)) × (List (List Str)) × (Heap) × (Heap) × (Str → Option Value) × (Flow → Shared → Prop) × (Option Value) × (Option Value) × (Option Value)
theorem ne : Nonempty Cx := ⟨(aWorld 0, default, [], (fun _ => none), (fun _ => none), (fun _ => none), ({} : Shared), (0 : Nat), (0 : Nat), none, none, (fun _ _ => True), (0 : Nat), (0 : Nat), (0 : Nat), (0 : Nat), (0 : Nat), (0 : Nat), (0 : Nat), [], [], [], [], [], [], [], [], ({} : Heap), ({} : Heap), (fun _ => none), (fun _ _ => True), none, none, none)⟩
@[irreducible] noncomputable def bad : Cx := @Classical.epsilon Cx ne fun c => ¬ Pz c.1 c.2.1 c.2.2.1 c.2.2.2.1 c.2.2.2.2.1 c.2.2.2.2.2.1 c.2.2.2.2.2.2.1 c.2.2.2.2.2.2.2.1 c.2.2.2.2.2.2.2.2.1 c.2.2.2.2.2.2.2.2.2.1 c.2.2.2.2.2.2.2.2.2.2.1 c.2.2.2.2.2.2.2.2.2.2.2.1 c.2.2.2.2.2.2.2.2.2.2.2.2.1 c.2.2.2.2.2.2.2.2.2.2.2.2.2.1 c.2.2.2.2.2.2.2.2.2.2.2.2.2.2.1 c.2.2.2.2.2.2.2.2.2.2.2.2.2.2.2.1 c.2.2.2.2.2.2.2.2.2.2.2.2.2.2.2.2.1 c.2.2.2.2.2.2.2.2.2.2.2.2.2.2.2.2.2.1 c.2.2.2.2.2.2.2.2.2.2.2.2.2.2.2.2.2.2.1 c.2.2.2.2.2.2.2.2.2.2.2.2.2.2.2.2.2.2.2.1 c.2.2.2.2.2.2.2.2.2.2.2.2.2.2.2.2.2.2.2.2.1 c.2.2.2.2.2.2.2.2.2.2.2.2.2.2.2.2.2.2.2.2.2.1 c.2.2.2.2.2.2.2.2.2.2.2.2.2.2.2.2.2.2.2.2.2.2.1 c.2.2.2.2.2.2.2.2.2.2.2.2.2.2.2.2.2.2.2.2.2.2.2.1 c.2.2.2.2.2.2.2.2.2.2.2.2.2.2.2.2.2.2.2.2.2.2.2.2.1 c.2.2.2.2.2.2.2.2.2.2.2.2.2.2.2.2.2.2.2.2.2.2.2.2.2.1 c.2.2.2.2.2.2.2.2.2.2.2.2.2.2.2.2.2.2.2.2.2.2.2.2.2.2.1 c.2.2.2.2.2.2.2.2.2.2.2.2.2.2.2.2.2.2.2.2.2.2.2.2.2.2.2.1 c.2.2.2.2.2.2.2.2.2.2.2.2.2.2.2.2.2.2.2.2.2.2.2.2.2.2.2.2.1 c.2.2.2.2.2.2.2.2.2.2.2.2.2.2.2.2.2.2.2.2.2.2.2.2.2.2.2.2.2.1 c.2.2.2.2.2.2.2.2.2.2.2.2.2.2.2.2.2.2.2.2.2.2.2.2.2.2.2.2.2.2.1 c.2.2.2.2.2.2.2.2.2.2.2.2.2.2.2.2.2.2.2.2.2.2.2.2.2.2.2.2.2.2.2.1 c.2.2.2.2.2.2.2.2.2.2.2.2.2.2.2.2.2.2.2.2.2.2.2.2.2.2.2.2.2.2.2.2.1 c.2.2.2.2.2.2.2.2.2.2.2.2.2.2.2.2.2.2.2.2.2.2.2.2.2.2.2.2.2.2.2.2.2
theorem fin (h : Pz bad.1 bad.2.1 bad.2.2.1 bad.2.2.2.1 bad.2.2.2.2.1 bad.2.2.2.2.2.1 bad.2.2.2.2.2.2.1 bad.2.2.2.2.2.2.2.1 bad.2.2.2.2.2.2.2.2.1 bad.2.2.2.2.2.2.2.2.2.1 bad.2.2.2.2.2.2.2.2.2.2.1 bad.2.2.2.2.2.2.2.2.2.2.2.1 bad.2.2.2.2.2.2.2.2.2.2.2.2.1 bad.2.2.2.2.2.2.2.2.2.2.2.2.2.1 bad.2.2.2.2.2.2.2.2.2.2.2.2.2.2.1 bad.2.2.2.2.2.2.2.2.2.2.2.2.2.2.2.1 bad.2.2.2.2.2.2.2.2.2.2.2.2.2.2.2.2.1 bad.2.2.2.2.2.2.2.2.2.2.2.2.2.2.2.2.2.1 bad.2.2.2.2.2.2.2.2.2.2.2.2.2.2.2.2.2.2.1 bad.2.2.2.2.2.2.2.2.2.2.2.2.2.2.2.2.2.2.2.1 bad.2.2.2.2.2.2.2.2.2.2.2.2.2.2.2.2.2.2.2.2.1 bad.2.2.2.2.2.2.2.2.2.2.2.2.2.2.2.2.2.2.2.2.2.1 bad.2.2.2.2.2.2.2.2.2.2.2.2.2.2.2.2.2.2.2.2.2.2.1 bad.2.2.2.2.2.2.2.2.2.2.2.2.2.2.2.2.2.2.2.2.2.2.2.1 bad.2.2.2.2.2.2.2.2.2.2.2.2.2.2.2.2.2.2.2.2.2.2.2.2.1 bad.2.2.2.2.2.2.2.2.2.2.2.2.2.2.2.2.2.2.2.2.2.2.2.2.2.1 bad.2.2.2.2.2.2.2.2.2.2.2.2.2.2.2.2.2.2.2.2.2.2.2.2.2.2.1 bad.2.2.2.2.2.2.2.2.2.2.2.2.2.2.2.2.2.2.2.2.2.2.2.2.2.2.2.1 bad.2.2.2.2.2.2.2.2.2.2.2.2.2.2.2.2.2.2.2.2.2.2.2.2.2.2.2.2.1 bad.2.2.2.2.2.2.2.2.2.2.2.2.2.2.2.2.2.2.2.2.2.2.2.2.2.2.2.2.2.1 bad.2.2.2.2.2.2.2.2.2.2.2.2.2.2.2.2.2.2.2.2.2.2.2.2.2.2.2.2.2.2.1 bad.2.2.2.2.2.2.2.2.2.2.2.2.2.2.2.2.2.2.2.2.2.2.2.2.2.2.2.2.2.2.2.1 bad.2.2.2.2.2.2.2.2.2.2.2.2.2.2.2.2.2.2.2.2.2.2.2.2.2.2.2.2.2.2.2.2.1 bad.2.2.2.2.2.2.2.2.2.2.2.2.2.2.2.2.2.2.2.2.2.2.2.2.2.2.2.2.2.2.2.2.2) (c : Cx) : Pz c.1 c.2.1 c.2.2.1 c.2.2.2.1 c.2.2.2.2.1 c.2.2.2.2.2.1 c.2.2.2.2.2.2.1 c.2.2.2.2.2.2.2.1 c.2.2.2.2.2.2.2.2.1 c.2.2.2.2.2.2.2.2.2.1 c.2.2.2.2.2.2.2.2.2.2.1 c.2.2.2.2.2.2.2.2.2.2.2.1 c.2.2.2.2.2.2.2.2.2.2.2.2.1 c.2.2.2.2.2.2.2.2.2.2.2.2.2.1 c.2.2.2.2.2.2.2.2.2.2.2.2.2.2.1 c.2.2.2.2.2.2.2.2.2.2.2.2.2.2.2.1 c.2.2.2.2.2.2.2.2.2.2.2.2.2.2.2.2.1 c.2.2.2.2.2.2.2.2.2.2.2.2.2.2.2.2.2.1 c.2.2.2.2.2.2.2.2.2.2.2.2.2.2.2.2.2.2.1 c.2.2.2.2.2.2.2.2.2.2.2.2.2.2.2.2.2.2.2.1 c.2.2.2.2.2.2.2.2.2.2.2.2.2.2.2.2.2.2.2.2.1 c.2.2.2.2.2.2.2.2.2.2.2.2.2.2.2.2.2.2.2.2.2.1 c.2.2.2.2.2.2.2.2.2.2.2.2.2.2.2.2.2.2.2.2.2.2.1 c.2.2.2.2.2.2.2.2.2.2.2.2.2.2.2.2.2.2.2.2.2.2.2.1 c.2.2.2.2.2.2.2.2.2.2.2.2.2.2.2.2.2.2.2.2.2.2.2.2.1 c.2.2.2.2.2.2.2.2.2.2.2.2.2.2.2.2.2.2.2.2.2.2.2.2.2.1 c.2.2.2.2.2.2.2.2.2.2.2.2.2.2.2.2.2.2.2.2.2.2.2.2.2.2.1 c.2.2.2.2.2.2.2.2.2.2.2.2.2.2.2.2.2.2.2.2.2.2.2.2.2.2.2.1 c.2.2.2.2.2.2.2.2.2.2.2.2.2.2.2.2.2.2.2.2.2.2.2.2.2.2.2.2.1 c.2.2.2.2.2.2.2.2.2.2.2.2.2.2.2.2.2.2.2.2.2.2.2.2.2.2.2.2.2.1 c.2.2.2.2.2.2.2.2.2.2.2.2.2.2.2.2.2.2.2.2.2.2.2.2.2.2.2.2.2.2.1 c.2.2.2.2.2.2.2.2.2.2.2.2.2.2.2.2.2.2.2.2.2.2.2.2.2.2.2.2.2.2.2.1 c.2.2.2.2.2.2.2.2.2.2.2.2.2.2.2.2.2.2.2.2.2.2.2.2.2.2.2.2.2.2.2.2.1 c.2.2.2.2.2.2.2.2.2.2.2.2.2.2.2.2.2.2.2.2.2.2.2.2.2.2.2.2.2.2.2.2.2 := by
  delta bad at h
  exact Classical.byContradiction fun q => (@Classical.epsilon_spec Cx (fun c => ¬ Pz c.1 c.2.1 c.2.2.1 c.2.2.2.1 c.2.2.2.2.1 c.2.2.2.2.2.1 c.2.2.2.2.2.2.1 c.2.2.2.2.2.2.2.1 c.2.2.2.2.2.2.2.2.1 c.2.2.2.2.2.2.2.2.2.1 c.2.2.2.2.2.2.2.2.2.2.1 c.2.2.2.2.2.2.2.2.2.2.2.1 c.2.2.2.2.2.2.2.2.2.2.2.2.1 c.2.2.2.2.2.2.2.2.2.2.2.2.2.1 c.2.2.2.2.2.2.2.2.2.2.2.2.2.2.1 c.2.2.2.2.2.2.2.2.2.2.2.2.2.2.2.1 c.2.2.2.2.2.2.2.2.2.2.2.2.2.2.2.2.1 c.2.2.2.2.2.2.2.2.2.2.2.2.2.2.2.2.2.1 c.2.2.2.2.2.2.2.2.2.2.2.2.2.2.2.2.2.2.1 c.2.2.2.2.2.2.2.2.2.2.2.2.2.2.2.2.2.2.2.1 c.2.2.2.2.2.2.2.2.2.2.2.2.2.2.2.2.2.2.2.2.1 c.2.2.2.2.2.2.2.2.2.2.2.2.2.2.2.2.2.2.2.2.2.1 c.2.2.2.2.2.2.2.2.2.2.2.2.2.2.2.2.2.2.2.2.2.2.1 c.2.2.2.2.2.2.2.2.2.2.2.2.2.2.2.2.2.2.2.2.2.2.2.1 c.2.2.2.2.2.2.2.2.2.2.2.2.2.2.2.2.2.2.2.2.2.2.2.2.1 c.2.2.2.2.2.2.2.2.2.2.2.2.2.2.2.2.2.2.2.2.2.2.2.2.2.1 c.2.2.2.2.2.2.2.2.2.2.2.2.2.2.2.2.2.2.2.2.2.2.2.2.2.2.1 c.2.2.2.2.2.2.2.2.2.2.2.2.2.2.2.2.2.2.2.2.2.2.2.2.2.2.2.1 c.2.2.2.2.2.2.2.2.2.2.2.2.2.2.2.2.2.2.2.2.2.2.2.2.2.2.2.2.1 c.2.2.2.2.2.2.2.2.2.2.2.2.2.2.2.2.2.2.2.2.2.2.2.2.2.2.2.2.2.1 c.2.2.2.2.2.2.2.2.2.2.2.2.2.2.2.2.2.2.2.2.2.2.2.2.2.2.2.2.2.2.1 c.2.2.2.2.2.2.2.2.2.2.2.2.2.2.2.2.2.2.2.2.2.2.2.2.2.2.2.2.2.2.2.1 c.2.2.2.2.2.2.2.2.2.2.2.2.2.2.2.2.2.2.2.2.2.2.2.2.2.2.2.2.2.2.2.2.1 c.2.2.2.2.2.2.2.2.2.2.2.2.2.2.2.2.2.2.2.2.2.2.2.2.2.2.2.2.2.2.2.2.2) ⟨c, q⟩) h
noncomputable def w : World := bad.1
noncomputable def p : Program := bad.2.1
noncomputable def loose : List Str := bad.2.2.1
noncomputable def mean : ExcName → Option Value := bad.2.2.2.1
noncomputable def mg : Str → Option Value := bad.2.2.2.2.1
noncomputable def mb : Str → Option Value := bad.2.2.2.2.2.1
noncomputable def s : Shared := bad.2.2.2.2.2.2.1
noncomputable def dp : Nat := bad.2.2.2.2.2.2.2.1
noncomputable def un : Nat := bad.2.2.2.2.2.2.2.2.1
noncomputable def fr : Option (List Env) := bad.2.2.2.2.2.2.2.2.2.1
noncomputable def gd : Option (List Code) := bad.2.2.2.2.2.2.2.2.2.2.1
noncomputable def E : Value → Shared → Prop := bad.2.2.2.2.2.2.2.2.2.2.2.1
noncomputable def L : Addr := bad.2.2.2.2.2.2.2.2.2.2.2.2.1
noncomputable def X : Addr := bad.2.2.2.2.2.2.2.2.2.2.2.2.2.1
noncomputable def Y : Addr := bad.2.2.2.2.2.2.2.2.2.2.2.2.2.2.1
noncomputable def Z : Addr := bad.2.2.2.2.2.2.2.2.2.2.2.2.2.2.2.1
noncomputable def Dn : Addr := bad.2.2.2.2.2.2.2.2.2.2.2.2.2.2.2.2.1
noncomputable def Fd : Addr := bad.2.2.2.2.2.2.2.2.2.2.2.2.2.2.2.2.2.1
noncomputable def Sd : Addr := bad.2.2.2.2.2.2.2.2.2.2.2.2.2.2.2.2.2.2.1
noncomputable def xs : List Value := bad.2.2.2.2.2.2.2.2.2.2.2.2.2.2.2.2.2.2.2.1
noncomputable def ts : List Value := bad.2.2.2.2.2.2.2.2.2.2.2.2.2.2.2.2.2.2.2.2.1
noncomputable def ds : List Value := bad.2.2.2.2.2.2.2.2.2.2.2.2.2.2.2.2.2.2.2.2.2.1
noncomputable def zs : List Value := bad.2.2.2.2.2.2.2.2.2.2.2.2.2.2.2.2.2.2.2.2.2.2.1
noncomputable def fs : List Value := bad.2.2.2.2.2.2.2.2.2.2.2.2.2.2.2.2.2.2.2.2.2.2.2.1
noncomputable def ss : List Value := bad.2.2.2.2.2.2.2.2.2.2.2.2.2.2.2.2.2.2.2.2.2.2.2.2.1
noncomputable def ks : List (Int × Str × Int) := bad.2.2.2.2.2.2.2.2.2.2.2.2.2.2.2.2.2.2.2.2.2.2.2.2.2.1
noncomputable def Ws : List (List Str) := bad.2.2.2.2.2.2.2.2.2.2.2.2.2.2.2.2.2.2.2.2.2.2.2.2.2.2.1
noncomputable def h₀ : Heap := bad.2.2.2.2.2.2.2.2.2.2.2.2.2.2.2.2.2.2.2.2.2.2.2.2.2.2.2.1
noncomputable def g : Heap := bad.2.2.2.2.2.2.2.2.2.2.2.2.2.2.2.2.2.2.2.2.2.2.2.2.2.2.2.2.1
noncomputable def m : Str → Option Value := bad.2.2.2.2.2.2.2.2.2.2.2.2.2.2.2.2.2.2.2.2.2.2.2.2.2.2.2.2.2.1
noncomputable def Q : Flow → Shared → Prop := bad.2.2.2.2.2.2.2.2.2.2.2.2.2.2.2.2.2.2.2.2.2.2.2.2.2.2.2.2.2.2.1
noncomputable def q5 : Option Value := bad.2.2.2.2.2.2.2.2.2.2.2.2.2.2.2.2.2.2.2.2.2.2.2.2.2.2.2.2.2.2.2.1
noncomputable def q6 : Option Value := bad.2.2.2.2.2.2.2.2.2.2.2.2.2.2.2.2.2.2.2.2.2.2.2.2.2.2.2.2.2.2.2.2.1
noncomputable def q7 : Option Value := bad.2.2.2.2.2.2.2.2.2.2.2.2.2.2.2.2.2.2.2.2.2.2.2.2.2.2.2.2.2.2.2.2.2
theorem at_ (KX : (hd.heap_39 w.params).In h₀) (T : Top p loose mean mg mb h₀) (hroom : dp + 20 < recursionLimit) (hun : un + 20 < cLine) (hmx : m (Str.ofString "texts") = some (.ref X)) (hmt : m (Str.ofString "told") = some (.ref Y)) (S : LS h₀ g L m (some (.ref Z)) (some (.ref Dn)) (some (.ref Sd)) (some (.ref Fd)) q5 q6 q7 s.heap) (hks : ks.length = 3) (hkl : ∀ k ∈ ks, (kindText k).length ≤ 1000) (hl : Ws.length ≤ 60) (hX : g.IsList X (List.toArray xs)) (hxs : Paired (fun v k => TextAt v (kindText k)) xs ks) (hFd : g.IsList Fd (List.toArray fs)) (hfs : Paired (FormAt g) fs Ws) (hfb : FormsB Ws) (hSo : ∃ c, g.get? Sd = some (PySem.W.listOf (List.toArray ss) c)) (hss : Paired (fun v W => TextAt v (pathW W)) ss Ws) (hpw : ∀ W ∈ Ws, (pathW W).length ≤ 1000) (hY : g.IsList Y (List.toArray ts)) (hts : Paired (RowsAt g toldText Ws) ts ks) (hDn : g.IsList Dn (List.toArray ds)) (hds : Paired (RowsAt g doneText Ws) ds ks) (hZo : ∃ c, g.get? Z = some (PySem.W.listOf (List.toArray zs) c)) (hzl : zs.length = Ws.length) (hzs : ∀ (i : Nat) v, zs[i]? = some v → ∃ a o, v = .ref a ∧ g.get? a = some o ∧ PairAt ks Ws i o) (law1 : ∀ W ∈ Ws, pathW W = pathF (formF W).1 (-(formF W).2.2) ((formF W).2.1 - (formF W).2.2)) (law2 : ∀ k ∈ ks, ∀ W ∈ Ws, doneText k W = toldText k W) (law3 : ∀ k ∈ ks, ∀ W ∈ Ws, runF (kindText k) (pathW W) = toldText k W) (law4 : ∀ W ∈ Ws, (Ws.map fun W => [pathW W]).idxOf [pathW W] = (Ws.map fun W => [doneText (ks.getD 0 (0, Str.ofString "", 0)) W, doneText (ks.getD 1 (0, Str.ofString "", 0)) W]).idxOf [doneText (ks.getD 0 (0, Str.ofString "", 0)) W, doneText (ks.getD 1 (0, Str.ofString "", 0)) W]) (next : ∀ h' tk', (∀ b o, h₀.get? b = some o → h'.get? b = some o) → Q (.ret (.bool true)) { s with heap := h', toks := tk' }) :
  wpAny (model PR w) ((Ar dp un fr gd).deeper (lawEnv w L)) (execs (lawSt w 12 :: []) (lawEnv w L)) Q E s := by
  obtain ⟨o1, o2, o3, o4, o5, o6, o7, objs, N, d1, d2, d3, d4, d5, d6, d7, hg, hob⟩ := S.op
  obtain ⟨n1, n2, n3, n4, n5, n6, n7⟩ := off_cells hob
  have F := fr_pin (fr_pin S.F hmx) (x := Str.ofString "told") (v := .ref Y) (by with_unfolding_all exact hmt)
  have up := S.up
  obtain ⟨cS, hSo⟩ := hSo
  obtain ⟨cZ, hZo⟩ := hZo
  have hSd : g.IsList Sd (List.toArray ss) := ⟨_, hSo, rfl, _, rfl⟩
  have hZ : g.IsList Z (List.toArray zs) := ⟨_, hZo, rfl, _, rfl⟩
  show wpAny _ _ (execs (Stmt.Return _ _ :: []) (envOfC _ (Scope.mk _ _ _ _ _) _ _ _)) _ _ _
  unfold sev at N
  clear S
  have hfl := hfs.length
  have hsl := hss.length
  have hxl := hxs.length
  have hfr : ∀ (h1 : Heap) (m1 : Str → Option Value), Fr h₀ L h1 m1 → (∀ b o, (b, o) ∈ objs → h1.get? b = some o) → ∀ b o, g.get? b = some o → h1.get? b = some o := fun h1 m1 F1 k1 b o e => by
    rcases hg b o e with q | q
    · exact F1.keep _ _ q
    · exact k1 _ _ q
  k_steps
  refine StopC.go ?_
  refine comp_listT (l := Fd) (its := fs) (fun i v => ∃ W, Ws[i]? = some W ∧ TextAt v (pathW W)) (fun _ _ => False) (Bind3 (FG Ws) (Str.ofString "rooted") (Str.ofString "down") (Str.ofString "up")) rfl rfl (by decide) rfl (by decide) (by omega) (fun I => casg_three (FG Ws) rfl rfl rfl rfl rfl (by decide) (by decide) (by decide) (forms_tup hfs up)) ?_ ?_ ?_
  · refine wpAny_mono (Q := ListGot _ _ _) ?_ (fun _ _ h => h) (fun _ _ e => e)
    k_steps
    exact ⟨rfl, ⟨_, _, rfl, fun _ _ e => e⟩, hFd.at fun o e => up _ _ e⟩
  · rintro j C2 mc2 hb2 trk2 s₃ hkk2 ⟨va, vb, vc, ⟨W, t4, t5, hWj, rfl, rfl, rfl⟩, h1, h2, h3⟩ F6 N6
    have KX2 := (KX.keeps F.keep).keeps hkk2
    have T2 := (T.keeps F.keep).keeps hkk2
    obtain ⟨hf1, hf2⟩ := hfb W (List.mem_of_getElem? hWj)
    have F7 := fr_pin (fr_pin (fr_pin F6 h1) (x := Str.ofString "down") (by with_unfolding_all exact h2)) (x := Str.ofString "up") (by with_unfolding_all exact h3)
    clear F N F6 KX T
    k_steps
    refine StopC.go ?_
    rename Fr _ _ _ _ => F8
    rename News _ _ _ _ => N8
    refine use_str F8 N8 (path_spec (KX2.keeps F8.keep) (T2.keeps F8.keep) (by walk_at "My room") hf1 hf2) ?_
    intro t' h' tk' F' N'
    exact elend_v F' N' (fun p hp => by first | exact hp | exact .tail _ hp) ⟨W, hWj, _, by rw [law1 W (List.mem_of_getElem? hWj)]⟩
  · intro D1 h1 tk1 ys1 ents1 c1 hyl1 hye1 hen1 hD1 hDs1 hkp1
    have F1 := fr_up F hkp1
    have N1 := news_up N hkp1
    have up1 : ∀ b o, g.get? b = some o → h1.get? b = some o := fun b o e => hkp1 _ _ (up _ _ e)
    clear F N
    k_steps
    refine StopC.go ?_
    refine eq_true (vs := ss) (us := ys1) (hSd.at fun o e => up1 _ _ e) ⟨_, hD1, rfl, _, rfl⟩ (by omega) (by show un + 3 + 3 < cLine; omega) (fun i v u e1 e2 => ?_) ?_
    · obtain ⟨W, hW, t1⟩ := paired_get hss i v e1
      rcases hye1 i u e2 with ⟨W', hW', t2⟩ | ⟨a, o, -, -, q⟩
      · rw [hW] at hW'; cases hW'
        exact eqat_text t1 t2
      · exact q.elim
    k_steps
    refine StopC.go ?_
    have hdl := hds.length
    have htl := hts.length
    refine eq_true (vs := ds) (us := ts) (hDn.at fun o e => up1 _ _ e) (hY.at fun o e => up1 _ _ e) (by omega) (by show un + 3 + 3 < cLine; omega) (fun i v u e1 e2 => ?_) ?_
    · obtain ⟨k, hk, a, o, rfl, ga, ra⟩ := paired_get hds i v e1
      obtain ⟨k', hk', b, o', rfl, gb, rb⟩ := paired_get hts i u e2
      rw [hk] at hk'; cases hk'
      exact rows_true (up1 _ _ ga) (up1 _ _ gb) ra rb (law2 k (List.mem_of_getElem? hk)) (by show un + 3 + 1 + 3 < cLine; omega)
    k_steps
    refine StopC.go ?_
    refine comp_listX (l := X) (its := xs) (fun _ _ => False) (fun i o => ∃ k, ks[i]? = some k ∧ RowAt (toldText k) Ws o) (fun i C h => ∃ v, xs[i]? = some v ∧ h.IsCell (C + 1) (some v)) rfl rfl rfl (by decide) (by omega)
      (fun I => casgX_one rfl (fun C => .head _) (fun C => rfl) (fun C => rfl)) ?_ ?_ ?_
    · refine wpAny_mono (Q := ListGot _ _ _) ?_ (fun _ _ h => h) (fun _ _ e => e)
      k_steps
      exact ⟨rfl, ⟨_, _, rfl, fun _ _ e => e⟩, hX.at fun o e => up1 _ _ e⟩
    · rintro i C mc hb' trk s₂ hkk ⟨v, hv, ha⟩ F5 N5
      have KX' := (KX.keeps F1.keep).keeps hkk
      have T' := (T.keeps F1.keep).keeps hkk
      have hcS := hkk _ _ (N1.get (.tail _ (.tail _ (.head _))))
      obtain ⟨k, hki, t0, rfl⟩ := paired_get hxs i v hv
      have hkl1 := hkl k (List.mem_of_getElem? hki)
      have up2 : ∀ b o, g.get? b = some o → s₂.heap.get? b = some o := fun b o e => F5.keep _ _ (hkk _ _ (up1 _ _ e))
      clear F1 N1 KX T
      refine comp_listN (l := Sd) (its := ss) (fun i v => ∃ W, Ws[i]? = some W ∧ TextAt v (toldText k W)) (fun _ _ => False) rfl rfl (by decide) rfl (by decide) rfl (by omega) ?_ ?_ ?_
      · refine wpAny_mono (Q := ListGot _ _ _) ?_ (fun _ _ h => h) (fun _ _ e => e)
        k_steps
        exact ⟨rfl, ⟨_, _, rfl, fun _ _ e => e⟩, hSd.at fun o e => up2 _ _ e⟩
      · rintro j C2 mc2 hb2 trk2 s₃ hkk2 ⟨v, hv2, h1⟩ F6 N6
        obtain ⟨oa, ea, da⟩ := ha
        have ea2 := hkk2 _ _ ea
        have KX2 := (KX'.keeps F5.keep).keeps hkk2
        have T2 := (T'.keeps F5.keep).keeps hkk2
        obtain ⟨W, hWi, tp, rfl⟩ := paired_get hss j v hv2
        have hpl := hpw W (List.mem_of_getElem? hWi)
        have F7 := fr_pin F6 h1
        clear F5 F6 N5 KX' T'
        k_steps
        refine StopC.go ?_
        rename Fr _ _ _ _ => F8
        rename News _ _ _ _ => N8
        refine use_str F8 N8 (run_spec (KX2.keeps F8.keep) (T2.keeps F8.keep) (by walk_at "My room") (by omega) hpl) ?_
        intro t' h' tk' F' N'
        exact elend_v F' N' (fun p hp => by first | exact hp | exact .tail _ hp) ⟨W, hWi, _, by rw [law3 k (List.mem_of_getElem? hki) W (List.mem_of_getElem? hWi)]⟩
      · intro D h' tk' ys ents c hyl hye hen hD hDs hkp
        obtain ⟨N6, hne6⟩ := news_new F5 N5 (news_up N5 hkp) hD hDs
        exact elend_o (fr_up F5 hkp) N6 (fun p hp => hp) (fun p hp => by
          have e := (N5 p hp).1
          intro q
          rw [q, hDs] at e; cases e) ⟨k, hki, ys, c, rfl, paired_of (by omega) fun i y W e1 e2 => by
            rcases hye i y e1 with ⟨W', e3, t, rfl⟩ | ⟨a, o, rfl, hao, q⟩
            · rw [e2] at e3
              cases e3
              exact ⟨t, rfl⟩
            · exact q.elim⟩
    intro D2 h2 tk2 ys2 ents2 c2 hyl2 hye2 hen2 hD2 hDs2 hkp2
    have F2 := fr_up F1 hkp2
    have N2 := news_up N1 hkp2
    have up2 : ∀ b o, g.get? b = some o → h2.get? b = some o := fun b o e => hkp2 _ _ (up1 _ _ e)
    clear F1 N1
    k_steps
    refine StopC.go ?_
    refine eq_true (vs := ys2) (us := ts) ⟨_, hD2, rfl, _, rfl⟩ (hY.at fun o e => up2 _ _ e) (by omega) (by show un + 3 + 3 < cLine; omega) (fun i v u e1 e2 => ?_) ?_
    · obtain ⟨k', hk', b, o', rfl, gb, rb⟩ := paired_get hts i u e2
      rcases hye2 i v e1 with q | ⟨a, o, rfl, hao, k, hk, ra⟩
      · exact q.elim
      · rw [hk] at hk'; cases hk'
        exact rows_true (hen2 _ hao).1 (up2 _ _ gb) ra rb (fun _ _ => rfl) (by show un + 3 + 1 + 3 < cLine; omega)
    k_steps
    refine StopC.go ?_
    refine comp_listN (l := Sd) (its := ss) (fun i v => ∃ W, Ws[i]? = some W ∧ ∃ t, v = .int (((Ws.map fun W => [pathW W]).idxOf [pathW W] : Nat) : Int) t) (fun _ _ => False) rfl rfl (by decide) rfl (by decide) rfl (by omega) ?_ ?_ ?_
    · refine wpAny_mono (Q := ListGot _ _ _) ?_ (fun _ _ h => h) (fun _ _ e => e)
      k_steps
      exact ⟨rfl, ⟨_, _, rfl, fun _ _ e => e⟩, hSd.at fun o e => up2 _ _ e⟩
    · rintro j C2 mc2 hb2 trk2 s₃ hkk3 ⟨v, hv2, h1⟩ F6 N6
      have KX3 := (KX.keeps F2.keep).keeps hkk3
      have T3 := (T.keeps F2.keep).keeps hkk3
      have hcS := hkk3 _ _ (N2.get (.tail _ (.tail _ (.head _))))
      obtain ⟨W, hWi, tp, rfl⟩ := paired_get hss j v hv2
      have up3 : ∀ b o, g.get? b = some o → hb2.get? b = some o := fun b o e => hkk3 _ _ (up2 _ _ e)
      have F7 := fr_pin F6 h1
      clear F2 N2 F6 KX T
      k_steps
      refine StopC.go ?_
      rename Fr _ _ _ _ => F8
      rename News _ _ _ _ => N8
      refine my_index_method (F8.keep _ _ (up3 _ _ hSo)) ?_
      k_steps
      refine StopC.go ?_
      refine my_index_key (vs := ss) (Ws.map fun W => [pathW W]) [pathW W] (hSd.at fun o e => F8.keep _ _ (up3 _ _ e)) (by rw [List.length_map]; omega) (by omega) (fun i v kk e1 e2 => ?_) (fun y hy => ?_) (List.mem_map_of_mem (List.mem_of_getElem? hWi)) ?_
      · obtain ⟨W', hW', t', rfl⟩ := paired_get hss i v e1
        rw [List.getElem?_map, hW'] at e2
        exact Option.some.inj e2
      · obtain ⟨i, hi⟩ := List.getElem?_of_mem hy
        obtain ⟨W', hW', t', rfl⟩ := paired_get hss i y hi
        have := PySem.SeqAt.EqAt.str_str (A := Around.in1 ((Ar dp un fr gd).deeper (lawEnv w L))) (s := s₃) (pathW W') t' (pathW W) tp
        intro prog' w' E' Q' hq
        refine PySem.SeqAt.EqAt.str_str (pathW W') t' (pathW W) tp prog' w' E' Q' ?_
        rw [show (pathW W' == pathW W) = ([pathW W'] == [pathW W]) from by rw [Bool.eq_iff_iff]; simp]
        exact hq
      exact elend_v F8 N8 (fun p hp => by first | exact hp | exact .tail _ hp) ⟨W, hWi, _, rfl⟩
    intro D3 h3 tk3 ys3 ents3 c3 hyl3 hye3 hen3 hD3 hDs3 hkp3
    have F3 := fr_up F2 hkp3
    obtain ⟨N3, hne3⟩ := news_new F2 N2 (news_up N2 hkp3) hD3 hDs3
    simp only [AllNe] at hne3
    have up3 : ∀ b o, g.get? b = some o → h3.get? b = some o := fun b o e => hkp3 _ _ (up2 _ _ e)
    clear F2 N2
    k_steps
    refine StopC.go ?_
    refine comp_listN (l := Z) (its := zs) (fun i v => ∃ W, Ws[i]? = some W ∧ ∃ t, v = .int (((Ws.map fun W => [doneText (ks.getD 0 (0, Str.ofString "", 0)) W, doneText (ks.getD 1 (0, Str.ofString "", 0)) W]).idxOf [doneText (ks.getD 0 (0, Str.ofString "", 0)) W, doneText (ks.getD 1 (0, Str.ofString "", 0)) W] : Nat) : Int) t) (fun _ _ => False) rfl rfl (by decide) rfl (by decide) rfl (by omega) ?_ ?_ ?_
    · refine wpAny_mono (Q := ListGot _ _ _) ?_ (fun _ _ h => h) (fun _ _ e => e)
      k_steps
      exact ⟨rfl, ⟨_, _, rfl, fun _ _ e => e⟩, hZ.at fun o e => up3 _ _ e⟩
    · rintro j C2 mc2 hb2 trk2 s₃ hkk3 ⟨v, hv2, h1⟩ F6 N6
      have KX3 := (KX.keeps F3.keep).keeps hkk3
      have T3 := (T.keeps F3.keep).keeps hkk3
      have hcS := hkk3 _ _ (N3.get (.tail _ (.head _)))
      obtain ⟨a, o, rfl, ga, W, t0, t1, c0, hWi, ho⟩ := hzs j v hv2
      have up4 : ∀ b o, g.get? b = some o → hb2.get? b = some o := fun b o e => hkk3 _ _ (up3 _ _ e)
      have F7 := fr_pin F6 h1
      clear F3 N3 F6 KX T
      k_steps
      refine StopC.go ?_
      rename Fr _ _ _ _ => F8
      rename News _ _ _ _ => N8
      refine my_index_method (F8.keep _ _ (up4 _ _ hZo)) ?_
      k_steps
      refine StopC.go ?_
      refine my_index_key (vs := zs) (Ws.map fun W => [doneText (ks.getD 0 (0, Str.ofString "", 0)) W, doneText (ks.getD 1 (0, Str.ofString "", 0)) W]) [doneText (ks.getD 0 (0, Str.ofString "", 0)) W, doneText (ks.getD 1 (0, Str.ofString "", 0)) W] (hZ.at fun o e => F8.keep _ _ (up4 _ _ e)) (by rw [List.length_map]; omega) (by omega) (fun i v kk e1 e2 => ?_) (fun y hy => ?_) (List.mem_map.mpr ⟨W, List.mem_of_getElem? hWi, rfl⟩) ?_
      · obtain ⟨a', o', rfl, ga', W', u0, u1, c', hW', rfl⟩ := hzs i v e1
        rw [List.getElem?_map, hW'] at e2
        have e3 := F8.keep _ _ (up4 _ _ ga')
        rw [← Option.some.inj e2]
        exact key_ref e3
      · obtain ⟨i, hi⟩ := List.getElem?_of_mem hy
        obtain ⟨a', o', rfl, ga', W', u0, u1, c', hW', ho'⟩ := hzs i y hi
        have e3 := F8.keep _ _ (up4 _ _ ga')
        have e4 : keyOf s₃.heap (.ref a') = [doneText (ks.getD 0 (0, Str.ofString "", 0)) W', doneText (ks.getD 1 (0, Str.ofString "", 0)) W'] := by
          rw [ho'] at e3
          exact key_ref e3
        have e5 := pair_eq (A := Around.in1 ((Ar dp un fr gd).deeper (lawEnv w L))) e3 (F8.keep _ _ (up4 _ _ ga)) ho' ho (by show un + 3 + 1 + 3 < cLine; omega)
        rw [e4]
        exact e5
      exact elend_v F8 N8 (fun p hp => by first | exact hp | exact .tail _ hp) ⟨W, hWi, _, rfl⟩
    intro D4 h4 tk4 ys4 ents4 c4 hyl4 hye4 hen4 hD4 hDs4 hkp4
    have F4 := fr_up F3 hkp4
    have hD3' := hkp4 _ _ hD3
    clear N3
    k_steps
    refine StopC.go ?_
    refine eq_true (vs := ys3) (us := ys4) ⟨_, hD3', rfl, _, rfl⟩ ⟨_, hD4, rfl, _, rfl⟩ (by omega) (by show un + 3 + 3 < cLine; omega) (fun i v u e1 e2 => ?_) ?_
    · rcases hye3 i v e1 with ⟨W, hW, t1, rfl⟩ | ⟨a, o, -, -, q⟩
      · rcases hye4 i u e2 with ⟨W', hW', t2, rfl⟩ | ⟨a, o, -, -, q⟩
        · rw [hW] at hW'; cases hW'
          rw [← law4 W (List.mem_of_getElem? hW)]
          have := PySem.SeqAt.EqAt.int_int (A := Around.in1 ((Ar dp un fr gd).deeper (lawEnv w L))) (s := { s with heap := h4, toks := tk4 }) (((Ws.map fun W => [pathW W]).idxOf [pathW W] : Nat) : Int) t1 (((Ws.map fun W => [pathW W]).idxOf [pathW W] : Nat) : Int) t2
          rwa [beq_self_eq_true] at this
        · exact q.elim
      · exact q.elim
    k_steps
    show Q (.ret (.bool true)) _
    exact next _ _ F4.keep
end st_13_c
theorem st_13 {w : World} {p : Program} {loose : List Str} {mean : ExcName → Option Value} {mg : Str → Option Value} {mb : Str → Option Value} {s : Shared} {dp : Nat} {un : Nat} {fr : Option (List Env)} {gd : Option (List Code)} {E : Value → Shared → Prop} {L X Y Z Dn Fd Sd : Addr} {xs ts ds zs fs ss : List Value} {ks : List (Int × Str × Int)} {Ws : List (List Str)} {h₀ g : Heap} {m : Str → Option Value} {Q : Flow → Shared → Prop} {q5 q6 q7 : Option Value} (KX : (hd.heap_39 w.params).In h₀) (T : Top p loose mean mg mb h₀) (hroom : dp + 20 < recursionLimit) (hun : un + 20 < cLine)
    (hmx : m (Str.ofString "texts") = some (.ref X)) (hmt : m (Str.ofString "told") = some (.ref Y))
    (S : LS h₀ g L m (some (.ref Z)) (some (.ref Dn)) (some (.ref Sd)) (some (.ref Fd)) q5 q6 q7 s.heap)
    (hks : ks.length = 3) (hkl : ∀ k ∈ ks, (kindText k).length ≤ 1000) (hl : Ws.length ≤ 60)
    (hX : g.IsList X (List.toArray xs)) (hxs : Paired (fun v k => TextAt v (kindText k)) xs ks)
    (hFd : g.IsList Fd (List.toArray fs)) (hfs : Paired (FormAt g) fs Ws) (hfb : FormsB Ws)
    (hSo : ∃ c, g.get? Sd = some (PySem.W.listOf (List.toArray ss) c)) (hss : Paired (fun v W => TextAt v (pathW W)) ss Ws) (hpw : ∀ W ∈ Ws, (pathW W).length ≤ 1000)
    (hY : g.IsList Y (List.toArray ts)) (hts : Paired (RowsAt g toldText Ws) ts ks)
    (hDn : g.IsList Dn (List.toArray ds)) (hds : Paired (RowsAt g doneText Ws) ds ks)
    (hZo : ∃ c, g.get? Z = some (PySem.W.listOf (List.toArray zs) c)) (hzl : zs.length = Ws.length) (hzs : ∀ (i : Nat) v, zs[i]? = some v → ∃ a o, v = .ref a ∧ g.get? a = some o ∧ PairAt ks Ws i o)
    (law1 : ∀ W ∈ Ws, pathW W = pathF (formF W).1 (-(formF W).2.2) ((formF W).2.1 - (formF W).2.2)) (law2 : ∀ k ∈ ks, ∀ W ∈ Ws, doneText k W = toldText k W) (law3 : ∀ k ∈ ks, ∀ W ∈ Ws, runF (kindText k) (pathW W) = toldText k W)
    (law4 : ∀ W ∈ Ws, (Ws.map fun W => [pathW W]).idxOf [pathW W] = (Ws.map fun W => [doneText (ks.getD 0 (0, Str.ofString "", 0)) W, doneText (ks.getD 1 (0, Str.ofString "", 0)) W]).idxOf [doneText (ks.getD 0 (0, Str.ofString "", 0)) W, doneText (ks.getD 1 (0, Str.ofString "", 0)) W])
    (next : ∀ h' tk', (∀ b o, h₀.get? b = some o → h'.get? b = some o) → Q (.ret (.bool true)) { s with heap := h', toks := tk' }) :
    wpAny (model PR w) ((Ar dp un fr gd).deeper (lawEnv w L)) (execs (lawSt w 12 :: []) (lawEnv w L)) Q E s :=
  st_13_c.fin st_13_c.at_ (w, p, loose, mean, mg, mb, s, dp, un, fr, gd, E, L, X, Y, Z, Dn, Fd, Sd, xs, ts, ds, zs, fs, ss, ks, Ws, h₀, g, m, Q, q5, q6, q7) KX T hroom hun hmx hmt S hks hkl hl hX hxs hFd hfs hfb hSo hss hpw hY hts hDn hds hZo hzl hzs law1 law2 law3 law4 next
end
end
end
section
local macro_rules | `(tactic| k_all) => `(tactic| assumption)
local macro_rules | `(tactic| walk_at "call ref") => `(tactic| (refine stopC ?_))
section
variable {w : World} {p : Program} {loose : List Str} {mean : ExcName → Option Value} {mg mb : Str → Option Value} {s : Shared} {dp un : Nat} {fr : Option (List Env)} {gd : Option (List Code)} {E : Value → Shared → Prop}
def Law4 (ks : List (Int × Str × Int)) (Ws : List (List Str)) : Prop := ∀ W ∈ Ws, (Ws.map fun W => [pathW W]).idxOf [pathW W] = (Ws.map fun W => [doneText (ks.getD 0 (0, Str.ofString "", 0)) W, doneText (ks.getD 1 (0, Str.ofString "", 0)) W]).idxOf [doneText (ks.getD 0 (0, Str.ofString "", 0)) W, doneText (ks.getD 1 (0, Str.ofString "", 0)) W]
def PlainLaw : Prop := ∀ (zs : List Int) (Ws : List (List Str)) (ks : List (Int × Str × Int)), (∀ z ∈ zs, 0 ≤ z) → zs.length ≤ 6 → (∀ W ∈ Ws, IsSl (zs.map pieceOf) W) → KindsOk (zs.map pieceOf) ks →
  (∀ y ∈ zs.map pieceOf, y.length ≤ 17) ∧ (∀ k ∈ ks, (kindText k).length ≤ 1000) ∧ FormsB Ws ∧ (∀ W ∈ Ws, (pathW W).length ≤ 1000) ∧ (∀ W ∈ Ws, pathW W = pathF (formF W).1 (-(formF W).2.2) ((formF W).2.1 - (formF W).2.2)) ∧ (∀ k ∈ ks, ∀ W ∈ Ws, doneText k W = toldText k W) ∧ (∀ k ∈ ks, ∀ W ∈ Ws, runF (kindText k) (pathW W) = toldText k W) ∧ Law4 ks Ws
theorem law_body {L : Addr} {l : Addr} {vs : List Value} {ns : List Int} {h₀ g : Heap} {m : Str → Option Value} {Q : Flow → Shared → Prop} (PL : PlainLaw) (PS : ∀ zs : List Int, ∀ y ∈ zs.map pieceOf, y.length ≤ 17) (KX : (hd.heap_39 w.params).In h₀) (T : Top p loose mean mg mb h₀) (hroom : dp + 20 < recursionLimit) (hun : un + 20 < cLine) (hl : h₀.IsList l vs.toArray) (hys : IntsAre vs ns) (hn : ns.length ≤ 63)
    (S : LS h₀ g L m none none none none none none none s.heap) (hm : m (Str.ofString "script") = some (.ref l))
    (next : ∀ h' tk', (∀ b o, h₀.get? b = some o → h'.get? b = some o) → Q (.ret (.bool true)) { s with heap := h', toks := tk' }) :
    wpAny (model PR w) ((Ar dp un fr gd).deeper (lawEnv w L)) (execs (lawSt w 0 :: lawSt w 1 :: lawSt w 2 :: lawSt w 3 :: lawSt w 4 :: lawSt w 5 :: lawSt w 6 :: lawSt w 7 :: lawSt w 8 :: lawSt w 9 :: lawSt w 10 :: lawSt w 11 :: lawSt w 12 :: []) (lawEnv w L)) Q E s := by
  refine st_1 KX T hroom hl hys hn S hm fun g1 h1 tk1 m1 P cs zs t1 S1 hm1 hP hcs hz0 hzl => ?_
  have hpl : (zs.map pieceOf).length ≤ 6 := by rw [List.length_map]; exact hzl
  refine st_3 KX T S1 hP hcs hpl fun g2 h2 tk2 Wd us Ws S2 up2 hW hus hsl hWl => ?_
  have hW17 : ∀ W ∈ Ws, W.length ≤ 6 ∧ ∀ y ∈ W, y.length ≤ 17 := fun W hW => by
    obtain ⟨a, n, rfl⟩ := hsl W hW
    refine ⟨?_, fun y hy => PS zs y (List.mem_of_mem_drop (List.mem_of_mem_take hy))⟩
    exact Nat.le_trans (by rw [List.length_take]; exact Nat.min_le_right _ _) (Nat.le_trans (by rw [List.length_drop]; exact Nat.sub_le _ _) hpl)
  refine st_4 KX T hroom S2 hW hus hW17 hWl fun g3 h3 tk3 Fd fs S3 up3 hFd hfs => ?_
  have hus3 := paired_mono (fun v W x => WordAt.up x up3) hus
  refine st_5 KX T hroom S3 (hW.at fun o e => up3 _ _ e) hus3 hW17 hWl fun g4 h4 tk4 Sd ss S4 up4 hSd hss => ?_
  have up24 : ∀ b o, g2.get? b = some o → g4.get? b = some o := fun b o e => up4 _ _ (up3 _ _ e)
  refine st_6 KX T hroom hl hys hn hm1 S4 (hP.at fun o e => up24 _ _ (up2 _ _ e)) hcs hpl (PS zs) fun g5 h5 tk5 m5 K kv ks S5 up5 hm5 hK hkv hko => ?_
  have hkb := kinds_b hko
  obtain ⟨-, hkl, hfb, hpw, law1, law2, law3, law4⟩ := PL zs Ws ks hz0 hzl hsl hko
  refine st_9 KX T hm5 S5 hK hkv hkb fun g6 h6 tk6 m6 X xs S6 up6 hmk6 hmx6 hX hxs => ?_
  have up36 : ∀ b o, g3.get? b = some o → g6.get? b = some o := fun b o e => up6 _ _ (up5 _ _ (up4 _ _ e))
  refine st_10 KX T hroom hmk6 hmx6 S6 (hK.at fun o e => up6 _ _ e) (paired_mono (fun v k x => by obtain ⟨D, t1, t2, t3, rfl, e⟩ := x; exact ⟨D, t1, t2, t3, rfl, up6 _ _ e⟩) hkv) hkb (hFd.at fun o e => up36 _ _ e) (paired_mono (fun v W x => FormAt.up x up36) hfs) hWl hfb fun g7 h7 tk7 m7 Y ts S7 up7 hmx7 hmt7 hY hts => ?_
  have up27 : ∀ b o, g2.get? b = some o → g7.get? b = some o := fun b o e => up7 _ _ (up36 _ _ (up3 _ _ e))
  refine st_11 KX T hroom hmx7 S7 (hX.at fun o e => up7 _ _ e) hxs hkb.1 hkl (hW.at fun o e => up27 _ _ e) (paired_mono (fun v W x => WordAt.up x up27) hus) hW17 hWl fun g8 h8 tk8 Dn ds S8 up8 hDn hds => ?_
  refine st_12 KX T hroom S8 hkb.1 (hW.at fun o e => up8 _ _ (up27 _ _ e)) hus.length hWl hDn hds fun g9 h9 tk9 Z zs9 S9 up9 hZ hzl9 hzs => ?_
  have up79 : ∀ b o, g7.get? b = some o → g9.get? b = some o := fun b o e => up9 _ _ (up8 _ _ e)
  have up39 : ∀ b o, g3.get? b = some o → g9.get? b = some o := fun b o e => up79 _ _ (up7 _ _ (up36 _ _ e))
  have rows : ∀ {ga gb : Heap} {f} {v k}, (∀ b o, ga.get? b = some o → gb.get? b = some o) → RowsAt ga f Ws v k → RowsAt gb f Ws v k := fun u x => by obtain ⟨a, o, rfl, e, r⟩ := x; exact ⟨a, o, rfl, u _ _ e, r⟩
  refine st_13 KX T hroom hun hmx7 hmt7 S9 hkb.1 hkl hWl (hX.at fun o e => up79 _ _ (up7 _ _ e)) hxs (hFd.at fun o e => up39 _ _ e) (paired_mono (fun v W x => FormAt.up x up39) hfs) hfb ?_ hss hpw (hY.at fun o e => up79 _ _ e) (paired_mono (fun v k x => rows up79 x) hts) (hDn.at fun o e => up9 _ _ e) (paired_mono (fun v k x => rows up9 x) hds) hZ hzl9 hzs law1 law2 law3 law4 fun h' tk' hk => next h' tk' hk
  obtain ⟨c, e⟩ := hSd
  exact ⟨c, up79 _ _ (up7 _ _ (up6 _ _ (up5 _ _ e)))⟩
end
end
section
local macro_rules | `(tactic| k_all) => `(tactic| assumption)
local macro_rules | `(tactic| walk_at "call ref") => `(tactic| (refine stopC ?_))
section
variable {w : World} {p : Program} {loose : List Str} {mean : ExcName → Option Value} {mg mb : Str → Option Value} {s : Shared} {dp un : Nat} {fr : Option (List Env)} {gd : Option (List Code)} {E : Value → Shared → Prop}
theorem law_spec {l : Addr} {vs : List Value} {ns : List Int} (PL : PlainLaw) (PS : ∀ zs : List Int, ∀ y ∈ zs.map pieceOf, y.length ≤ 17) (KX : (hd.heap_39 w.params).In s.heap) (T : Top p loose mean mg mb s.heap) (hroom : dp + 20 < recursionLimit) (hun : un + 20 < cLine) (hl : s.heap.IsList l vs.toArray) (hys : IntsAre vs ns) (hn : ns.length ≤ 63) :
    wpAny (model PR w) (Ar dp un fr gd) (call (.ref 197) [.ref l]) (Out s (fun v _ => v = .bool true)) E s := by
  (refine' enterC (binds := [(Str.ofString "script", .ref l)]) KX T ?k6 ?k7 ?k8 ?k9 ?kB ?kD ?_ ?c2 ?c3 ?c4; (case k6 => k_is); (case k7 => k_is); (case k8 => walk_at "My room"); (case k9 => exact BindsTo.of_eq rfl); (case kB => exact rfl); (case kD => decide +kernel); (case c2 => exact rfl); (case c3 => exact rfl); (case c4 => exact rfl); intro L h₁ tk cells F N Y; k_cells Y; (try simp only [List.cons_append, List.nil_append] at N); (try dsimp only))
  have S : LS s.heap s.heap L _ none none none none none none none h₁ := ⟨F, ⟨_, _, _, _, _, _, _, N, by assumption, by assumption, by assumption, by assumption, by assumption, by assumption, by assumption⟩, fun _ _ e => e, F.keep, fun a ha => Heap.get?_none_of_le (by
    have h1 : s.heap.objs.size ≤ L := F.above
    rcases ha with rfl | rfl | rfl | rfl | rfl | rfl | rfl | rfl <;> omega)⟩
  exact law_body (s := { s with heap := h₁, toks := tk }) PL PS KX T hroom hun hl hys hn S rfl fun h' tk' hk => ⟨rfl, h', tk', rfl, hk⟩
end
end
section
section
variable {w : World} {p : Program} {loose : List Str} {mean : ExcName → Option Value} {mg mb : Str → Option Value} {s : Shared} {dp un : Nat} {fr : Option (List Env)} {gd : Option (List Code)} {E : Value → Shared → Prop}
theorem figs_len : ∀ (n f : Nat) (x : Str), (figsN n f x).length ≤ x.length + 3 * n
  | 0, _, x => by simp [figsN]
  | n + 1, f, x => by
    unfold figsN
    split
    · omega
    · have h1 := figs_len n (f / 5) (x ++ Str.ofString "/" ++ tabN (f % 5))
      have h2 := tab_len (f % 5)
      have e1 : (Str.ofString "/").length = 1 := by decide
      rw [Str.length_append, Str.length_append, e1] at h1
      omega
theorem piece_len (z : Int) : (pieceOf z).length ≤ 17 := by
  unfold pieceOf
  have e1 : (Str.ofString "/.").length = 2 := by decide
  have e2 : (Str.ofString ".").length = 1 := by decide
  split
  · have := figs_len 5 ((z.fdiv 4).fmod 625).toNat (Str.ofString "/."); omega
  · have := figs_len 5 ((z.fdiv 4).fmod 625).toNat (Str.ofString "."); omega
theorem pieces_len (zs : List Int) : ∀ y ∈ zs.map pieceOf, y.length ≤ 17 := by
  intro y hy
  obtain ⟨z, -, rfl⟩ := List.mem_map.mp hy
  exact piece_len z
end
end
section
section
variable {w : World} {p : Program} {loose : List Str} {mean : ExcName → Option Value} {mg mb : Str → Option Value} {s : Shared} {dp un : Nat} {fr : Option (List Env)} {gd : Option (List Code)} {E : Value → Shared → Prop}
noncomputable def Ls (x : Str) : List Nat := x.cps.toList
theorem ls_inj {x y : Str} (h : Ls x = Ls y) : x = y := by
  obtain ⟨a⟩ := x; obtain ⟨b⟩ := y
  have : a.toList = b.toList := h
  rw [Array.toList_inj.mp this]
theorem ls_app (x y : Str) : Ls (x ++ y) = Ls x ++ Ls y := by
  show (x.cps ++ y.cps).toList = _
  simp [Ls]
noncomputable def joinL : List (List Nat) → List Nat
  | [] => []
  | [x] => x
  | x :: y :: r => x ++ 47 :: joinL (y :: r)
noncomputable def splitL : List Nat → List (List Nat)
  | [] => [[]]
  | c :: r => if c = 47 then [] :: splitL r else match splitL r with
    | h :: t => (c :: h) :: t
    | [] => [[c]]
theorem slash : Str.ofString "/" = ⟨#[47]⟩ := by decide +kernel
theorem ls_join : ∀ xs : List Str, Ls (Str.join (Str.ofString "/") xs) = joinL (xs.map Ls)
  | [] => rfl
  | [x] => rfl
  | x :: y :: r => by
    have h := ls_join (y :: r)
    show Ls (x ++ Str.ofString "/" ++ Str.join (Str.ofString "/") (y :: r)) = _
    rw [ls_app, ls_app, h, slash]
    simp [joinL, Ls]
theorem splitL_app : ∀ (x r : List Nat), 47 ∉ x → splitL (x ++ 47 :: r) = x :: splitL r
  | [], r, _ => by simp [splitL]
  | c :: x, r, h => by
    have hc : c ≠ 47 := fun e => h (e ▸ .head _)
    have ih := splitL_app x r fun q => h (.tail _ q)
    rw [List.cons_append, splitL, if_neg hc, ih]
theorem splitL_free : ∀ (x : List Nat), 47 ∉ x → splitL x = [x]
  | [], _ => rfl
  | c :: x, h => by
    have hc : c ≠ 47 := fun e => h (e ▸ .head _)
    have ih := splitL_free x fun q => h (.tail _ q)
    rw [splitL, if_neg hc, ih]
theorem split_joinL : ∀ xs : List (List Nat), xs ≠ [] → (∀ x ∈ xs, 47 ∉ x) → splitL (joinL xs) = xs
  | [], h, _ => absurd rfl h
  | [x], _, h => splitL_free x (h x (.head _))
  | x :: y :: r, _, h => by
    show splitL (x ++ 47 :: joinL (y :: r)) = _
    rw [splitL_app x _ (h x (.head _)), split_joinL (y :: r) (by simp) fun z hz => h z (.tail _ hz)]
theorem map_ls_inj : ∀ {xs ys : List Str}, xs.map Ls = ys.map Ls → xs = ys
  | [], [], _ => rfl
  | [], _ :: _, h => by simp at h
  | _ :: _, [], h => by simp at h
  | x :: xs, y :: ys, h => by
    simp only [List.map_cons, List.cons.injEq] at h
    rw [ls_inj h.1, map_ls_inj h.2]
def Free (x : Str) : Prop := 47 ∉ Ls x
theorem split_join (xs : List Str) (h : xs ≠ []) (hf : ∀ x ∈ xs, Free x) : Txt.split (Txt.join (Str.ofString "/") xs) (Str.ofString "/") = xs := by
  have e0 : Txt.join (Str.ofString "/") xs = Str.join (Str.ofString "/") xs := StrLaws.glued_eq_join _ _
  rw [e0]
  have h1 := StrLaws.join_split (Str.join (Str.ofString "/") xs) (Str.ofString "/")
  have h2 := StrLaws.split_free (Str.join (Str.ofString "/") xs) 47
  rw [← slash] at h2
  have h3 := PyProof.Rows.split_pos (Str.join (Str.ofString "/") xs) (Str.ofString "/")
  generalize Txt.split (Str.join (Str.ofString "/") xs) (Str.ofString "/") = ys at h1 h2 h3
  have e := congrArg Ls h1
  rw [ls_join, ls_join] at e
  have e2 := congrArg splitL e
  rw [split_joinL (ys.map Ls) (by intro q; rw [List.map_eq_nil_iff] at q; rw [q] at h3; simp at h3) (fun z hz => by obtain ⟨p, hp, rfl⟩ := List.mem_map.mp hz; exact h2 p hp), split_joinL (xs.map Ls) (by simpa using h) (fun z hz => by obtain ⟨p, hp, rfl⟩ := List.mem_map.mp hz; exact hf p hp)] at e2
  exact map_ls_inj e2
end
end
section
section
variable {w : World} {p : Program} {loose : List Str} {mean : ExcName → Option Value} {mg mb : Str → Option Value} {s : Shared} {dp un : Nat} {fr : Option (List Env)} {gd : Option (List Code)} {E : Value → Shared → Prop}
noncomputable def sl : Str := Str.ofString "/"
noncomputable def jn (xs : List Str) : Str := Txt.join (Str.ofString "/") xs
theorem jn_eq (xs : List Str) : jn xs = Str.join (Str.ofString "/") xs := StrLaws.glued_eq_join _ _
theorem app_assoc (x y z : Str) : x ++ y ++ z = x ++ (y ++ z) := ls_inj (by simp only [ls_app, List.append_assoc])
theorem jn_one (x : Str) : jn [x] = x := by rw [jn_eq]; rfl
theorem jn_cons (x : Str) {r : List Str} (h : r ≠ []) : jn (x :: r) = x ++ Str.ofString "/" ++ jn r := by
  cases r with
  | nil => exact absurd rfl h
  | cons y r => rw [jn_eq, jn_eq]; rfl
theorem jn_app : ∀ {xs ys : List Str}, xs ≠ [] → ys ≠ [] → jn (xs ++ ys) = jn xs ++ Str.ofString "/" ++ jn ys
  | [], _, h, _ => absurd rfl h
  | [x], ys, _, h => by rw [List.singleton_append, jn_cons x h, jn_one]
  | x :: y :: r, ys, _, h => by
    rw [List.cons_append, jn_cons x (by simp), jn_app (xs := y :: r) (by simp) h, jn_cons x (r := y :: r) (by simp)]
    simp only [app_assoc]
noncomputable def figsL : Nat → Nat → List Str
  | 0, _ => []
  | n + 1, f => if f = 0 then [] else tabN (f % 5) :: figsL n (f / 5)
theorem figs_eq : ∀ (n f : Nat) (xs : List Str), xs ≠ [] → figsN n f (jn xs) = jn (xs ++ figsL n f)
  | 0, f, xs, _ => by simp [figsN, figsL]
  | n + 1, f, xs, h => by
    unfold figsN figsL
    split
    · rw [List.append_nil]
    · have e : jn xs ++ Str.ofString "/" ++ tabN (f % 5) = jn (xs ++ [tabN (f % 5)]) := by rw [jn_app h (by simp), jn_one]
      rw [e, figs_eq n (f / 5) _ (by simp)]
      rw [List.append_assoc]; rfl
noncomputable def rtOf (z : Int) : Bool := decide (z.fmod 4 = 3)
/-- the parts of a piece behind its slash in front -/
noncomputable def ptsOf (z : Int) : List Str := Str.ofString "." :: figsL 5 ((z.fdiv 4).fmod 625).toNat
noncomputable def preOf (b : Bool) : List Str := if b = true then [Str.ofString ""] else []
theorem piece_eq (z : Int) : pieceOf z = jn (preOf (rtOf z) ++ ptsOf z) := by
  unfold pieceOf rtOf preOf ptsOf
  by_cases h : z.fmod 4 = 3
  · rw [if_pos h, if_pos (by simp [h])]
    have e : Str.ofString "/." = jn [Str.ofString "", Str.ofString "."] := by rw [jn_eq]; decide +kernel
    rw [e, figs_eq _ _ _ (by simp)]; rfl
  · rw [if_neg h, if_neg (by simp [h])]
    have e : Str.ofString "." = jn [Str.ofString "."] := (jn_one _).symm
    rw [e, figs_eq _ _ _ (by simp), jn_one]; rfl
/-- the four words of a part -/
def Word (c : Str) : Prop := c = Str.ofString "\"" ∨ c = Str.ofString ".." ∨ c = Str.ofString "." ∨ c = Str.ofString ""
theorem tab_word (k : Nat) : Word (tabN k) := by
  unfold tabN Word
  split <;> simp
theorem figs_word : ∀ (n f : Nat) (c : Str), c ∈ figsL n f → Word c
  | 0, _, c, h => by simp [figsL] at h
  | n + 1, f, c, h => by
    unfold figsL at h
    split at h
    · simp at h
    · rcases List.mem_cons.mp h with rfl | h
      · exact tab_word _
      · exact figs_word n _ c h
theorem pts_word (z : Int) (c : Str) (h : c ∈ ptsOf z) : Word c := by
  rcases List.mem_cons.mp h with rfl | h
  · exact .inr (.inr (.inl rfl))
  · exact figs_word _ _ c h
theorem word_free {c : Str} (h : Word c) : Free c := by
  unfold Free
  rcases h with rfl | rfl | rfl | rfl <;> decide +kernel
theorem figs_count : ∀ (n f : Nat), (figsL n f).length ≤ n
  | 0, _ => Nat.le_refl _
  | n + 1, f => by
    unfold figsL
    split
    · simp
    · have := figs_count n (f / 5)
      rw [List.length_cons]; omega
theorem pts_count (z : Int) : (ptsOf z).length ≤ 6 := by
  have := figs_count 5 ((z.fdiv 4).fmod 625).toNat
  unfold ptsOf
  rw [List.length_cons]; omega
end
end
section
section
variable {w : World} {p : Program} {loose : List Str} {mean : ExcName → Option Value} {mg mb : Str → Option Value} {s : Shared} {dp un : Nat} {fr : Option (List Env)} {gd : Option (List Code)} {E : Value → Shared → Prop}
theorem len_ls (x : Str) : x.length = (Ls x).length := by
  show x.cps.size = x.cps.toList.length
  simp
theorem ls_mk (l : List Nat) : Ls ⟨l.toArray⟩ = l := by simp [Ls]
theorem beq_iff (x y : Str) : ((x == y) = true) ↔ x = y := beq_iff_eq
theorem bne_iff (x y : Str) : ((x != y) = true) ↔ x ≠ y := bne_iff_ne
theorem mark_ls : Ls (Str.ofString "\"") = [34] := by decide +kernel
theorem dots_ls : Ls (Str.ofString "..") = [46, 46] := by decide +kernel
theorem dot_ls : Ls (Str.ofString ".") = [46] := by decide +kernel
theorem slash_ls : Ls (Str.ofString "/") = [47] := by decide +kernel
theorem x_ls : Ls (Str.ofString "x") = [120] := by decide +kernel
theorem y_ls : Ls (Str.ofString "y") = [121] := by decide +kernel
theorem none_ls : Ls (Str.ofString "") = [] := by decide +kernel
theorem sw_one (x y : Str) (c : Nat) (h : Ls y = [c]) : Txt.startswith x y = true ↔ ∃ r, Ls x = c :: r := by
  unfold Txt.startswith
  rw [Bool.and_eq_true, decide_eq_true_iff, StrLaws.subAt_eq, beq_iff_eq, len_ls y, len_ls x]
  change 0 + (Ls y).length ≤ (Ls x).length ∧ ((Ls x).drop 0).take (Ls y).length = Ls y ↔ _
  rw [h]
  cases e : Ls x with
  | nil => simp
  | cons d r => simp
theorem ew_one (x y : Str) (c : Nat) (h : Ls y = [c]) : Txt.endswith x y = true ↔ ∃ r, Ls x = r ++ [c] := by
  unfold Txt.endswith
  rw [Bool.and_eq_true, decide_eq_true_iff, StrLaws.subAt_eq, beq_iff_eq, len_ls y, len_ls x]
  change 0 + (Ls y).length ≤ (Ls x).length ∧ ((Ls x).drop ((Ls x).length - (Ls y).length)).take (Ls y).length = Ls y ↔ _
  rw [h]
  rcases List.eq_nil_or_concat (Ls x) with e | ⟨r, d, e⟩
  · rw [e]; simp
  · rw [e]; simp
theorem ls_tail (x : Str) : Ls (Txt.slice x (some 1) none) = (Ls x).drop 1 := by
  by_cases h : 1 ≤ (Ls x).length
  · have e := StrLaws.sliceText_from (x := x) (i := 1) ⟨by omega, by show (1 : Int) ≤ ((Ls x).length : Int); omega⟩
    have e' : Txt.slice x (some 1) none = _ := e
    rw [e', ls_mk]
    show List.take _ (List.drop 1 (Ls x)) = _
    apply List.take_of_length_le
    rw [List.length_drop]
    show _ ≤ (((Ls x).length : Int) - 1).toNat
    omega
  · have h1 := Txt.slice_le x (some 1) none
    rw [len_ls, len_ls x] at h1
    have e0 : Ls x = [] := List.eq_nil_of_length_eq_zero (by omega)
    rw [List.eq_nil_of_length_eq_zero (l := Ls (Txt.slice x (some 1) none)) (by omega), e0]; rfl
theorem ls_init (x : Str) : Ls (Txt.slice x none (some (-1))) = (Ls x).dropLast := by
  by_cases h : 1 ≤ (Ls x).length
  · have e := StrLaws.sliceText_to_neg (x := x) (j := -1) (by omega) (by rw [len_ls]; omega)
    have e' : Txt.slice x none (some (-1)) = _ := e
    rw [e', ls_mk, List.dropLast_eq_take]
    show List.take _ (List.drop 0 (Ls x)) = _
    rw [List.drop_zero, len_ls]
    congr 1
    omega
  · have h1 := Txt.slice_le x none (some (-1))
    rw [len_ls, len_ls x] at h1
    have e0 : Ls x = [] := List.eq_nil_of_length_eq_zero (by omega)
    rw [List.eq_nil_of_length_eq_zero (l := Ls (Txt.slice x none (some (-1)))) (by omega), e0]; rfl
theorem ls_first (x : Str) : Ls (Txt.slice x none (some 1)) = (Ls x).take 1 := by
  by_cases h : 1 ≤ (Ls x).length
  · have e := StrLaws.sliceText_to (x := x) (j := 1) ⟨by omega, by show (1 : Int) ≤ ((Ls x).length : Int); omega⟩
    have e' : Txt.slice x none (some 1) = _ := e
    rw [e', ls_mk]
    rfl
  · have h1 := Txt.slice_le x none (some 1)
    rw [len_ls, len_ls x] at h1
    have e0 : Ls x = [] := List.eq_nil_of_length_eq_zero (by omega)
    rw [List.eq_nil_of_length_eq_zero (l := Ls (Txt.slice x none (some 1))) (by omega), e0]; rfl
theorem ls_second (x : Str) (h : 2 ≤ (Ls x).length) : Ls (Txt.slice x (some 1) (some 2)) = ((Ls x).drop 1).take 1 := by
  have e := StrLaws.sliceText_plain (x := x) (i := 1) (j := 2) ⟨by omega, by omega, by show (2 : Int) ≤ ((Ls x).length : Int); omega⟩
  have e' : Txt.slice x (some 1) (some 2) = _ := e
  rw [e', ls_mk]
  rfl
theorem fold_rep (c : Array Nat) : ∀ (n : Nat) (acc : Array Nat), ((List.replicate n c).foldl (· ++ ·) acc).toList = acc.toList ++ (List.replicate n c.toList).flatten
  | 0, acc => by simp
  | n + 1, acc => by
    rw [List.replicate_succ, List.foldl_cons, fold_rep c n, List.replicate_succ, List.flatten_cons]
    simp
theorem ls_mul (n : Int) : Ls (Txt.mul (Str.ofString "\"") n) = List.replicate n.toNat 34 := by
  unfold Txt.mul
  split
  · rename_i h
    have e : n.toNat = 0 := by omega
    rw [e]; rfl
  · split
    · rename_i h1 h
      have e2 : (Str.ofString "\"").length = 1 := by decide
      rw [e2] at h
      have e : n = 1 := by simpa using h
      rw [e, mark_ls]; rfl
    · have e := fold_rep (Str.ofString "\"").cps n.toNat #[]
      have e3 : (Str.ofString "\"").cps.toList = [34] := mark_ls
      rw [e3] at e
      show ((List.replicate n.toNat (Str.ofString "\"").cps).foldl (· ++ ·) #[]).toList = _
      rw [e]
      simp
end
end
section
section
variable {w : World} {p : Program} {loose : List Str} {mean : ExcName → Option Value} {mg mb : Str → Option Value} {s : Shared} {dp un : Nat} {fr : Option (List Env)} {gd : Option (List Code)} {E : Value → Shared → Prop}
/-- what the deeds of parts make of (two dots ahead, marks behind) -/
noncomputable def duS (s : Nat × Nat) (c : Str) : Nat × Nat :=
  if (c == Str.ofString "\"") = true then (s.1, s.2 + 1)
  else if (c == Str.ofString "..") = true then (if s.2 = 0 then (s.1 + 1, 0) else (s.1, s.2 - 1)) else s
theorem c_md : (Str.ofString "\"" == Str.ofString "..") = false := by decide +kernel
theorem c_mo : (Str.ofString "\"" == Str.ofString ".") = false := by decide +kernel
theorem c_dm : (Str.ofString ".." == Str.ofString "\"") = false := by decide +kernel
theorem c_do : (Str.ofString ".." == Str.ofString ".") = false := by decide +kernel
theorem c_om : (Str.ofString "." == Str.ofString "\"") = false := by decide +kernel
theorem c_od : (Str.ofString "." == Str.ofString "..") = false := by decide +kernel
theorem c_em : (Str.ofString "" == Str.ofString "\"") = false := by decide +kernel
theorem c_ed : (Str.ofString "" == Str.ofString "..") = false := by decide +kernel
theorem c_dnd : (Str.ofString ".." != Str.ofString "..") = false := by decide +kernel
theorem c_mnd : (Str.ofString "\"" != Str.ofString "..") = true := by decide +kernel
theorem l_m : (Str.ofString "\"").length = 1 := by decide +kernel
theorem l_d : (Str.ofString "..").length = 2 := by decide +kernel
theorem l_o : (Str.ofString ".").length = 1 := by decide +kernel
theorem l_e : (Str.ofString "").length = 0 := by decide +kernel
def Idle (c : Str) : Prop := c = Str.ofString "." ∨ c = Str.ofString ""
theorem du_m (s : Nat × Nat) : duS s (Str.ofString "\"") = (s.1, s.2 + 1) := by simp [duS]
theorem du_d0 (d : Nat) : duS (d, 0) (Str.ofString "..") = (d + 1, 0) := by simp [duS, c_dm]
theorem du_d1 (d u : Nat) : duS (d, u + 1) (Str.ofString "..") = (d, u) := by simp [duS, c_dm]
theorem du_i {c : Str} (h : Idle c) (s : Nat × Nat) : duS s c = s := by
  rcases h with rfl | rfl
  · simp [duS, c_om, c_od]
  · simp [duS, c_em, c_ed]
theorem word_cases {c : Str} (h : Word c) : c = Str.ofString "\"" ∨ c = Str.ofString ".." ∨ Idle c := by
  rcases h with h | h | h | h
  · exact .inl h
  · exact .inr (.inl h)
  · exact .inr (.inr (.inl h))
  · exact .inr (.inr (.inr h))
theorem fp_m (a b : Int) (h : b ≤ a) : formPart (a, b) (Str.ofString "\"") = (a + 1, b) := by
  have e : ¬ a + 1 < b := by omega
  simp [formPart, formNext, c_md, e]
theorem fp_d (a b : Int) : formPart (a, b) (Str.ofString "..") = (a - 1, if a - 1 < b then a - 1 else b) := by
  simp [formPart, formNext, c_dm]
theorem fp_i {c : Str} (hc : Idle c) (a b : Int) (h : b ≤ a) : formPart (a, b) c = (a, b) := by
  have e : ¬ a < b := by omega
  rcases hc with rfl | rfl
  · simp [formPart, formNext, c_om, c_od, e]
  · simp [formPart, formNext, c_em, c_ed, e]
/-- the sums told by (down, up) -/
noncomputable def fmOf (s : Nat × Nat) : Int × Int := ((s.2 : Int) - (s.1 : Int), -(s.1 : Int))
theorem fm_du : ∀ (cs : List Str), (∀ c ∈ cs, Word c) → ∀ s, cs.foldl formPart (fmOf s) = fmOf (cs.foldl duS s)
  | [], _, _ => rfl
  | c :: r, h, (d, u) => by
    have hr := fm_du r fun x hx => h x (.tail _ hx)
    rw [List.foldl_cons, List.foldl_cons, ← hr]
    congr 1
    unfold fmOf
    rcases word_cases (h c (.head _)) with rfl | rfl | hi
    · rw [fp_m _ _ (by show -(d : Int) ≤ (u : Int) - (d : Int); omega), du_m]
      refine Prod.ext ?_ rfl
      show (u : Int) - d + 1 = ((u + 1 : Nat) : Int) - d
      omega
    · rw [fp_d]
      cases u with
      | zero =>
        rw [du_d0]
        have e : ((0 : Nat) : Int) - (d : Int) - 1 < -(d : Int) := by omega
        rw [if_pos e]
        refine Prod.ext ?_ ?_
        · show ((0 : Nat) : Int) - (d : Int) - 1 = ((0 : Nat) : Int) - ((d + 1 : Nat) : Int); omega
        · show ((0 : Nat) : Int) - (d : Int) - 1 = -((d + 1 : Nat) : Int); omega
      | succ u =>
        rw [du_d1]
        have e : ¬ ((u + 1 : Nat) : Int) - (d : Int) - 1 < -(d : Int) := by omega
        rw [if_neg e]
        refine Prod.ext ?_ rfl
        show ((u + 1 : Nat) : Int) - (d : Int) - 1 = (u : Int) - (d : Int); omega
    · rw [du_i hi, fp_i hi _ _ (by show -(d : Int) ≤ (u : Int) - (d : Int); omega)]
theorem st_m (r : Str) (st : List Str) : stepN r st (Str.ofString "\"") = st ++ [Str.ofString "\""] := by
  unfold stepN
  rw [l_m, if_neg (by decide), c_mo, if_neg (by decide), c_mnd, if_pos rfl]
theorem st_i (r : Str) (st : List Str) {c : Str} (h : Idle c) : stepN r st c = st := by
  unfold stepN
  rcases h with rfl | rfl
  · rw [l_o, if_neg (by decide), if_pos (by decide +kernel)]
  · rw [l_e]; exact if_pos rfl
theorem st_d (r : Str) (st : List Str) : stepN r st (Str.ofString "..") = match st.getLast? with
    | none => if ((r.length : Nat) : Int) = 0 then st ++ [Str.ofString ".."] else st
    | some z => if (z == Str.ofString "..") = true then st ++ [Str.ofString ".."] else st.dropLast := by
  unfold stepN
  rw [l_d, if_neg (by decide), c_do, if_neg (by decide), c_dnd, if_neg (by decide)]
  all_goals (cases st.getLast? <;> rfl)
/-- what normpath keeps -/
noncomputable def stOf (b : Bool) (s : Nat × Nat) : List Str := (if b = true then [] else List.replicate s.1 (Str.ofString "..")) ++ List.replicate s.2 (Str.ofString "\"")
noncomputable def rtStr (b : Bool) : Str := if b = true then Str.ofString "/" else Str.ofString ""
theorem st_step (b : Bool) (s : Nat × Nat) (c : Str) (h : Word c) : stepN (rtStr b) (stOf b s) c = stOf b (duS s c) := by
  obtain ⟨d, u⟩ := s
  rcases word_cases h with rfl | rfl | hi
  · rw [st_m, du_m]; unfold stOf
    show _ = _ ++ List.replicate (u + 1) _
    rw [List.append_assoc, List.replicate_succ']
  · rw [st_d]
    cases u with
    | succ u =>
      rw [du_d1]
      have e : stOf b (d, u + 1) = stOf b (d, u) ++ [Str.ofString "\""] := by
        unfold stOf
        show _ ++ List.replicate (u + 1) _ = _ ++ List.replicate u _ ++ _
        rw [List.append_assoc, List.replicate_succ']
      rw [e, List.getLast?_append]
      simp [c_md]
    | zero =>
      rw [du_d0]
      unfold stOf rtStr
      cases b with
      | true =>
        have e : (Str.ofString "/").length = 1 := by decide +kernel
        simp [e]
      | false =>
        simp only [Bool.false_eq_true, if_false, List.replicate_zero, List.append_nil, l_e]
        cases d with
        | zero => simp
        | succ d =>
          have e : (List.replicate (d + 1) (Str.ofString "..")).getLast? = some (Str.ofString "..") := by rw [List.replicate_succ']; simp
          rw [e]
          simp only [beq_self_eq_true, if_true]
          exact (List.replicate_succ' (n := d + 1) (a := Str.ofString "..")).symm
  · rw [st_i _ _ hi, du_i hi]
theorem st_run (b : Bool) : ∀ (cs : List Str), (∀ c ∈ cs, Word c) → ∀ s, cs.foldl (stepN (rtStr b)) (stOf b s) = stOf b (cs.foldl duS s)
  | [], _, _ => rfl
  | c :: r, h, s => by
    rw [List.foldl_cons, List.foldl_cons, st_step b s c (h c (.head _))]
    exact st_run b r (fun x hx => h x (.tail _ hx)) _
theorem du_dots : ∀ (n d : Nat), (List.replicate n (Str.ofString "..")).foldl duS (d, 0) = (d + n, 0)
  | 0, d => rfl
  | n + 1, d => by
    rw [List.replicate_succ, List.foldl_cons, du_d0, du_dots n (d + 1)]
    congr 1; omega
theorem du_marks : ∀ (n d u : Nat), (List.replicate n (Str.ofString "\"")).foldl duS (d, u) = (d, u + n)
  | 0, d, u => rfl
  | n + 1, d, u => by
    rw [List.replicate_succ, List.foldl_cons, du_m]
    show (List.replicate n (Str.ofString "\"")).foldl duS (d, u + 1) = _
    rw [du_marks n d (u + 1)]
    congr 1; omega
theorem du_le : ∀ (cs : List Str) (s : Nat × Nat), (cs.foldl duS s).1 ≤ s.1 + cs.count (Str.ofString "..") ∧ (cs.foldl duS s).2 ≤ s.2 + cs.length
  | [], s => by simp
  | c :: r, (d, u) => by
    have ih := du_le r (duS (d, u) c)
    rw [List.foldl_cons, List.length_cons, List.count_cons]
    by_cases h1 : c = Str.ofString "\""
    · subst h1
      rw [du_m] at ih ⊢
      refine ⟨?_, ?_⟩
      · have := ih.1; show _ ≤ d + _; simp only at this; omega
      · have := ih.2; show _ ≤ u + _; simp only at this; omega
    · by_cases h2 : c = Str.ofString ".."
      · subst h2
        rw [beq_self_eq_true, if_pos rfl]
        cases u with
        | zero => rw [du_d0] at ih ⊢; have h1 := ih.1; have h2 := ih.2; simp only at h1 h2 ⊢; omega
        | succ u => rw [du_d1] at ih ⊢; have h1 := ih.1; have h2 := ih.2; simp only at h1 h2 ⊢; omega
      · have e1 : (c == Str.ofString "\"") = false := by rw [beq_eq_false_iff_ne]; exact h1
        have e2 : (c == Str.ofString "..") = false := by rw [beq_eq_false_iff_ne]; exact h2
        have e : duS (d, u) c = (d, u) := by simp [duS, e1, e2]
        rw [e] at ih ⊢
        rw [e2]
        have h1 := ih.1; have h2 := ih.2; simp only [Bool.false_eq_true, if_false] at h1 h2 ⊢; omega
end
end
section
section
variable {w : World} {p : Program} {loose : List Str} {mean : ExcName → Option Value} {mg mb : Str → Option Value} {s : Shared} {dp un : Nat} {fr : Option (List Env)} {gd : Option (List Code)} {E : Value → Shared → Prop}
/-- a text: marks, a core, marks -/
noncomputable def txt (a : Nat) (core : List Nat) (b : Nat) : List Nat := List.replicate a 34 ++ core ++ List.replicate b 34
theorem ls_act_m (x : Str) : Ls (actF x (Str.ofString "\"")) = 34 :: Ls x ++ [34] := by
  unfold actF
  rw [beq_self_eq_true, if_pos rfl, ls_app, ls_app, mark_ls]; rfl
theorem act_i {c : Str} (h : Idle c) (x : Str) : actF x c = x := by
  unfold actF
  rcases h with rfl | rfl
  · rw [c_om, c_od, if_neg (by decide), if_neg (by decide)]
  · rw [c_em, c_ed, if_neg (by decide), if_neg (by decide)]
theorem act_d (x : Str) : actF x (Str.ofString "..") = stripF x := by
  unfold actF
  rw [c_dm, if_neg (by decide), beq_self_eq_true, if_pos rfl]
noncomputable def trimR (l : List Nat) : List Nat := if l.getLast? = some 34 then l.dropLast else l
noncomputable def trimL (l : List Nat) : List Nat := if l.head? = some 34 then l.drop 1 else l
theorem sw_mark (x : Str) : Txt.startswith x (Str.ofString "\"") = true ↔ (Ls x).head? = some 34 := by
  rw [sw_one x _ 34 mark_ls]
  cases Ls x with
  | nil => simp
  | cons c r => simp
theorem ew_mark (x : Str) : Txt.endswith x (Str.ofString "\"") = true ↔ (Ls x).getLast? = some 34 := by
  rw [ew_one x _ 34 mark_ls]
  rcases List.eq_nil_or_concat (Ls x) with e | ⟨r, d, e⟩
  · rw [e]; simp
  · rw [e]; simp
theorem ls_strip (x : Str) : Ls (stripF x) = trimR (trimL (Ls x)) := by
  unfold stripF trimL
  by_cases h1 : (Ls x).head? = some 34
  · rw [if_pos ((sw_mark x).mpr h1), if_pos h1, ← ls_tail x]
    unfold trimR
    by_cases h2 : (Ls (Txt.slice x (some 1) none)).getLast? = some 34
    · rw [if_pos ((ew_mark _).mpr h2), if_pos h2, ls_init]
    · rw [if_neg (fun q => h2 ((ew_mark _).mp q)), if_neg h2]
  · rw [if_neg (fun q => h1 ((sw_mark x).mp q)), if_neg h1]
    unfold trimR
    by_cases h2 : (Ls x).getLast? = some 34
    · rw [if_pos ((ew_mark _).mpr h2), if_pos h2, ls_init]
    · rw [if_neg (fun q => h2 ((ew_mark _).mp q)), if_neg h2]
theorem trimL_txt (a b k : Nat) (hk : k ≠ 34) : trimL (txt a [k] b) = txt (a - 1) [k] b := by
  unfold trimL txt
  cases a with
  | zero => simp [hk]
  | succ a => simp [List.replicate_succ]
theorem trimR_txt (a b k : Nat) (hk : k ≠ 34) : trimR (txt a [k] b) = txt a [k] (b - 1) := by
  unfold trimR txt
  cases b with
  | zero => simp [hk]
  | succ b =>
    rw [List.replicate_succ', ← List.append_assoc, List.getLast?_append, List.dropLast_append_of_ne_nil (by simp)]
    simp
theorem trim_empty (n : Nat) : trimR (trimL (List.replicate n 34)) = List.replicate (n - 2) 34 := by
  cases n with
  | zero => rfl
  | succ n =>
    have e : trimL (List.replicate (n + 1) 34) = List.replicate n 34 := by unfold trimL; simp [List.replicate_succ]
    rw [e]
    cases n with
    | zero => rfl
    | succ n => unfold trimR; rw [List.replicate_succ']; simp
/-- the deeds on a text with a core -/
theorem core_run (k : Nat) (hk : k ≠ 34) (a b : Nat) : ∀ (cs : List Str), (∀ c ∈ cs, Word c) → ∀ (s : Nat × Nat) (x : Str), Ls x = txt ((a - s.1) + s.2) [k] ((b - s.1) + s.2) →
    Ls (cs.foldl actF x) = txt ((a - (cs.foldl duS s).1) + (cs.foldl duS s).2) [k] ((b - (cs.foldl duS s).1) + (cs.foldl duS s).2)
  | [], _, _, _, h => h
  | c :: r, hc, (d, u), x, h => by
    rw [List.foldl_cons, List.foldl_cons]
    refine core_run k hk a b r (fun y hy => hc y (.tail _ hy)) _ _ ?_
    simp only at h
    rcases word_cases (hc c (.head _)) with rfl | rfl | hi
    · rw [ls_act_m, du_m, h]
      unfold txt
      show _ = List.replicate (a - d + (u + 1)) 34 ++ _ ++ List.replicate (b - d + (u + 1)) 34
      rw [← Nat.add_assoc, ← Nat.add_assoc, List.replicate_succ, List.replicate_succ' (n := b - d + u)]
      simp
    · rw [act_d, ls_strip, h, trimL_txt _ _ _ hk, trimR_txt _ _ _ hk]
      cases u with
      | zero =>
        rw [du_d0]
        have e : ∀ a : Nat, a - d + 0 - 1 = a - (d + 1) + 0 := fun a => Nat.sub_sub a d 1
        rw [e, e]
      | succ u => rw [du_d1]; rfl
    · rw [act_i hi, du_i hi, h]
/-- the deeds on a text of marks alone -/
theorem bare_run (n : Nat) : ∀ (cs : List Str), (∀ c ∈ cs, Word c) → ∀ (s : Nat × Nat) (x : Str), Ls x = List.replicate ((n - 2 * s.1) + 2 * s.2) 34 →
    Ls (cs.foldl actF x) = List.replicate ((n - 2 * (cs.foldl duS s).1) + 2 * (cs.foldl duS s).2) 34
  | [], _, _, _, h => h
  | c :: r, hc, (d, u), x, h => by
    rw [List.foldl_cons, List.foldl_cons]
    refine bare_run n r (fun y hy => hc y (.tail _ hy)) _ _ ?_
    simp only at h
    rcases word_cases (hc c (.head _)) with rfl | rfl | hi
    · rw [ls_act_m, du_m, h]
      show _ = List.replicate (n - 2 * d + 2 * (u + 1)) 34
      have e : n - 2 * d + 2 * (u + 1) = (n - 2 * d + 2 * u) + 1 + 1 := rfl
      rw [e, List.replicate_succ, List.replicate_succ']
      simp
    · rw [act_d, ls_strip, h, trim_empty]
      cases u with
      | zero =>
        rw [du_d0]
        have e : n - 2 * d + 2 * 0 - 2 = n - 2 * (d + 1) + 2 * 0 := Nat.sub_sub n (2 * d) 2
        rw [e]
      | succ u =>
        rw [du_d1]
        have e : n - 2 * d + 2 * (u + 1) - 2 = n - 2 * d + 2 * u := Nat.add_sub_cancel (n := n - 2 * d + 2 * u) (m := 2)
        rw [e]
    · rw [act_i hi, du_i hi, h]
def coreOf (k : Int × Str × Int) : Prop := 0 ≤ k.1 ∧ 0 ≤ k.2.2 ∧ (k.2.1 = Str.ofString "" ∨ k.2.1 = Str.ofString "x" ∨ k.2.1 = Str.ofString "y")
theorem ls_kind (k : Int × Str × Int) : Ls (kindText k) = txt k.1.toNat (Ls k.2.1) k.2.2.toNat := by
  unfold kindText txt
  rw [ls_app, ls_app, ls_mul, ls_mul]
theorem n_xe : (Str.ofString "x" == Str.ofString "") = false := by decide +kernel
theorem n_ye : (Str.ofString "y" == Str.ofString "") = false := by decide +kernel
theorem toNat_less (a : Int) (h : 0 ≤ a) (d : Nat) : (a - (d : Int)).toNat = a.toNat - d := by
  obtain ⟨n, rfl⟩ := Int.eq_ofNat_of_zero_le h
  exact Int.toNat_sub n d
/-- the told text, and what deeds make of the kind's text (or of x) -/
theorem text_run (k : Int × Str × Int) (hk : coreOf k) (b : Bool) (cs : List Str) (hc : ∀ c ∈ cs, Word c) {d u : Nat} (hu : (cs.foldl duS (0, 0)).2 = u) (hd : b = false → (cs.foldl duS (0, 0)).1 = d) :
    cs.foldl actF (if b = true then Str.ofString "x" else kindText k) = textF b (d : Int) (u : Int) k.1 k.2.1 k.2.2 := by
  apply ls_inj
  obtain ⟨h1, h2, h3⟩ := hk
  cases b with
  | true =>
    rw [if_pos rfl, core_run 120 (by decide) 0 0 cs hc (0, 0) _ (by rw [x_ls]; rfl), hu]
    unfold textF
    rw [if_pos rfl, ls_app, ls_app, ls_mul, x_ls]
    unfold txt
    have e1 : 0 - (cs.foldl duS (0, 0)).1 + u = u := by rw [Nat.zero_sub, Nat.zero_add]
    have e2 : (u : Int).toNat = u := Int.toNat_natCast u
    rw [e1, e2]
  | false =>
    have hd := hd rfl
    have e0 : (u : Int).toNat = u := Int.toNat_natCast u
    have fin : ∀ (c : Nat), c ≠ 34 → Ls k.2.1 = [c] → (k.2.1 == Str.ofString "") = false → Ls (cs.foldl actF (kindText k)) = Ls (textF false (d : Int) (u : Int) k.1 k.2.1 k.2.2) := by
      intro c hc34 hl hne
      rw [core_run c hc34 k.1.toNat k.2.2.toNat cs hc (0, 0) _ (by rw [ls_kind, hl]; rfl), hu, hd]
      unfold textF
      rw [if_neg (by decide), hne, if_neg (by decide)]
      simp only [ls_app, ls_mul, hl, e0]
      have e1 := toNat_less k.1 h1 d
      have e2 := toNat_less k.2.2 h2 d
      rw [e1, e2, List.replicate_append_replicate, List.append_assoc (List.replicate (u + _) 34 ++ [c]), List.replicate_append_replicate]
      unfold txt
      rw [Nat.add_comm]
    rw [if_neg (by decide)]
    rcases h3 with e | e | e
    · rw [bare_run (k.1.toNat + k.2.2.toNat) cs hc (0, 0) _ (by rw [ls_kind, e, none_ls]; unfold txt; simp), hu, hd]
      unfold textF
      rw [if_neg (by decide), e, beq_self_eq_true, if_pos rfl]
      simp only [ls_app, ls_mul, e0]
      have e1 : (k.1 + k.2.2 - 2 * (d : Int)).toNat = k.1.toNat + k.2.2.toNat - 2 * d := by
        rw [← Int.toNat_add h1 h2]
        exact toNat_less _ (Int.add_nonneg h1 h2) (2 * d)
      rw [e1, List.replicate_append_replicate, List.replicate_append_replicate, Nat.add_comm u, Nat.add_assoc, ← Nat.two_mul]
    · exact fin 120 (by decide) (by rw [e, x_ls]) (by rw [e]; exact n_xe)
    · exact fin 121 (by decide) (by rw [e, y_ls]) (by rw [e]; exact n_ye)
end
end
section
section
variable {w : World} {p : Program} {loose : List Str} {mean : ExcName → Option Value} {mg mb : Str → Option Value} {s : Shared} {dp un : Nat} {fr : Option (List Env)} {gd : Option (List Code)} {E : Value → Shared → Prop}
/-- parts that may stand behind the slash in front: words, the first of them not empty -/
def Parts (ps : List Str) : Prop := (∀ c ∈ ps, Word c) ∧ ∃ c r, ps = c :: r
def Firm (ps : List Str) : Prop := ∃ c r, ps = c :: r ∧ c ≠ Str.ofString ""
theorem pre_false : preOf false = [] := rfl
theorem pre_true : preOf true = [Str.ofString ""] := rfl
theorem pre_words (b : Bool) {ps : List Str} (h : ∀ c ∈ ps, Word c) : ∀ c ∈ preOf b ++ ps, Word c := by
  intro c hc
  rcases List.mem_append.mp hc with hc | hc
  · unfold preOf at hc
    split at hc
    · rw [List.mem_singleton.mp hc]; exact .inr (.inr (.inr rfl))
    · simp at hc
  · exact h c hc
theorem split_jn (b : Bool) {ps : List Str} (h : Parts ps) : Txt.split (jn (preOf b ++ ps)) (Str.ofString "/") = preOf b ++ ps := by
  obtain ⟨h1, c, r, rfl⟩ := h
  exact split_join _ (by simp) fun x hx => word_free (pre_words b h1 x hx)
theorem jn_root {ps : List Str} (h : ps ≠ []) : jn (preOf true ++ ps) = Str.ofString "/" ++ jn ps := by
  rw [pre_true, List.singleton_append, jn_cons _ h]
  apply ls_inj
  rw [ls_app, ls_app, ls_app, none_ls]; rfl
theorem word_head {c : Str} (h : Word c) (hn : c ≠ Str.ofString "") : ∃ a r, Ls c = a :: r ∧ a ≠ 47 := by
  rcases h with rfl | rfl | rfl | rfl
  · exact ⟨_, _, mark_ls, by decide⟩
  · exact ⟨_, _, dots_ls, by decide⟩
  · exact ⟨_, _, dot_ls, by decide⟩
  · exact absurd rfl hn
/-- the first figure of parts -/
theorem jn_head {ps : List Str} (hw : ∀ c ∈ ps, Word c) (h : Firm ps) : ∃ a r, Ls (jn ps) = a :: r ∧ a ≠ 47 := by
  obtain ⟨c, r, rfl, hn⟩ := h
  obtain ⟨a, q, e, ha⟩ := word_head (hw c (.head _)) hn
  cases r with
  | nil => exact ⟨a, q, by rw [jn_one, e], ha⟩
  | cons d r => exact ⟨a, _, by rw [jn_cons _ (by simp), ls_app, ls_app, e]; rfl, ha⟩
theorem starts_root {ps : List Str} (h : ps ≠ []) : Txt.startswith (jn (preOf true ++ ps)) (Str.ofString "/") = true := by
  rw [sw_one _ _ 47 slash_ls, jn_root h, ls_app, slash_ls]
  exact ⟨_, rfl⟩
theorem starts_firm {ps : List Str} (hw : ∀ c ∈ ps, Word c) (h : Firm ps) : ¬ Txt.startswith (jn (preOf false ++ ps)) (Str.ofString "/") = true := by
  rw [sw_one _ _ 47 slash_ls, pre_false, List.nil_append]
  obtain ⟨a, r, e, ha⟩ := jn_head hw h
  rintro ⟨q, e'⟩
  rw [e] at e'
  exact ha (List.cons.inj e').1
theorem act_empty (x : Str) : actF x (Str.ofString "") = x := act_i (.inr rfl) x
/-- the deeds of a path -/
theorem run_jn (b : Bool) {ps : List Str} (h : Parts ps) (hf : b = false → Firm ps) (t : Str) : runF t (jn (preOf b ++ ps)) = ps.foldl actF (if b = true then Str.ofString "x" else t) := by
  have hne : ps ≠ [] := by obtain ⟨-, c, r, rfl⟩ := h; simp
  unfold runF
  rw [split_jn b h]
  cases b with
  | true =>
    rw [if_pos (starts_root hne), if_pos rfl, pre_true, List.singleton_append, List.foldl_cons, act_empty]
  | false =>
    rw [if_neg (starts_firm h.1 (hf rfl)), if_neg (by decide), pre_false, List.nil_append]
theorem form_root {ps : List Str} (h : Parts ps) (st : Bool × Int × Int) : formPiece st (jn (preOf true ++ ps)) = (true, ps.foldl formPart (0, 0)) := by
  have hne : ps ≠ [] := by obtain ⟨-, c, r, rfl⟩ := h; simp
  have e : formStart st (jn (preOf true ++ ps)) = (true, 0, 0) := by
    unfold formStart
    refine if_pos ?_
    rw [beq_iff_eq]
    apply ls_inj
    rw [ls_first, jn_root hne, ls_app, slash_ls]; rfl
  unfold formPiece
  rw [e, split_jn true h, pre_true, List.singleton_append, List.foldl_cons, fp_i (.inr rfl) 0 0 (Int.le_refl 0)]
theorem form_free {ps : List Str} (h : Parts ps) (hf : Firm ps) (st : Bool × Int × Int) : formPiece st (jn (preOf false ++ ps)) = (st.1, ps.foldl formPart st.2) := by
  have e : formStart st (jn (preOf false ++ ps)) = st := by
    unfold formStart
    refine if_neg ?_
    rw [beq_iff_eq]
    intro q
    have q := congrArg Ls q
    obtain ⟨a, r, e, ha⟩ := jn_head h.1 hf
    rw [ls_first, pre_false, List.nil_append, e, slash_ls] at q
    exact ha (List.cons.inj q).1
  unfold formPiece
  rw [e, split_jn false h, pre_false, List.nil_append]
theorem jn_last : ∀ {ps : List Str}, ps ≠ [] → ∃ q, Ls (jn ps) = q ++ Ls (ps.getLast?.getD (Str.ofString ""))
  | [], h => absurd rfl h
  | [c], _ => ⟨[], by rw [jn_one]; rfl⟩
  | c :: d :: r, _ => by
    obtain ⟨q, e⟩ := jn_last (ps := d :: r) (by simp)
    refine ⟨Ls c ++ Ls (Str.ofString "/") ++ q, ?_⟩
    rw [jn_cons _ (by simp), ls_app, ls_app, e, List.getLast?_cons_cons, List.append_assoc (Ls c ++ _)]
/-- a further piece behind parts -/
theorem jn_more {xs ps : List Str} (hx : xs ≠ []) (hp : ps ≠ []) : jn xs ++ (Str.ofString "/" ++ jn ps) = jn (xs ++ ps) := by
  rw [jn_app hx hp, app_assoc]
theorem jn_slash {xs ps : List Str} (hx : xs ≠ []) (hp : ps ≠ []) : jn (xs ++ [Str.ofString ""]) ++ jn ps = jn (xs ++ ps) := by
  rw [jn_app hx (by simp), jn_one, jn_app hx hp]
  apply ls_inj
  simp only [ls_app, none_ls, List.append_nil]
theorem join_root {ps : List Str} (h : ps ≠ []) (x : Str) : joinF x (jn (preOf true ++ ps)) = jn (preOf true ++ ps) := by
  unfold joinF
  rw [if_pos (starts_root h)]
theorem last_word {c : Str} (h : Word c) (hn : c ≠ Str.ofString "") : ∃ q a, Ls c = q ++ [a] ∧ a ≠ 47 := by
  rcases h with rfl | rfl | rfl | rfl
  · exact ⟨[], _, mark_ls, by decide⟩
  · exact ⟨[46], _, dots_ls, by decide⟩
  · exact ⟨[], _, dot_ls, by decide⟩
  · exact absurd rfl hn
/-- join of a piece with no slash in front: the parts, less an empty last one -/
theorem join_free (b : Bool) {c : Str} {cs ps : List Str} (hw : ∀ x ∈ c :: cs, Word x) (hc : c ≠ Str.ofString "") (h : Parts ps) (hf : Firm ps) :
    ∃ cs', joinF (jn (preOf b ++ c :: cs)) (jn (preOf false ++ ps)) = jn (preOf b ++ c :: (cs' ++ ps)) ∧ (cs' = cs ∨ cs = cs' ++ [Str.ofString ""]) := by
  have hne : ps ≠ [] := by obtain ⟨-, d, r, rfl⟩ := h; simp
  have hx : preOf b ++ c :: cs ≠ [] := by simp
  have hpos : ¬ (((jn (preOf b ++ c :: cs)).length : Nat) : Int) = 0 := by
    intro q
    rw [len_ls] at q
    have q0 : Ls (jn (preOf b ++ c :: cs)) = [] := List.eq_nil_of_length_eq_zero (by omega)
    cases b with
    | true => rw [jn_root (by simp), ls_app, slash_ls] at q0; simp at q0
    | false =>
      obtain ⟨a, r, e, -⟩ := jn_head hw ⟨c, cs, rfl, hc⟩
      rw [pre_false, List.nil_append, e] at q0; simp at q0
  unfold joinF
  rw [if_neg (starts_firm h.1 hf), if_neg hpos, pre_false, List.nil_append]
  rcases List.eq_nil_or_concat cs with rfl | ⟨cs0, d, ecs⟩
  · refine ⟨[], ?_, .inl rfl⟩
    have hnend : ¬ Txt.endswith (jn (preOf b ++ [c])) (Str.ofString "/") = true := by
      rw [ew_one _ _ 47 slash_ls]
      rintro ⟨q, e⟩
      obtain ⟨q2, e2⟩ := jn_last (ps := preOf b ++ [c]) (by simp)
      obtain ⟨q3, a, e3, ha⟩ := last_word (hw c (.head _)) hc
      rw [List.getLast?_append] at e2
      have e4 : Ls (jn (preOf b ++ [c])) = q2 ++ Ls c := e2
      rw [e3, e, ← List.append_assoc] at e4
      exact ha ((List.append_inj' e4 rfl).2 |> fun z => ((List.cons.inj z).1).symm)
    rw [if_neg hnend, jn_more (by simp) hne, List.append_assoc]; rfl
  · rw [List.concat_eq_append] at ecs
    subst ecs
    by_cases hd : d = Str.ofString ""
    · subst hd
      refine ⟨cs0, ?_, .inr rfl⟩
      have hend : Txt.endswith (jn (preOf b ++ c :: (cs0 ++ [Str.ofString ""]))) (Str.ofString "/") = true := by
        rw [ew_one _ _ 47 slash_ls]
        have e : preOf b ++ c :: (cs0 ++ [Str.ofString ""]) = (preOf b ++ c :: cs0) ++ [Str.ofString ""] := by simp
        rw [e, jn_app (by simp) (by simp), jn_one, ls_app, ls_app, none_ls, slash_ls, List.append_nil]
        exact ⟨_, rfl⟩
      rw [if_pos hend]
      have e : preOf b ++ c :: (cs0 ++ [Str.ofString ""]) = (preOf b ++ c :: cs0) ++ [Str.ofString ""] := by simp
      rw [e, jn_slash (by simp) hne, List.append_assoc]; rfl
    · refine ⟨cs0 ++ [d], ?_, .inl rfl⟩
      have hwd : Word d := hw d (by simp)
      have hnend : ¬ Txt.endswith (jn (preOf b ++ c :: (cs0 ++ [d]))) (Str.ofString "/") = true := by
        rw [ew_one _ _ 47 slash_ls]
        rintro ⟨q, e⟩
        obtain ⟨q2, e2⟩ := jn_last (ps := preOf b ++ c :: (cs0 ++ [d])) (by simp)
        obtain ⟨q3, a, e3, ha⟩ := last_word hwd hd
        have e5 : (preOf b ++ c :: (cs0 ++ [d])).getLast? = some d := by
          have : preOf b ++ c :: (cs0 ++ [d]) = (preOf b ++ c :: cs0) ++ [d] := by simp
          rw [this, List.getLast?_concat]
        rw [e5] at e2
        have e4 : Ls (jn (preOf b ++ c :: (cs0 ++ [d]))) = q2 ++ Ls d := e2
        rw [e3, e, ← List.append_assoc] at e4
        exact ha ((List.append_inj' e4 rfl).2 |> fun z => ((List.cons.inj z).1).symm)
      rw [if_neg hnend, jn_more (by simp) hne, List.append_assoc]; rfl
end
end
section
section
variable {w : World} {p : Program} {loose : List Str} {mean : ExcName → Option Value} {mg mb : Str → Option Value} {s : Shared} {dp un : Nat} {fr : Option (List Env)} {gd : Option (List Code)} {E : Value → Shared → Prop}
theorem dot_ne : Str.ofString "." ≠ Str.ofString "" := by decide +kernel
theorem dot_word : Word (Str.ofString ".") := .inr (.inr (.inl rfl))
theorem pts_parts (z : Int) : Parts (ptsOf z) := ⟨pts_word z, _, _, rfl⟩
theorem pts_firm (z : Int) : Firm (ptsOf z) := ⟨_, _, rfl, dot_ne⟩
noncomputable def dotsIn (zs : List Int) : Nat := (zs.map fun z => (ptsOf z).count (Str.ofString "..")).sum
/-- what a word's parts are: behind the last slash in front, less empty parts at seams -/
structure Good (Zs : List Int) (b : Bool) (cs : List Str) : Prop where
  path : (Zs.map pieceOf).foldl joinF (Str.ofString ".") = jn (preOf b ++ Str.ofString "." :: cs)
  words : ∀ c ∈ Str.ofString "." :: cs, Word c
  form : formF (Zs.map pieceOf) = (b, (Str.ofString "." :: cs).foldl formPart (0, 0))
  deeds : ∀ t, (Zs.map pieceOf).foldl runF t = (Str.ofString "." :: cs).foldl actF (if b = true then Str.ofString "x" else t)
  dots : (Str.ofString "." :: cs).count (Str.ofString "..") ≤ dotsIn Zs
  short : cs.length ≤ 6 * Zs.length
theorem good_nil : Good [] false [] where
  path := (jn_one _).symm
  words := by intro c hc; rw [List.mem_singleton.mp hc]; exact dot_word
  form := by
    show (false, (0 : Int), (0 : Int)) = (false, formPart (0, 0) (Str.ofString "."))
    rw [fp_i (.inl rfl) 0 0 (Int.le_refl 0)]
  deeds := by
    intro t
    show t = actF (if false = true then Str.ofString "x" else t) (Str.ofString ".")
    rw [act_i (.inl rfl)]; rfl
  dots := by
    rw [List.count_cons, List.count_nil, c_od]; simp
  short := by simp
theorem fm_le (cs : List Str) (h : ∀ c ∈ cs, Word c) : (cs.foldl formPart (0, 0)).2 ≤ (cs.foldl formPart (0, 0)).1 := by
  have e := fm_du cs h (0, 0)
  have e0 : fmOf (0, 0) = ((0 : Int), (0 : Int)) := rfl
  rw [e0] at e
  rw [e]
  show -((cs.foldl duS (0, 0)).1 : Int) ≤ ((cs.foldl duS (0, 0)).2 : Int) - ((cs.foldl duS (0, 0)).1 : Int)
  omega
theorem dots_app (Zs : List Int) (z : Int) : dotsIn (Zs ++ [z]) = dotsIn Zs + (ptsOf z).count (Str.ofString "..") := by
  unfold dotsIn
  rw [List.map_append, List.sum_append]; simp
theorem pts_tail (z : Int) : ∃ r, ptsOf z = Str.ofString "." :: r := ⟨_, rfl⟩
theorem good_root {Zs : List Int} {b : Bool} {cs : List Str} (G : Good Zs b cs) (z : Int) (hz : rtOf z = true) : ∃ cs', Good (Zs ++ [z]) true cs' := by
  obtain ⟨r, hr⟩ := pts_tail z
  have ep : pieceOf z = jn (preOf true ++ ptsOf z) := by rw [piece_eq, hz]
  refine ⟨r, ?_, ?_, ?_, ?_, ?_, ?_⟩
  · rw [List.map_append, List.foldl_append]
    show joinF _ (pieceOf z) = _
    rw [ep, join_root (by rw [hr]; simp), hr]
  · rw [← hr]; exact pts_word z
  · unfold formF
    rw [List.map_append, List.foldl_append]
    show formPiece _ (pieceOf z) = _
    rw [ep, form_root (pts_parts z), hr]
  · intro t
    rw [List.map_append, List.foldl_append]
    show runF _ (pieceOf z) = _
    rw [ep, run_jn true (pts_parts z) (fun q => by cases q), hr]; rfl
  · rw [← hr, dots_app]; omega
  · have h := pts_count z
    rw [hr, List.length_cons] at h
    rw [List.length_append]
    show _ ≤ 6 * (Zs.length + 1)
    omega
theorem good_free {Zs : List Int} {b : Bool} {cs : List Str} (G : Good Zs b cs) (z : Int) (hz : rtOf z = false) : ∃ cs', Good (Zs ++ [z]) b cs' := by
  have ep : pieceOf z = jn (preOf false ++ ptsOf z) := by rw [piece_eq, hz]
  obtain ⟨cs', e, hcs⟩ := join_free b G.words dot_ne (pts_parts z) (pts_firm z)
  have hsub : ∀ c ∈ Str.ofString "." :: cs', Word c := by
    rcases hcs with rfl | rfl
    · exact G.words
    · intro c hc
      refine G.words c ?_
      rcases List.mem_cons.mp hc with h | h
      · rw [h]; exact .head _
      · exact .tail _ (List.mem_append_left _ h)
  have hform : (Str.ofString "." :: cs).foldl formPart (0, 0) = (Str.ofString "." :: cs').foldl formPart (0, 0) := by
    rcases hcs with rfl | rfl
    · rfl
    · rw [← List.cons_append, List.foldl_append]
      have hle := fm_le (Str.ofString "." :: cs') hsub
      generalize (Str.ofString "." :: cs').foldl formPart (0, 0) = q at hle ⊢
      obtain ⟨q1, q2⟩ := q
      exact fp_i (.inr rfl) q1 q2 hle
  have hact : ∀ t, (Str.ofString "." :: cs).foldl actF t = (Str.ofString "." :: cs').foldl actF t := by
    rcases hcs with rfl | rfl
    · intro t; rfl
    · intro t
      rw [← List.cons_append, List.foldl_append]
      exact act_empty _
  have hdots : (Str.ofString "." :: cs').count (Str.ofString "..") ≤ dotsIn Zs := by
    have h := G.dots
    rcases hcs with rfl | rfl
    · exact h
    · rw [← List.cons_append, List.count_append] at h; omega
  have hshort : cs'.length ≤ cs.length := by
    rcases hcs with rfl | rfl
    · exact Nat.le_refl _
    · rw [List.length_append]; omega
  refine ⟨cs' ++ ptsOf z, ?_, ?_, ?_, ?_, ?_, ?_⟩
  · rw [List.map_append, List.foldl_append, G.path]
    show joinF _ (pieceOf z) = _
    rw [ep, e]
  · rw [← List.cons_append]
    intro c hc
    rcases List.mem_append.mp hc with hc | hc
    · exact hsub c hc
    · exact pts_word z c hc
  · have hf := G.form
    unfold formF at hf ⊢
    rw [List.map_append, List.foldl_append, hf]
    show formPiece _ (pieceOf z) = _
    rw [ep, form_free (pts_parts z) (pts_firm z), ← List.cons_append, List.foldl_append, hform]
  · intro t
    rw [List.map_append, List.foldl_append, G.deeds, hact]
    show runF _ (pieceOf z) = _
    rw [ep, run_jn false (pts_parts z) (fun _ => pts_firm z), ← List.cons_append, List.foldl_append]; rfl
  · rw [← List.cons_append, List.count_append, dots_app]; omega
  · have h := pts_count z
    have h2 := G.short
    rw [List.length_append, List.length_append]
    show _ ≤ 6 * (Zs.length + 1)
    omega
theorem good_at : ∀ (n : Nat) (Zs : List Int), Zs.length = n → ∃ b cs, Good Zs b cs
  | 0, Zs, h => by
    rw [List.eq_nil_of_length_eq_zero h]
    exact ⟨false, [], good_nil⟩
  | n + 1, Zs, h => by
    rcases List.eq_nil_or_concat Zs with e | ⟨Ys, z, e⟩
    · rw [e] at h; simp at h
    · rw [List.concat_eq_append] at e
      subst e
      rw [List.length_append] at h
      obtain ⟨b, cs, G⟩ := good_at n Ys (by simp at h; omega)
      cases hz : rtOf z with
      | true => obtain ⟨cs', G'⟩ := good_root G z hz; exact ⟨true, cs', G'⟩
      | false => obtain ⟨cs', G'⟩ := good_free G z hz; exact ⟨b, cs', G'⟩
theorem good_all (Zs : List Int) : ∃ b cs, Good Zs b cs := good_at _ Zs rfl
end
end
section
section
variable {w : World} {p : Program} {loose : List Str} {mean : ExcName → Option Value} {mg mb : Str → Option Value} {s : Shared} {dp un : Nat} {fr : Option (List Env)} {gd : Option (List Code)} {E : Value → Shared → Prop}
def Spread (w : Nat) : Nat → List Nat → Prop
  | _, [] => True
  | a, p :: r => a ≤ p ∧ Spread w (p + w) r
theorem spread_le {w : Nat} : ∀ {r : List Nat} {a b : Nat}, Spread w b r → a ≤ b → Spread w a r
  | [], _, _, _, _ => trivial
  | _ :: _, _, _, h, hab => ⟨Nat.le_trans hab h.1, h.2⟩
/-- the count from the left takes as many places as any spread ones -/
theorem chain_max {x y : Str} {n : Nat} : ∀ (cuts : List Nat) (a f : Nat), StrLaws.ChainG x y n a cuts f → (∀ k, f ≤ k → ¬ StrLaws.At x y n k) → ∀ ps : List Nat, Spread y.length a ps → (∀ p ∈ ps, StrLaws.At x y n p) → ps.length ≤ cuts.length
  | cuts, a, f, h, hf, [], _, _ => Nat.zero_le _
  | [], a, f, h, hf, p :: r, hs, hp => by
    have e : f = a := h
    exact absurd (hp p (.head _)) (hf p (by rw [e]; exact hs.1))
  | c :: cuts, a, f, h, hf, p :: r, hs, hp => by
    have hc : c ≤ p := by
      refine Nat.le_of_not_lt fun q => ?_
      exact h.2.2.1 p hs.1 q (hp p (.head _))
    have := chain_max cuts _ f h.2.2.2 hf r (spread_le hs.2 (by omega)) fun q hq => hp q (.tail _ hq)
    rw [List.length_cons, List.length_cons]; omega
noncomputable def spots : Nat → List Str → List Nat
  | _, [] => []
  | o, c :: r => if (c == Str.ofString "..") = true then o :: spots (o + c.length + 1) r else spots (o + c.length + 1) r
theorem spots_spread : ∀ (cs : List Str) (o : Nat), Spread 2 o (spots o cs)
  | [], _ => trivial
  | c :: r, o => by
    have ih := spots_spread r (o + c.length + 1)
    unfold spots
    split
    · rename_i h
      rw [beq_iff] at h
      subst h
      rw [l_d] at ih ⊢
      exact ⟨Nat.le_refl _, spread_le ih (by omega)⟩
    · exact spread_le ih (by omega)
theorem spots_count : ∀ (cs : List Str) (o : Nat), (spots o cs).length = cs.count (Str.ofString "..")
  | [], _ => rfl
  | c :: r, o => by
    unfold spots
    rw [List.count_cons, ← spots_count r (o + c.length + 1)]
    split
    · rw [List.length_cons]
    · rfl
theorem spots_at (x : Str) : ∀ (cs : List Str) (pre : List Nat), Ls x = pre ++ joinL (cs.map Ls) → ∀ p ∈ spots pre.length cs, StrLaws.At x (Str.ofString "..") x.length p
  | [], pre, _, p, hp => by simp [spots] at hp
  | c :: r, pre, h, p, hp => by
    have next : p ∈ spots (pre.length + c.length + 1) r → StrLaws.At x (Str.ofString "..") x.length p := by
      intro hq
      cases r with
      | nil => simp [spots] at hq
      | cons d r =>
        have e : Ls x = (pre ++ Ls c ++ [47]) ++ joinL ((d :: r).map Ls) := by
          rw [h]; simp [joinL]
        refine spots_at x (d :: r) _ e p ?_
        rw [List.length_append, List.length_append, ← len_ls]
        exact hq
    unfold spots at hp
    split at hp
    · rename_i hc
      rw [beq_iff] at hc
      rcases List.mem_cons.mp hp with rfl | hp
      · subst hc
        have e : ∃ q, Ls x = pre ++ ([46, 46] ++ q) := by
          cases r with
          | nil => exact ⟨[], by rw [h]; simp [joinL, dots_ls]⟩
          | cons d r => exact ⟨47 :: joinL ((d :: r).map Ls), by rw [h]; simp [joinL, dots_ls]⟩
        obtain ⟨q, e⟩ := e
        refine ⟨?_, ?_⟩
        · rw [len_ls x, e, l_d, List.length_append, List.length_append]
          show pre.length + 2 ≤ pre.length + (2 + q.length)
          omega
        · rw [StrLaws.subAt_eq, beq_iff_eq]
          change ((Ls x).drop pre.length).take _ = Ls (Str.ofString "..")
          rw [e, l_d, dots_ls, List.drop_left]; rfl
      · exact next hp
    · exact next hp
theorem count_ge (cs : List Str) : (cs.count (Str.ofString "..") : Int) ≤ Txt.count (jn cs) (Str.ofString "..") := by
  unfold Txt.count
  obtain ⟨f, h1, h2⟩ := StrLaws.occ_tight (jn cs) (Str.ofString "..") (by rw [l_d]; decide)
  have hat := spots_at (jn cs) cs [] (by rw [jn_eq, ls_join]; rfl)
  have hm := chain_max _ _ f h1 h2 (spots 0 cs) (by rw [l_d]; exact spots_spread cs 0) hat
  rw [spots_count] at hm
  exact Int.ofNat_le.mpr hm
noncomputable def allPts (zs : List Int) : List Str := zs.flatMap fun z => preOf (rtOf z) ++ ptsOf z
theorem all_cons (z : Int) (r : List Int) : allPts (z :: r) = preOf (rtOf z) ++ ptsOf z ++ allPts r := by
  unfold allPts; rw [List.flatMap_cons]
theorem all_ne (z : Int) (r : List Int) : allPts (z :: r) ≠ [] := by
  rw [all_cons]; obtain ⟨q, e⟩ := pts_tail z; rw [e]; simp
theorem jn_flat : ∀ zs : List Int, jn (zs.map pieceOf) = jn (allPts zs)
  | [] => rfl
  | [z] => by
    show jn [pieceOf z] = _
    rw [jn_one, all_cons, piece_eq]
    show _ = jn (_ ++ [])
    rw [List.append_nil]
  | z :: y :: r => by
    have ih := jn_flat (y :: r)
    rw [List.map_cons, jn_cons _ (by simp), ih, all_cons z (y :: r), jn_app (by obtain ⟨q, e⟩ := pts_tail z; rw [e]; simp) (all_ne y r), ← piece_eq]
theorem all_count : ∀ zs : List Int, dotsIn zs ≤ (allPts zs).count (Str.ofString "..")
  | [] => Nat.le_refl _
  | z :: r => by
    have ih := all_count r
    rw [all_cons, List.count_append, List.count_append]
    have e : dotsIn (z :: r) = (ptsOf z).count (Str.ofString "..") + dotsIn r := by unfold dotsIn; rw [List.map_cons, List.sum_cons]
    omega
theorem dots_split (a b : List Int) : dotsIn (a ++ b) = dotsIn a + dotsIn b := by
  unfold dotsIn
  rw [List.map_append, List.sum_append]
theorem dots_slice (zs : List Int) (a n : Nat) : dotsIn ((zs.drop a).take n) ≤ dotsIn zs := by
  have h1 := dots_split (zs.take a) (zs.drop a)
  rw [List.take_append_drop] at h1
  have h2 := dots_split ((zs.drop a).take n) ((zs.drop a).drop n)
  rw [List.take_append_drop] at h2
  omega
theorem dots_many (zs : List Int) : (dotsIn zs : Int) ≤ Txt.count (Txt.join (Str.ofString "/") (zs.map pieceOf)) (Str.ofString "..") := by
  have e : Txt.join (Str.ofString "/") (zs.map pieceOf) = jn (allPts zs) := jn_flat zs
  rw [e]
  have h1 := count_ge (allPts zs)
  have h2 := all_count zs
  omega
theorem idx_eq {α β γ : Type} [BEq β] [LawfulBEq β] [BEq γ] [LawfulBEq γ] (f : α → β) (g : α → γ) (w : α) : ∀ (l : List α), (∀ a ∈ l, f a = f w ↔ g a = g w) → (l.map f).idxOf (f w) = (l.map g).idxOf (g w)
  | [], _ => rfl
  | a :: l, h => by
    rw [List.map_cons, List.map_cons, List.idxOf_cons, List.idxOf_cons, idx_eq f g w l fun x hx => h x (.tail _ hx)]
    have ha := h a (.head _)
    have e : (f a == f w) = (g a == g w) := by
      rw [Bool.eq_iff_iff, beq_iff_eq, beq_iff_eq]; exact ha
    rw [e]
end
end
section
section
variable {w : World} {p : Program} {loose : List Str} {mean : ExcName → Option Value} {mg mb : Str → Option Value} {s : Shared} {dp un : Nat} {fr : Option (List Env)} {gd : Option (List Code)} {E : Value → Shared → Prop}
theorem jn_nil : jn [] = Str.ofString "" := by decide +kernel
theorem e_app (x : Str) : Str.ofString "" ++ x = x := ls_inj (by rw [ls_app, none_ls]; rfl)
theorem app_e (x : Str) : x ++ Str.ofString "" = x := ls_inj (by rw [ls_app, none_ls, List.append_nil])
theorem jn_pos (b : Bool) {ps : List Str} (hw : ∀ c ∈ ps, Word c) (hf : Firm ps) : ¬ (((jn (preOf b ++ ps)).length : Nat) : Int) = 0 := by
  intro q
  rw [len_ls] at q
  have q0 : Ls (jn (preOf b ++ ps)) = [] := List.eq_nil_of_length_eq_zero (by omega)
  have hne : ps ≠ [] := by obtain ⟨c, r, rfl, -⟩ := hf; simp
  cases b with
  | true => rw [jn_root hne, ls_app, slash_ls] at q0; simp at q0
  | false =>
    obtain ⟨a, r, e, -⟩ := jn_head hw hf
    rw [pre_false, List.nil_append, e] at q0; simp at q0
theorem split_root {ps : List Str} (hw : ∀ c ∈ ps, Word c) (hf : Firm ps) : splitF (jn (preOf true ++ ps)) = (Str.ofString "/", jn ps) := by
  have hne : ps ≠ [] := by obtain ⟨c, r, rfl, -⟩ := hf; simp
  have e0 : Ls (jn (preOf true ++ ps)) = 47 :: Ls (jn ps) := by rw [jn_root hne, ls_app, slash_ls]; rfl
  obtain ⟨a, r, e, ha⟩ := jn_head hw hf
  unfold splitF
  have h1 : Txt.slice (jn (preOf true ++ ps)) none (some 1) = Str.ofString "/" := ls_inj (by rw [ls_first, e0, slash_ls]; rfl)
  have h2 : Txt.slice (jn (preOf true ++ ps)) (some 1) (some 2) ≠ Str.ofString "/" := by
    intro q
    have q := congrArg Ls q
    rw [ls_second _ (by rw [e0, e]; simp), e0, e, slash_ls] at q
    exact ha (List.cons.inj q).1
  have h3 : Txt.slice (jn (preOf true ++ ps)) (some 1) none = jn ps := ls_inj (by rw [ls_tail, e0]; rfl)
  rw [if_neg (by rw [bne_iff]; exact fun q => q h1), if_pos (by rw [bne_iff]; exact h2), h3]
theorem split_free' {ps : List Str} (hw : ∀ c ∈ ps, Word c) (hf : Firm ps) : splitF (jn (preOf false ++ ps)) = (Str.ofString "", jn ps) := by
  obtain ⟨a, r, e, ha⟩ := jn_head hw hf
  rw [pre_false, List.nil_append]
  unfold splitF
  have h1 : Txt.slice (jn ps) none (some 1) ≠ Str.ofString "/" := by
    intro q
    have q := congrArg Ls q
    rw [ls_first, e, slash_ls] at q
    exact ha (List.cons.inj q).1
  rw [if_pos (by rw [bne_iff]; exact h1)]
theorem split_any (b : Bool) {ps : List Str} (hw : ∀ c ∈ ps, Word c) (hf : Firm ps) : splitF (jn (preOf b ++ ps)) = (rtStr b, jn ps) := by
  cases b with
  | true => exact split_root hw hf
  | false => exact split_free' hw hf
theorem norm_jn (b : Bool) {ps : List Str} (hw : ∀ c ∈ ps, Word c) (hf : Firm ps) : normF (jn (preOf b ++ ps)) = pathF b ((ps.foldl duS (0, 0)).1 : Int) ((ps.foldl duS (0, 0)).2 : Int) := by
  have hne : ps ≠ [] := by obtain ⟨c, r, rfl, -⟩ := hf; simp
  unfold normF
  rw [if_neg (jn_pos b hw hf), split_any b hw hf]
  simp only
  have e1 : Txt.split (jn ps) (Str.ofString "/") = ps := split_join ps hne fun x hx => word_free (hw x hx)
  have e2 : ([] : List Str) = stOf b (0, 0) := by unfold stOf; cases b <;> rfl
  rw [e1, e2, st_run b ps hw]
  generalize ps.foldl duS (0, 0) = s
  obtain ⟨d, u⟩ := s
  have n1 : ((d : Nat) : Int).toNat = d := by omega
  have n2 : ((u : Nat) : Int).toNat = u := by omega
  unfold pathF stOf rtStr
  simp only [n1, n2]
  cases b with
  | true =>
    simp only [if_true, List.nil_append]
    rw [if_neg]
    intro q
    rw [len_ls, ls_app, slash_ls] at q
    simp at q
    omega
  | false =>
    simp only [Bool.false_eq_true, if_false]
    rw [e_app]
/-- the parts of a told path -/
noncomputable def pathP (b : Bool) (d u : Nat) : List Str :=
  if b = true then (if u = 0 then [Str.ofString ""] else List.replicate u (Str.ofString "\""))
  else (if d = 0 ∧ u = 0 then [Str.ofString "."] else List.replicate d (Str.ofString "..") ++ List.replicate u (Str.ofString "\""))
theorem mk_word : Word (Str.ofString "\"") := .inl rfl
theorem dd_word : Word (Str.ofString "..") := .inr (.inl rfl)
theorem mk_ne : Str.ofString "\"" ≠ Str.ofString "" := by decide +kernel
theorem dd_ne : Str.ofString ".." ≠ Str.ofString "" := by decide +kernel
theorem rep_words (d u : Nat) : ∀ c ∈ List.replicate d (Str.ofString "..") ++ List.replicate u (Str.ofString "\""), Word c := by
  intro c hc
  rcases List.mem_append.mp hc with h | h
  · rw [List.eq_of_mem_replicate h]; exact dd_word
  · rw [List.eq_of_mem_replicate h]; exact mk_word
theorem rep_firm {d u : Nat} (h : ¬ (d = 0 ∧ u = 0)) : Firm (List.replicate d (Str.ofString "..") ++ List.replicate u (Str.ofString "\"")) := by
  cases d with
  | succ d => exact ⟨_, _, rfl, dd_ne⟩
  | zero =>
    cases u with
    | zero => exact absurd ⟨rfl, rfl⟩ h
    | succ u => exact ⟨_, _, rfl, mk_ne⟩
theorem pathP_parts (b : Bool) (d u : Nat) : Parts (pathP b d u) := by
  unfold pathP
  cases b with
  | true =>
    rw [if_pos rfl]
    split
    · exact ⟨fun c hc => by rw [List.mem_singleton.mp hc]; exact .inr (.inr (.inr rfl)), _, _, rfl⟩
    · rename_i h
      have hw := rep_words 0 u
      obtain ⟨c, r, e, -⟩ := rep_firm (d := 0) (u := u) fun q => h q.2
      rw [List.replicate_zero, List.nil_append] at hw e
      exact ⟨hw, c, r, e⟩
  | false =>
    rw [if_neg (by decide)]
    split
    · exact ⟨fun c hc => by rw [List.mem_singleton.mp hc]; exact dot_word, _, _, rfl⟩
    · rename_i h
      obtain ⟨c, r, e, -⟩ := rep_firm h
      exact ⟨rep_words d u, c, r, e⟩
theorem pathP_firm (d u : Nat) : Firm (pathP false d u) := by
  unfold pathP
  rw [if_neg (by decide)]
  split
  · exact ⟨_, _, rfl, dot_ne⟩
  · rename_i h; exact rep_firm h
theorem pathP_du (b : Bool) (d u : Nat) : ((pathP b d u).foldl duS (0, 0)).2 = u ∧ (b = false → ((pathP b d u).foldl duS (0, 0)).1 = d) := by
  unfold pathP
  cases b with
  | true =>
    rw [if_pos rfl]
    split
    · rename_i h
      refine ⟨?_, fun q => by cases q⟩
      show (duS (0, 0) (Str.ofString "")).2 = u
      rw [du_i (.inr rfl), h]
    · refine ⟨?_, fun q => by cases q⟩
      rw [du_marks]; simp
  | false =>
    rw [if_neg (by decide)]
    split
    · rename_i h
      obtain ⟨rfl, rfl⟩ := h
      show (duS (0, 0) (Str.ofString ".")).2 = 0 ∧ (_ → (duS (0, 0) (Str.ofString ".")).1 = 0)
      rw [du_i (.inl rfl)]
      exact ⟨rfl, fun _ => rfl⟩
    · rw [List.foldl_append, du_dots, du_marks]
      exact ⟨by simp, fun _ => by simp⟩
theorem pathP_false (d u : Nat) : pathP false d u = if d = 0 ∧ u = 0 then [Str.ofString "."] else List.replicate d (Str.ofString "..") ++ List.replicate u (Str.ofString "\"") := by
  unfold pathP
  exact if_neg (by decide)
theorem path_jn (b : Bool) (d u : Nat) : pathF b (d : Int) (u : Int) = jn (preOf b ++ pathP b d u) := by
  have n1 : ((d : Nat) : Int).toNat = d := by omega
  have n2 : ((u : Nat) : Int).toNat = u := by omega
  unfold pathF
  rw [n1, n2]
  cases b with
  | true =>
    rw [if_pos rfl, jn_root (by obtain ⟨-, c, r, e⟩ := pathP_parts true d u; rw [e]; simp)]
    show _ ++ jn _ = _
    unfold pathP
    rw [if_pos rfl]
    split
    · rename_i h; rw [h, List.replicate_zero, jn_nil, jn_one]
    · rfl
  | false =>
    rw [if_neg (by decide), pre_false, List.nil_append]
    show (if ((jn (List.replicate d (Str.ofString "..") ++ List.replicate u (Str.ofString "\""))).length : Int) = 0 then Str.ofString "." else jn (List.replicate d (Str.ofString "..") ++ List.replicate u (Str.ofString "\""))) = _
    rw [pathP_false]
    by_cases h : d = 0 ∧ u = 0
    · rw [if_pos h, jn_one]
      obtain ⟨rfl, rfl⟩ := h
      rw [List.replicate_zero, List.replicate_zero, List.append_nil, jn_nil]
      exact if_pos (by rw [l_e]; rfl)
    · rw [if_neg h, if_neg]
      exact jn_pos false (rep_words d u) (rep_firm h)
/-- what of a word the law speaks of -/
structure Sums (zs : List Int) (W : List Str) (b : Bool) (d u : Nat) : Prop where
  form : formF W = (b, (u : Int) - (d : Int), -(d : Int))
  path : pathW W = pathF b (d : Int) (u : Int)
  few : d ≤ 37 ∧ u ≤ 37
  dots : d ≤ dotsIn zs
  done : ∀ k, coreOf k → W.foldl runF (kindText k) = textF b (d : Int) (u : Int) k.1 k.2.1 k.2.2
theorem word_sums {zs : List Int} {W : List Str} (h : IsSl (zs.map pieceOf) W) (hz : zs.length ≤ 6) : ∃ b d u, Sums zs W b d u := by
  obtain ⟨a, n, rfl⟩ := h
  rw [← List.map_drop, ← List.map_take]
  have hd := dots_slice zs a n
  have hl : ((zs.drop a).take n).length ≤ 6 := Nat.le_trans (by rw [List.length_take]; exact Nat.min_le_right _ _) (Nat.le_trans (by rw [List.length_drop]; exact Nat.sub_le _ _) hz)
  generalize (zs.drop a).take n = Zs at hd hl
  obtain ⟨b, cs, G⟩ := good_all Zs
  have hle := du_le (Str.ofString "." :: cs) (0, 0)
  have hs := G.short
  have hdd := G.dots
  rw [List.length_cons] at hle
  have h1 : ((Str.ofString "." :: cs).foldl duS (0, 0)).1 ≤ dotsIn Zs := by have := hle.1; omega
  have hcl : (Str.ofString "." :: cs).count (Str.ofString "..") ≤ cs.length := by
    rw [List.count_cons, c_od]
    have := List.count_le_length (a := Str.ofString "..") (l := cs)
    simpa using this
  refine ⟨b, ((Str.ofString "." :: cs).foldl duS (0, 0)).1, ((Str.ofString "." :: cs).foldl duS (0, 0)).2, ?_, ?_, ?_, ?_, ?_⟩
  · rw [G.form]
    exact Prod.ext rfl (fm_du (Str.ofString "." :: cs) G.words (0, 0))
  · show normF _ = _
    rw [G.path, norm_jn b G.words ⟨_, _, rfl, dot_ne⟩]
  · have := hle.1; have := hle.2; simp only at *; omega
  · omega
  · intro k hk
    rw [G.deeds]
    exact text_run k hk b _ G.words rfl fun _ => rfl
end
end
section
section
variable {w : World} {p : Program} {loose : List Str} {mean : ExcName → Option Value} {mg mb : Str → Option Value} {s : Shared} {dp un : Nat} {fr : Option (List Env)} {gd : Option (List Code)} {E : Value → Shared → Prop}
theorem path_short (b : Bool) {d u : Nat} (h : d ≤ 37 ∧ u ≤ 37) : (pathF b (d : Int) (u : Int)).length ≤ 1000 := by
  rw [path_jn]
  have hw := pre_words b (pathP_parts b d u).1
  have hl : ∀ c ∈ preOf b ++ pathP b d u, c.length ≤ 2 := by
    intro c hc
    rcases hw c hc with rfl | rfl | rfl | rfl
    · rw [l_m]; decide
    · rw [l_d]; decide
    · rw [l_o]; decide
    · rw [l_e]; decide
  have hn : (preOf b ++ pathP b d u).length ≤ 76 := by
    rw [List.length_append]
    have e1 : (preOf b).length ≤ 1 := by cases b <;> simp [preOf]
    have e2 : (pathP b d u).length ≤ 75 := by
      unfold pathP
      split
      · split
        · simp
        · rw [List.length_replicate]; omega
      · split
        · simp
        · rw [List.length_append, List.length_replicate, List.length_replicate]; omega
    omega
  have h1 := join_len (preOf b ++ pathP b d u)
  have h2 := sum_bound 2 _ hl
  show (Txt.join (Str.ofString "/") (preOf b ++ pathP b d u)).length ≤ 1000
  omega
theorem kinds_core {ps : List Str} {ks : List (Int × Str × Int)} (h : KindsOk ps ks) : ∀ k ∈ ks, coreOf k ∧ k.1 ≤ 130 ∧ k.2.2 ≤ 130 := by
  obtain ⟨M, a, c, b, -, h1, h2, h3, h4, h5, h6, hc, rfl⟩ := h
  intro k hk
  simp only [List.mem_cons, List.not_mem_nil, or_false] at hk
  rcases hk with rfl | rfl | rfl
  · exact ⟨⟨Int.le_refl 0, Int.le_refl 0, .inr (.inl rfl)⟩, by show (0 : Int) ≤ 130; decide, by show (0 : Int) ≤ 130; decide⟩
  · exact ⟨⟨by show 0 ≤ M; omega, by show 0 ≤ M; omega, .inr (.inl rfl)⟩, h2, h2⟩
  · refine ⟨⟨h3, h5, ?_⟩, by show a ≤ 130; omega, by show b ≤ 130; omega⟩
    rcases hc with e | e
    · exact .inl e
    · exact .inr (.inr e)
theorem kind_short {k : Int × Str × Int} (h : coreOf k) (h1 : k.1 ≤ 130) (h2 : k.2.2 ≤ 130) : (kindText k).length ≤ 1000 := by
  rw [len_ls, ls_kind]
  unfold txt
  have e : (Ls k.2.1).length ≤ 1 := by
    rcases h.2.2 with e | e | e
    · rw [e, none_ls]; decide
    · rw [e, x_ls]; decide
    · rw [e, y_ls]; decide
  rw [List.length_append, List.length_append, List.length_replicate, List.length_replicate]
  omega
theorem run_told {zs : List Int} {W : List Str} {b : Bool} {d u : Nat} (S : Sums zs W b d u) {k : Int × Str × Int} (hk : coreOf k) : runF (kindText k) (pathW W) = textF b (d : Int) (u : Int) k.1 k.2.1 k.2.2 := by
  rw [S.path, path_jn, run_jn b (pathP_parts b d u) (fun h => by subst h; exact pathP_firm d u)]
  obtain ⟨h1, h2⟩ := pathP_du b d u
  exact text_run k hk b _ (pathP_parts b d u).1 h1 h2
theorem told_sums {zs : List Int} {W : List Str} {b : Bool} {d u : Nat} (S : Sums zs W b d u) (k : Int × Str × Int) : toldText k W = textF b (d : Int) (u : Int) k.1 k.2.1 k.2.2 := by
  unfold toldText
  rw [S.form]
  have e1 : -(-(d : Int)) = (d : Int) := by omega
  have e2 : ((u : Int) - (d : Int)) - -(d : Int) = (u : Int) := by omega
  simp only [e1, e2]
/-- the number of marks ahead of an x -/
theorem ls_told (b : Bool) (d u : Nat) (m : Int) (hm : 0 ≤ m) : Ls (textF b (d : Int) (u : Int) m (Str.ofString "x") m) = txt (if b = true then u else u + (m - (d : Int)).toNat) [120] (if b = true then u else u + (m - (d : Int)).toNat) := by
  have n1 : ((u : Nat) : Int).toNat = u := by omega
  unfold textF txt
  cases b with
  | true => rw [if_pos rfl, if_pos rfl, ls_app, ls_app, ls_mul, x_ls, n1]
  | false =>
    rw [if_neg (by decide), n_xe, if_neg (by decide), if_neg (by decide)]
    simp only [ls_app, ls_mul, x_ls, n1]
    rw [List.replicate_append_replicate, List.append_assoc (List.replicate _ 34 ++ [120]), List.replicate_append_replicate, Nat.add_comm (m - (d : Int)).toNat u]
theorem txt_count (a b : Nat) (h : txt a [120] a = txt b [120] b) : a = b := by
  have e := congrArg List.length h
  unfold txt at e
  simp only [List.length_append, List.length_replicate, List.length_cons, List.length_nil] at e
  omega
theorem law4_one {zs : List Int} {V W : List Str} {b b' : Bool} {d u d' u' : Nat} (S : Sums zs V b d u) (S' : Sums zs W b' d' u') {M : Int} (hM : (dotsIn zs : Int) < M) :
    ([pathW V] : List Str) = [pathW W] ↔ [doneText (0, Str.ofString "x", 0) V, doneText (M, Str.ofString "x", M) V] = [doneText (0, Str.ofString "x", 0) W, doneText (M, Str.ofString "x", M) W] := by
  have hM0 : 0 ≤ M := by omega
  have k0 : coreOf (0, Str.ofString "x", 0) := ⟨Int.le_refl 0, Int.le_refl 0, .inr (.inl rfl)⟩
  have k1 : coreOf (M, Str.ofString "x", M) := ⟨hM0, hM0, .inr (.inl rfl)⟩
  unfold doneText
  constructor
  · intro h
    have h : pathW V = pathW W := (List.cons.inj h).1
    rw [S.done _ k0, S.done _ k1, S'.done _ k0, S'.done _ k1, ← run_told S k0, ← run_told S k1, ← run_told S' k0, ← run_told S' k1, h]
  · intro h
    rw [S.done _ k0, S.done _ k1, S'.done _ k0, S'.done _ k1] at h
    have h0 := congrArg Ls (List.cons.inj h).1
    have h1 := congrArg Ls (List.cons.inj (List.cons.inj h).2).1
    simp only at h0 h1
    rw [ls_told _ _ _ _ (Int.le_refl 0), ls_told _ _ _ _ (Int.le_refl 0)] at h0
    rw [ls_told _ _ _ _ hM0, ls_told _ _ _ _ hM0] at h1
    have q0 := txt_count _ _ h0
    have q1 := txt_count _ _ h1
    clear h0 h1 h
    have e0 : ∀ d : Nat, ((0 : Int) - (d : Int)).toNat = 0 := fun d => by rw [toNat_less 0 (Int.le_refl 0) d]; exact Nat.zero_sub d
    have e0' := e0 d'
    have e0 := e0 d
    rw [e0, e0', Nat.add_zero, Nat.add_zero, ite_self, ite_self] at q0
    have hd := S.dots
    have hd' := S'.dots
    have hMn : dotsIn zs < M.toNat := by omega
    rw [toNat_less M hM0 d, toNat_less M hM0 d'] at q1
    clear hM hM0 k0 k1 e0 e0'
    congr 1
    rw [S.path, S'.path]
    cases b <;> cases b' <;> simp only [if_true, Bool.false_eq_true, if_false] at q1
    · have e : d = d' := by omega
      rw [e, q0]
    · omega
    · omega
    · unfold pathF
      rw [q0, if_pos rfl, if_pos rfl]
theorem plain_law : PlainLaw := by
  intro zs Ws ks hz0 hzl hsl hko
  have hc := kinds_core hko
  have hs : ∀ W ∈ Ws, ∃ b d u, Sums zs W b d u := fun W hW => word_sums (hsl W hW) hzl
  refine ⟨pieces_len zs, fun k hk => kind_short (hc k hk).1 (hc k hk).2.1 (hc k hk).2.2, ?_, ?_, ?_, ?_, ?_, ?_⟩
  · intro W hW
    obtain ⟨b, d, u, S⟩ := hs W hW
    have h := S.few
    rw [S.form]
    simp only
    omega
  · intro W hW
    obtain ⟨b, d, u, S⟩ := hs W hW
    rw [S.path]
    exact path_short b S.few
  · intro W hW
    obtain ⟨b, d, u, S⟩ := hs W hW
    rw [S.path, S.form]
    have e1 : -(-(d : Int)) = (d : Int) := by omega
    have e2 : ((u : Int) - (d : Int)) - -(d : Int) = (u : Int) := by omega
    simp only [e1, e2]
  · intro k hk W hW
    obtain ⟨b, d, u, S⟩ := hs W hW
    rw [told_sums S k]
    exact S.done k (hc k hk).1
  · intro k hk W hW
    obtain ⟨b, d, u, S⟩ := hs W hW
    rw [told_sums S k]
    exact run_told S (hc k hk).1
  · obtain ⟨M, a, c, b, hM, h1, h2, h3, h4, h5, h6, hcc, rfl⟩ := hko
    have hlt : (dotsIn zs : Int) < M := by have := dots_many zs; omega
    intro W hW
    refine idx_eq (fun W => [pathW W]) (fun W => [doneText (0, Str.ofString "x", 0) W, doneText (M, Str.ofString "x", M) W]) W Ws fun V hV => ?_
    obtain ⟨b, d, u, S⟩ := hs V hV
    obtain ⟨b', d', u', S'⟩ := hs W hW
    exact law4_one S S' hlt
end
end
section
section
variable {w : World} {p : Program} {loose : List Str} {mean : ExcName → Option Value} {mg mb : Str → Option Value} {s : Shared} {dp un : Nat} {fr : Option (List Env)} {gd : Option (List Code)} {E : Value → Shared → Prop}
theorem hd : qrow.Holds := by
  w_on; o_law; o_head (kHook K2 [2, 3, 15, 17, 18, 20, 21, 22, 24, 25, 27, 28, 29, 36, 38, 39, 41, 42, 43, 44, 45, 48, 55, 57, 58, 60, 61, 62, 64, 65, 67, 68, 69, 71, 72, 74, 75, 76, 77, 78, 81, 83, 84, 86, 87, 88, 90, 91, 93, 94, 95, 97, 98, 100, 101, 102, 104, 105, 107, 108, 109, 111, 112, 114, 115, 116, 118, 119, 121, 122, 123, 125, 126, 128, 129, 130, 132, 133, 135, 136, 137, 138, 139, 141, 142, 144, 145, 146, 148, 149, 151, 152, 153, 156, 157, 158, 160, 161, 163, 164, 165, 167, 168, 170, 171, 172, 174, 175, 177, 178, 179, 181, 182, 184, 185, 186, 188, 189, 191, 192, 193, 196, 197] (fun _ => by kernel_rfl)); (case hw => w_witness2)
  w_top off
  k_fill
  intro w s₀ s₁ mg mb G Y fa o pm cd doc dV kV ho hdd hcd hD hmg hg args vals as hpre hlay hrd hwl hlo
  have KX : (hd.heap_39 w.params).In s₁.heap := kIn_of Y
  refine Ground.open G ?_
  intro T B D TE TW
  clear B D TE TW
  have hfa : mg (Str.ofString "law") = some (.ref 197) := mg_of KX T.g (by k_is)
  have hfe : (fa : Nat) = 197 := by
    have e : some (Value.ref fa) = some (.ref 197) := hmg.symm.trans hfa
    injection e with e
    injection e
  clear hmg hfa
  wrow_args hpre hlay hrd hwl hlo
  rename_i ns _ _ _ _ _ _ _ l vs _ hl _ _ _ hys _ hlen _
  subst hfe
  clear ho hdd hcd hD
  refine wpAny_mono (law_spec (dp := 1 + claimMargin) (un := 4) (fr := some []) (gd := some []) plain_law pieces_len KX T (by decide) (by decide) hl hys (by omega)) (fun v s' hv => ?_) (fun e s' he => he)
  obtain ⟨rfl, h', tk', rfl, hk⟩ := hv
  refine GoodW.toG ⟨.inl ⟨.bool true, .bool true, [], rfl, raisesW_false (by wrow_none_raised), .bool true, postW_of (by wrow_shape) (by wtm_val) (by rfl), unshared_nil⟩, hk, rfl, hg⟩
end
end
end Mine
theorem PySem.Challenge.cw_il0054_01_holds : PySem.Challenge.rw_il0054_01.Holds :=
  Mine.qrow_eq ▸ Mine.hd
