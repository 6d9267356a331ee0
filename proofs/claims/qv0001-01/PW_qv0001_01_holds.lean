import PyProof.Rows.All
import Wide.All
import OpenK.AllK
import Wide.FinOn
import PySem.Challenge.RW_qv0001_01
open PySem PySem.W PyProof.Rows
set_option Elab.async false
set_option maxRecDepth 100000
set_option maxHeartbeats 8000000
set_option linter.unusedVariables false
set_option linter.unusedSimpArgs false
namespace Mine
open_top hd for PySem.Challenge.rw_qv0001_01
end Mine
namespace Mine
open PySem PySem.W PyProof.Rows

noncomputable abbrev pv : Program := hd.view_39
noncomputable abbrev pr : Program := PySem.Challenge.rw_qv0001_01.row.prog
noncomputable abbrev lo : List Str := looseW hd.view_39 [Str.ofString "_replacement_string_value"]

/-! ### what stays -/
/-- all objects but the three places tables are kept -/
def Kp (h h' : Heap) : Prop := ∀ b o, b ≠ 23 → b ≠ 31 → b ≠ 38 → h.get? b = some o → h'.get? b = some o
theorem Kp.refl (h : Heap) : Kp h h := fun _ _ _ _ _ e => e
theorem Kp.trans {a b c : Heap} (x : Kp a b) (y : Kp b c) : Kp a c := fun p o h1 h2 h3 e => y p o h1 h2 h3 (x p o h1 h2 h3 e)
theorem Kp.of {a b : Heap} (x : ∀ p o, a.get? p = some o → b.get? p = some o) : Kp a b := fun p o _ _ _ e => x p o e

def TabOk (h : Heap) (c P line col : Nat) : Prop :=
  ∃ ps : Array Value, h.IsCode c P ps ∧ h.TableAt c P ps ∧ (ps = #[] ∨ ∃ c' : Addr, ps = #[rawInt line, rawInt col, .ref c'])

theorem TabOk.keeps {h h' : Heap} {c P l k : Nat} (x : TabOk h c P l k) (e : ∀ b o, h.get? b = some o → h'.get? b = some o) : TabOk h' c P l k :=
  let ⟨ps, a, b, r⟩ := x; ⟨ps, a.keeps e, b.keeps e, r⟩
theorem TabOk.keepsC {h h' : Heap} {c P l k : Nat} (x : TabOk h c P l k) (e1 : ∀ o, h.get? c = some o → h'.get? c = some o) (e2 : ∀ o, h.get? P = some o → h'.get? P = some o) : TabOk h' c P l k := by
  obtain ⟨ps, ⟨o, vs, file, tf, flags, tg, inF, text, tt, op, a, r1, r2, r3, r4, r5, r6, b, r⟩, ⟨⟨o2, vs2, a2, s⟩, t⟩, q⟩ := x
  exact ⟨ps, ⟨o, vs, file, tf, flags, tg, inF, text, tt, op, e1 _ a, r1, r2, r3, r4, r5, r6, e2 _ b, r⟩, ⟨⟨o2, vs2, e1 _ a2, s⟩, e2 _ t⟩, q⟩
theorem TabOk.at {h : Heap} {c P l k : Nat} (x : TabOk h c P l k) : ∃ ps, h.get? P = some { cls := .none, data := .fields ps } := let ⟨ps, _, b, _⟩ := x; ⟨ps, b.2⟩

structure Inv (w : World) (mg mb : Str → Option Value) (bm : Addr) (ob : Obj) (h : Heap) : Prop where
  K : (hd.heap_39 w.params).In h
  T : TopRead pv lo mg mb h
  M : BMod h mainGlobals mg bm ob
  t1 : TabOk h 27 23 17 19
  t2 : TabOk h 35 31 20 19
  t3 : TabOk h 42 38 22 19
  sz : 73 ≤ h.objs.size

section
variable {w : World} {mg mb : Str → Option Value} {bm : Addr} {ob : Obj} {h h' g : Heap}
theorem ns_of {a : Addr} {m : Str → Option Value} (x : h.Ns a m) (e : ∀ o, h.get? a = some o → h'.get? a = some o) : h'.Ns a m := x.at' e
theorem TopRead.kp {p : Program} {loose : List Str} (T : TopRead p loose mg mb h) (k : Kp h h') : TopRead p loose mg mb h' := by
  obtain ⟨a, b, ⟨mc, c1, c2⟩, d, e⟩ := T
  exact ⟨a.at' fun o q => k _ o (by decide) (by decide) (by decide) q, b.at' fun o q => k _ o (by decide) (by decide) (by decide) q, ⟨mc, c1.at' fun o q => k _ o (by decide) (by decide) (by decide) q, c2⟩, d, e⟩
theorem lk23 (P : Params) : (hd.heap_39 P).lookup 23 = none := rfl
theorem lk31 (P : Params) : (hd.heap_39 P).lookup 31 = none := rfl
theorem lk38 (P : Params) : (hd.heap_39 P).lookup 38 = none := rfl
theorem K_ne {P : Params} {a : Addr} {o : Obj} (e : (hd.heap_39 P).lookup a = some o) : a ≠ 23 ∧ a ≠ 31 ∧ a ≠ 38 := by
  refine ⟨?_, ?_, ?_⟩ <;> rintro rfl
  · rw [lk23] at e; cases e
  · rw [lk31] at e; cases e
  · rw [lk38] at e; cases e
theorem Inv.bm_ne (I : Inv w mg mb bm ob h) : bm ≠ 23 ∧ bm ≠ 31 ∧ bm ≠ 38 := by
  have key : ∀ {c P l k : Nat}, TabOk h c P l k → bm ≠ P := by
    rintro c P l k x rfl
    obtain ⟨ps, e⟩ := x.at
    have e2 := I.M.obj
    rw [e] at e2
    have e3 := I.M.cls
    rw [← Option.some.inj e2] at e3
    cases e3
  exact ⟨key I.t1, key I.t2, key I.t3⟩
theorem Inv.kp (I : Inv w mg mb bm ob h) (k : Kp h h') (t1 : TabOk h' 27 23 17 19) (t2 : TabOk h' 35 31 20 19) (t3 : TabOk h' 42 38 22 19) (sz : 73 ≤ h'.objs.size) : Inv w mg mb bm ob h' where
  K := fun a o e => let n := K_ne e; k a o n.1 n.2.1 n.2.2 (I.K a o e)
  T := TopRead.kp I.T k
  M := ⟨I.M.ns.at' fun o q => k _ o (by decide) (by decide) (by decide) q, I.M.name, I.M.ne, k _ _ I.bm_ne.1 I.bm_ne.2.1 I.bm_ne.2.2 I.M.obj, I.M.cls, I.M.dict, I.M.data⟩
  t1 := t1
  t2 := t2
  t3 := t3
  sz := sz
theorem size_mono_of_last {a b : Heap} (n : Nat) (hn : n ≤ a.objs.size) (h : n ≤ b.objs.size) : n ≤ b.objs.size := h
theorem K72 (P : Params) : ∃ o, (hd.heap_39 P).lookup 72 = some o := ⟨_, rfl⟩
theorem Inv.keeps (I : Inv w mg mb bm ob h) (k : ∀ b o, h.get? b = some o → h'.get? b = some o) : Inv w mg mb bm ob h' :=
  I.kp (Kp.of k) (I.t1.keeps k) (I.t2.keeps k) (I.t3.keeps k) (by
    obtain ⟨o, e⟩ := K72 w.params
    exact Heap.lt_size (k _ _ (I.K _ _ e)))

/-! ### the ground after a call: the old ground with the tables as they are now -/
def put1 (g h : Heap) (P : Addr) : Heap := g.update P fun _ => (h.get? P).getD default
def reg (g h : Heap) : Heap := put1 (put1 (put1 g h 23) h 31) h 38
theorem put1_size (g h : Heap) (P : Addr) : (put1 g h P).objs.size = g.objs.size := Heap.size_after_update ..
theorem reg_size (g h : Heap) : (reg g h).objs.size = g.objs.size := by
  unfold reg; rw [put1_size, put1_size, put1_size]
theorem put1_other {g h : Heap} {P b : Addr} (n : b ≠ P) : (put1 g h P).get? b = g.get? b := Heap.get?_update_other _ _ (Ne.symm n)
theorem put1_self {g h : Heap} {P : Addr} {o o' : Obj} (e : g.get? P = some o) (e' : h.get? P = some o') : (put1 g h P).get? P = some o' := by
  unfold put1
  rw [e']
  have hf : o'.isFreed = false := by
    obtain ⟨c, d, dt, sl⟩ := o'
    cases dt <;> first | rfl | (exfalso; unfold Heap.get? at e'; split at e' <;> simp_all)
  exact Heap.get?_update_self _ e hf
theorem reg_other {g h : Heap} {b : Addr} (n1 : b ≠ 23) (n2 : b ≠ 31) (n3 : b ≠ 38) : (reg g h).get? b = g.get? b := by
  unfold reg
  rw [put1_other n3, put1_other n2, put1_other n1]
theorem Inv.reg_tab (Ig : Inv w mg mb bm ob g) (Ih : Inv w mg mb bm ob h) : (reg g h).get? 23 = h.get? 23 ∧ (reg g h).get? 31 = h.get? 31 ∧ (reg g h).get? 38 = h.get? 38 := by
  obtain ⟨p1, e1⟩ := Ig.t1.at
  obtain ⟨p2, e2⟩ := Ig.t2.at
  obtain ⟨p3, e3⟩ := Ig.t3.at
  obtain ⟨q1, f1⟩ := Ih.t1.at
  obtain ⟨q2, f2⟩ := Ih.t2.at
  obtain ⟨q3, f3⟩ := Ih.t3.at
  unfold reg
  refine ⟨?_, ?_, ?_⟩
  · rw [put1_other (by decide), put1_other (by decide), put1_self e1 f1, f1]
  · rw [put1_other (by decide), put1_self ((put1_other (by decide)).trans e2) f2, f2]
  · rw [put1_self ((put1_other (by decide)).trans ((put1_other (by decide)).trans e3)) f3, f3]
theorem kp_reg (g h : Heap) : Kp g (reg g h) := fun b o n1 n2 n3 e => (reg_other n1 n2 n3).trans e
theorem Inv.reg (Ig : Inv w mg mb bm ob g) (Ih : Inv w mg mb bm ob h) (k : Kp g h) : Inv w mg mb bm ob (reg g h) := by
  have t := Ig.reg_tab Ih
  have code : ∀ {c : Addr}, c ≠ 23 → c ≠ 31 → c ≠ 38 → (∃ o, g.get? c = some o) → ∀ o, h.get? c = some o → (Mine.reg g h).get? c = some o := by
    rintro c n1 n2 n3 ⟨o', e'⟩ o e
    rw [reg_other n1 n2 n3, e']
    exact (k c o' n1 n2 n3 e').symm.trans e
  refine Ig.kp (kp_reg g h) ?_ ?_ ?_ (by rw [reg_size]; exact Ig.sz)
  · exact Ih.t1.keepsC (code (by decide) (by decide) (by decide) (by obtain ⟨ps, ⟨o, _, _, _, _, _, _, _, _, _, e, _⟩, _⟩ := Ig.t1; exact ⟨o, e⟩)) fun o e => t.1.trans e
  · exact Ih.t2.keepsC (code (by decide) (by decide) (by decide) (by obtain ⟨ps, ⟨o, _, _, _, _, _, _, _, _, _, e, _⟩, _⟩ := Ig.t2; exact ⟨o, e⟩)) fun o e => t.2.1.trans e
  · exact Ih.t3.keepsC (code (by decide) (by decide) (by decide) (by obtain ⟨ps, ⟨o, _, _, _, _, _, _, _, _, _, e, _⟩, _⟩ := Ig.t3; exact ⟨o, e⟩)) fun o e => t.2.2.trans e

theorem Inv.ne_tab (I : Inv w mg mb bm ob h) {a : Addr} {o : Obj} (e : h.get? a = some o) (hc : o.cls ≠ .none) : a ≠ 23 ∧ a ≠ 31 ∧ a ≠ 38 := by
  have key : ∀ {c P l k : Nat}, TabOk h c P l k → a ≠ P := by
    rintro c P l k x rfl
    obtain ⟨ps, e'⟩ := x.at
    rw [e] at e'
    exact hc (by rw [Option.some.inj e'])
  exact ⟨key I.t1, key I.t2, key I.t3⟩
variable {h₁ : Heap} {L : Addr} {m : Str → Option Value} {news : List (Addr × Obj)}
theorem Inv.L_ne (I : Inv w mg mb bm ob g) (F : Fr g L h m) : L ≠ 23 ∧ L ≠ 31 ∧ L ≠ 38 := by
  have a := F.above
  have b := I.sz
  exact ⟨Nat.ne_of_gt (by omega), Nat.ne_of_gt (by omega), Nat.ne_of_gt (by omega)⟩
/-- a frame after a call that kept all but the tables -/
theorem fr_reg (I : Inv w mg mb bm ob g) (F : Fr g L h m) (Ih' : Inv w mg mb bm ob h') (k : Kp h h') : Fr (reg g h') L h' m := by
  have nL := I.L_ne F
  refine ⟨F.ns.at' fun o e => k _ o nL.1 nL.2.1 nL.2.2 e, fun b o e => ?_, by rw [reg_size]; exact F.above⟩
  have t := I.reg_tab Ih'
  by_cases h1 : b = 23
  · subst h1; rw [t.1] at e; exact e
  by_cases h2 : b = 31
  · subst h2; rw [t.2.1] at e; exact e
  by_cases h3 : b = 38
  · subst h3; rw [t.2.2] at e; exact e
  rw [reg_other h1 h2 h3] at e
  exact k b o h1 h2 h3 (F.keep b o e)
theorem news_reg (I : Inv w mg mb bm ob g) (N : News g L h news) (k : Kp h h') : News (reg g h') L h' news := by
  intro p hp
  obtain ⟨a, b, c⟩ := N p hp
  have key : ∀ {cc P l kk : Nat}, TabOk g cc P l kk → p.1 ≠ P := by
    rintro cc P l kk x rfl
    obtain ⟨ps, e'⟩ := x.at
    rw [c] at e'
    cases e'
  have n1 := key I.t1
  have n2 := key I.t2
  have n3 := key I.t3
  exact ⟨k _ _ n1 n2 n3 a, b, by rw [reg_other n1 n2 n3]; exact c⟩
end

section
open PySem.Calls
variable {prog : Program} {w : World} {A : Around} {E : Value → Shared → Prop} {s : Shared}
/-- a call of a plain def, its frame on a heap that keeps all -/
theorem enter {K : Frag} {Q : Value → Shared → Prop} {name qual : Str} {params : Arguments} {body : List Stmt} {scope : Scope} {dV kV doc pm cdv ct oc : Value} {an od : Option Addr} {osl : Array (Option Value)} {f : Addr} {args : Args} {binds : List (Str × Value)}
    (X : K.In s.heap) (hlim : s.heap.NoLimit)
    (ho : K.lookup f = some ⟨oc, od, .func (fnOf name qual params body scope dV kV doc pm an cdv ct), osl⟩) (hcd : codeIn K cdv qual = true) (hroom : A.depth < recursionLimit)
    (hbind : bindArgs (fnOf name qual params body scope dV kV doc pm an cdv ct) args = pure binds) (hloc : ∀ y ∈ binds, scope.names.lookup y.1 = some .local)
    (h : ∀ h₁, Fr s.heap s.heap.objs.size h₁ (fun y => binds.reverse.lookup y) →
      wpAny (model prog w) (A.deeper (envOf qual scope s.heap.objs.size f cdv)) (execs body (envOf qual scope s.heap.objs.size f cdv))
        (fun fl s' => Q (match fl with | .ret v => v | _ => .none) s') (fun _ _ => False)
        { s with heap := h₁, toks := s.toks + binds.length })
    (hco : scope.isCoroutine = false) (hgen : scope.isGenerator = false) (hk : scope.kind = .function)
    (hcell : ∀ x ∈ scope.names, x.2 ≠ .cell) : wpAny (model prog w) A (call (.ref f) args.pos args.kw) Q E s := by
  refine wpAny_call (codeAny_call_def (fd := fnOf name qual params body scope dV kV doc pm an cdv ct) (body := body) (binds := binds) hroom (X _ _ ho) rfl hlim (codeRec_of X hcd) rfl (BindsTo.of_eq hbind) hcell hloc (fun h₁ hns hk₁ => ?_) hco hgen hk)
  exact wpAny_mono (h h₁ ⟨hns, hk₁, Nat.le_refl _⟩) (fun fl s' hl => hl) fun _ _ y => y.elim
end

/-! ### contracts -/
/-- what a call hands back: its value, the invariant, all kept but the tables, generators done -/
def Ret (w : World) (mg mb : Str → Option Value) (bm : Addr) (ob : Obj) (s : Shared) (Q : Value → Shared → Prop) (R : Tok → Value) : Prop :=
  ∀ h' gs dr tk t, Inv w mg mb bm ob h' → Kp s.heap h' → AllBare gs → Q (R t) { heap := h', gens := gs, drawn := dr, toks := tk, os := s.os }

/-- the def at f, called with these values from a heap that fits, gives R -/
def Fn (w : World) (mg mb : Str → Option Value) (bm : Addr) (ob : Obj) (lv : Nat) (f : Addr) (args : List Value) (pre : Heap → Prop) (R : Tok → Value) : Prop :=
  ∀ (A : Around) (s : Shared) (Q E : Value → Shared → Prop), A.handled = none → A.depth + lv ≤ 600 → A.units + 20 * lv ≤ 4000 → Inv w mg mb bm ob s.heap → AllBare s.gens → pre s.heap →
    Ret w mg mb bm ob s Q R → wpAny (model pr w) A (call (.ref f) args) Q E s

section
variable {w : World} {mg mb : Str → Option Value} {bm : Addr} {ob : Obj} {g : Heap} {L : Addr} {m : Str → Option Value} {news : List (Addr × Obj)} {A : Around} {s : Shared} {Q E : Value → Shared → Prop} {lv : Nat} {f : Addr} {args : List Value} {pre : Heap → Prop} {R : Tok → Value} {h₀ : Heap}
/-- a contract used within a walked frame -/
theorem Fn.use (C : Fn w mg mb bm ob lv f args pre R) (hA : A.handled = none) (hd : A.depth + lv ≤ 600) (hu : A.units + 20 * lv ≤ 4000)
    (I : Inv w mg mb bm ob g) (F : Fr g L s.heap m) (N : News g L s.heap news) (KE : Kp h₀ g) (G : AllBare s.gens) (hp : pre s.heap)
    (h : ∀ g' h' gs dr tk t, Inv w mg mb bm ob g' → Fr g' L h' m → News g' L h' news → Kp h₀ g' → AllBare gs → Kp g g' → Q (R t) { heap := h', gens := gs, drawn := dr, toks := tk, os := s.os }) :
    wpAny (model pr w) A (call (.ref f) args) Q E s := by
  have Is : Inv w mg mb bm ob s.heap := I.keeps F.keep
  refine C A s Q E hA hd hu Is G hp fun h' gs dr tk t I' k G' => ?_
  exact h (reg g h') h' gs dr tk t (I.reg I' ((Kp.of F.keep).trans k)) (fr_reg I F I' k) (news_reg I N k) (KE.trans (kp_reg _ _)) G' (kp_reg _ _)
end
end Mine
namespace Mine
open PySem PySem.W PyProof.Rows
set_option maxHeartbeats 4000000

section
variable {w : World} {mg mb : Str → Option Value} {bm : Addr} {ob : Obj} {g h : Heap} {L : Addr} {m : Str → Option Value} {s : Shared} {Q : Value → Shared → Prop} {gs : Array GenState} {dr : Drawn} {tk : Nat}
theorem Ret.str {x y : Str} {t : Tok} (hR : Ret w mg mb bm ob s Q (fun t => .str x t)) (e : y = x) (I : Inv w mg mb bm ob g) (F : Fr g L h m) (KE : Kp s.heap g) (G : AllBare gs) :
    Q (.str y t) { heap := h, gens := gs, drawn := dr, toks := tk, os := s.os } := by
  subst e
  exact hR h gs dr tk t (I.keeps F.keep) (KE.trans (Kp.of F.keep)) G
theorem Ret.bool {x y : Bool} (hR : Ret w mg mb bm ob s Q (fun _ => .bool x)) (e : y = x) (I : Inv w mg mb bm ob g) (F : Fr g L h m) (KE : Kp s.heap g) (G : AllBare gs) :
    Q (.bool y) { heap := h, gens := gs, drawn := dr, toks := tk, os := s.os } := by
  subst e
  exact hR h gs dr tk 0 (I.keeps F.keep) (KE.trans (Kp.of F.keep)) G
end


def SIGNS : Str := Str.ofString "a-\n1F\\\"b é(e\t'u\r0)_!\x0cc>U+9E/*\x7f,A\u2028g;{:@r%l#\x01\u00a0Z.😀d"
/-- the sign that _law_sign draws, its number -/
def sg (n : Int) : Nat :=
  if n.fmod 5 ≠ 4 then (Txt.charAt SIGNS (n.fmod 48)).getD 0
  else if (n.fdiv 5).fmod 1112064 < 55296 then ((n.fdiv 5).fmod 1112064).toNat else ((n.fdiv 5).fmod 1112064 + 2048).toNat

theorem sign_fn {w : World} {mg mb : Str → Option Value} {bm : Addr} {ob : Obj} (n : Int) (t : Tok) (h0 : 0 ≤ n) (h1 : n ≤ 266895360) : Fn w mg mb bm ob 10 50 [.int n t] (fun _ => True) (fun t => .str ⟨#[sg n]⟩ t) := by
  intro A s Q E hA hD hU I G hp hR
  have X := I.K
  have T := I.T
  have KE := Kp.refl s.heap
  have hfill9 : PySem.Challenge.rw_qv0001_01.prog = PySem.Challenge.rw_qv0001_01.prog ∧ (∀ P, _root_.Mine.hd.heap_39 P = _root_.Mine.hd.heap_39 P) := by
    k_fill
    exact ⟨rfl, fun _ => rfl⟩
  clear hfill9
  k_dflt (refine' enter (args := ⟨[.int n t], []⟩) (binds := [(Str.ofString "n", .int n t)]) X T.nolimit ?ho ?hcd ?hroom ?hbind ?hloc ?_ ?hco ?hgen ?hk ?hcell; (case ho => k_is); (case hcd => k_is); (case hroom => (simp only [recursionLimit]; omega)); (case hbind => rfl); (case hloc => exact locs rfl); (case hco => rfl); (case hgen => rfl); (case hk => rfl); (case hcell => decide))
  intro h₁ F
  (try dsimp only)
  have N : News s.heap s.heap.objs.size h₁ [] := News.nil
  (try k_unmd)
  k_fold
  k_steps
  all_goals (refine' Ret.str (s := s) hR ?_ (by assumption) (by assumption) (by assumption) (by assumption))
  · show Txt.item SIGNS (n.fmod 48) = _
    rw [Txt.item, sg, if_pos (by assumption)]
  · rw [sg, if_neg (by omega), if_pos (by assumption)]
  · rw [sg, if_neg (by omega), if_neg (by omega)]
end Mine
namespace Mine
open PySem PySem.W PyProof.Rows
set_option maxHeartbeats 4000000

section
variable {w : World} {mg mb : Str → Option Value} {bm : Addr} {ob : Obj} {h h' : Heap}
theorem Inv.up1 (I : Inv w mg mb bm ob h) (k : ∀ b o, b ≠ 23 → h.get? b = some o → h'.get? b = some o) (t : TabOk h' 27 23 17 19) : Inv w mg mb bm ob h' :=
  I.kp (fun b o n _ _ e => k b o n e) t (I.t2.keepsC (fun o e => k _ o (by decide) e) fun o e => k _ o (by decide) e) (I.t3.keepsC (fun o e => k _ o (by decide) e) fun o e => k _ o (by decide) e)
    (by obtain ⟨o, e⟩ := K72 w.params; exact Heap.lt_size (k _ _ (by decide) (I.K _ _ e)))
theorem Inv.up2 (I : Inv w mg mb bm ob h) (k : ∀ b o, b ≠ 31 → h.get? b = some o → h'.get? b = some o) (t : TabOk h' 35 31 20 19) : Inv w mg mb bm ob h' :=
  I.kp (fun b o _ n _ e => k b o n e) (I.t1.keepsC (fun o e => k _ o (by decide) e) fun o e => k _ o (by decide) e) t (I.t3.keepsC (fun o e => k _ o (by decide) e) fun o e => k _ o (by decide) e)
    (by obtain ⟨o, e⟩ := K72 w.params; exact Heap.lt_size (k _ _ (by decide) (I.K _ _ e)))
theorem Inv.up3 (I : Inv w mg mb bm ob h) (k : ∀ b o, b ≠ 38 → h.get? b = some o → h'.get? b = some o) (t : TabOk h' 42 38 22 19) : Inv w mg mb bm ob h' :=
  I.kp (fun b o _ _ n e => k b o n e) (I.t1.keepsC (fun o e => k _ o (by decide) e) fun o e => k _ o (by decide) e) (I.t2.keepsC (fun o e => k _ o (by decide) e) fun o e => k _ o (by decide) e) t
    (by obtain ⟨o, e⟩ := K72 w.params; exact Heap.lt_size (k _ _ (by decide) (I.K _ _ e)))
end

/-- the genexpr's code object: found in the table, or made and laid there -/
theorem genexprCode_any {M : Model} {A : Around} {E : Value → Shared → Prop} {s : Shared} {env : Env} {c P line col : Nat} {pos : Pos} {q : Str} {scope : Scope} {Q : Value → Shared → Prop} (hc : env.code = .ref c)
    (ht : TabOk s.heap c P line col) (hl : pos.line = line) (hk : pos.col = col)
    (h : ∀ (c' : Addr) h' tk, (∀ b o, b ≠ P → s.heap.get? b = some o → h'.get? b = some o) → TabOk h' c P line col → s.heap.objs.size ≤ h'.objs.size → Q (.ref c') { s with heap := h', toks := tk }) :
    wpAny M A (genexprCode env pos q scope) Q E s := by
  obtain ⟨ps, a, b, e⟩ := ht
  rcases e with rfl | ⟨c', rfl⟩
  · refine wpAny_genexprCodeX hc a b (by rfl) fun c' h' tk hx hge hlt hcode _ htab _ => ?_
    refine h c' h' tk hx ⟨_, hcode, htab, .inr ⟨c', ?_⟩⟩ (Nat.le_trans hge (Nat.le_of_lt hlt))
    rw [hl, hk]
    rfl
  · refine wpAny_genexprCode_hit hc a (c' := .ref c') ?_ (h c' s.heap s.toks (fun _ _ _ e => e) ⟨_, a, b, .inr ⟨c', rfl⟩⟩ (Nat.le_refl _))
    rw [← hl, ← hk]
    simp [codeAmong, rawInt]

/-- an element's end: a text, all but the tokens as it stood -/
def EndS (x : Str) (u : Shared) (r : Value) (s : Shared) : Prop := (∃ t, r = .str x t) ∧ Keeps u s
theorem EndS.mk {x y : Str} {t : Tok} {u : Shared} {tk : Nat} (e : y = x) : EndS x u (.str y t) { heap := u.heap, gens := u.gens, drawn := u.drawn, toks := tk, os := u.os } := ⟨⟨t, by rw [e]⟩, _, _, rfl, fun _ _ e => e⟩
theorem passing_all (n : Nat) : passing (fun _ => true) n 0 = List.range n := by simp [passing]

section
variable {w : World} {mg mb : Str → Option Value} {bm : Addr} {ob : Obj} {g h₀ : Heap} {L : Addr} {m : Str → Option Value} {news : List (Addr × Obj)} {A : Around} {s : Shared} {E : Value → Shared → Prop}

/-- a generator expression over a text, its elements texts made of one sign each -/
theorem gexp {env : Env} {elt iter : Expr} {x : Str} {px : Pos} {scope : Scope} {pos : Pos} {Q : Value → Shared → Prop} {c P line col : Nat} {y : Str} {ty : Tok} (f : Nat → Str)
    (htab : ∀ h, Inv w mg mb bm ob h → TabOk h c P line col) (hP : P = 23 ∨ P = 31 ∨ P = 38)
    (hup : ∀ h h', Inv w mg mb bm ob h → (∀ b o, b ≠ P → h.get? b = some o → h'.get? b = some o) → TabOk h' c P line col → Inv w mg mb bm ob h')
    (I : Inv w mg mb bm ob g) (F : Fr g L s.heap m) (N : News g L s.heap news) (KE : Kp h₀ g) (G : AllBare s.gens)
    (hcode : env.code = .ref c) (hglob : env.globals = mainGlobals) (hl : pos.line = line) (hk : pos.col = col)
    (hh : A.handled = none) (hco : scope.isCoroutine = false) (hclos : closureFor scope env = pure []) (hcell : ∀ y ∈ scope.names, y.2 ≠ .cell) (h0 : scope.names.lookup (".0" : Str) = some NameKind.local)
    (hx : scope.names.lookup x = some .local) (hkind : scope.kind = .function) (hroom : A.depth < recursionLimit) (hs : ∀ x, genFold iter env x = pure x)
    (hiter : wpAny (model pr w) A (eval iter env) (fun xv s₁ => xv = .str y ty ∧ s₁ = s) E s)
    (helt : ∀ (c' C : Addr) (A' : Around) E' (ch : Nat) (tk : Tok) (u : Shared) m₂ g', A'.handled = none → A'.depth ≤ A.depth + 1 → A'.units ≤ A.units + 8 → Fr g' C u.heap m₂ → Inv w mg mb bm ob g' → m₂ x = some (.str ⟨#[ch]⟩ tk) →
      wpAny (model pr w) A' (eval elt (genEnv scope [] C (.ref c') builtinsNs env)) (fun r s₄ => EndS (f ch) u r s₄) E' u)
    (hQ : ∀ g' a K h' gs tk, Inv w mg mb bm ob g' → Fr g' L h' m → News g' L h' news → Kp h₀ g' → AllBare gs → L ≤ K → (∀ p ∈ news, p.1 ≤ K) →
      Gen pr w A K a y.cps.size (fun j r => ∃ t, r = .str (f (y.cps.getD j 0)) t) { heap := h', gens := gs, drawn := s.drawn, toks := tk, os := s.os } → Q (.ref a) { heap := h', gens := gs, drawn := s.drawn, toks := tk, os := s.os }) :
    wpAny (model pr w) A (eval (.GeneratorExp elt [⟨.Name x px, iter, [], 0⟩] scope pos) env) Q E s := by
  have Is : Inv w mg mb bm ob s.heap := I.keeps F.keep
  have hLlt : L < s.heap.objs.size := F.ns.lt
  refine wpAny_GeneratorExp_walksQD hh hco hclos hcell h0 hx hkind hroom (wpAny_mono hiter (fun xv s₁ e => ?_) fun _ _ e => e) hs
  obtain ⟨rfl, rfl⟩ := e
  refine wpAny_pyIter_str fun o St hW hst => ?_
  have kp1 : ∀ b o', s₁.heap.get? b = some o' → (s₁.heap.push o).get? b = some o' := fun b o' e => Heap.get?_push_of_some _ e
  have I1 : Inv w mg mb bm ob (s₁.heap.push o) := Is.keeps kp1
  refine ⟨I1.T.nolimit, genexprCode_any (c := c) (P := P) hcode (htab _ I1) hl hk fun c' h₃ tk₃ hx₃ ht₃ hsz₃ => ?_⟩
  have I3 : Inv w mg mb bm ob h₃ := hup _ _ I1 hx₃ ht₃
  have hsz1 : s₁.heap.objs.size < h₃.objs.size := by
    have e : (s₁.heap.push o).objs.size = s₁.heap.objs.size + 1 := Heap.size_push ..
    have hsz₃' : (s₁.heap.push o).objs.size ≤ h₃.objs.size := hsz₃
    omega
  have k3 : Kp s₁.heap h₃ := fun b o' n1 n2 n3 e => hx₃ b o' (by rcases hP with rfl | rfl | rfl <;> assumption) (kp1 b o' e)
  have F3 : Fr (reg g h₃) L h₃ m := fr_reg I F I3 k3
  have N3 : News (reg g h₃) L h₃ news := news_reg I N k3
  have Ig : Inv w mg mb bm ob (reg g h₃) := I.reg I3 ((Kp.of F.keep).trans k3)
  rw [hglob]
  refine wpAny_builtinsFor I3.M.ns I3.M.name I3.M.ne I3.M.obj I3.M.cls I3.M.dict I3.M.data ?_
  have hIne : s₁.heap.objs.size ≠ P := by
    have := Is.sz
    rcases hP with rfl | rfl | rfl
    · exact Nat.ne_of_gt (by omega)
    · exact Nat.ne_of_gt (by omega)
    · exact Nat.ne_of_gt (by omega)
  have hst3 : St 0 h₃ := (hW A hh).frame _ _ _ hst fun b hb o' e => by
    obtain rfl := List.mem_singleton.mp hb
    exact hx₃ _ o' hIne e
  refine ⟨s₁.heap.objs.size, [s₁.heap.objs.size], [s₁.heap.objs.size], y.cps.size, SignAt y, St, fun _ => true, fun i r => ∃ t, r = .str (f (y.cps.getD i 0)) t, rfl, hW, hst3, ?_, I3.T.nolimit, ?_, ?_, ?_⟩
  · intro b hb
    obtain rfl := List.mem_singleton.mp hb
    exact hsz1
  · intro hm
    have e := List.mem_singleton.mp hm
    have e2 : (2 : Nat) = s₁.heap.objs.size := e
    have := Is.sz
    omega
  · intro href hhref
    refine ⟨?_, ?_⟩
    · intro A' E' i v s₂ m₂ hA hD hU hP' hn hm hk'
      exact wpAny_pure ⟨rfl, _, _, rfl, fun _ _ e => e⟩
    · rintro A' E' i v s₂ m₂ hA hD hU ⟨cc, u, hcc, rfl⟩ _ hn hm hk'
      have Fe : Fr (reg g h₃) h₃.objs.size s₂.heap m₂ := by
        refine ⟨hn, fun b o' e => ?_, Nat.le_trans F3.above (Nat.le_of_lt F3.ns.lt)⟩
        have e' := F3.keep b o' e
        have hb : b < L := Nat.lt_of_lt_of_le (Heap.lt_size e) F3.above
        refine hk' b (List.mem_range.mpr (Heap.lt_size e')) (fun hm => ?_) o' (hhref b o' e')
        have e3 := List.mem_singleton.mp hm
        rw [e3] at hb
        exact Nat.lt_irrefl _ (Nat.lt_trans hb hLlt)
      have hy : y.cps.getD i 0 = cc := by simp [Array.getD_eq_getD_getElem?, hcc]
      have := helt c' h₃.objs.size A' E' cc u s₂ m₂ (reg g h₃) hA hD hU Fe Ig hm
      rw [hy]
      exact this
  · intro a h₅ tk gs hgb hag hsz₅ hk₅ W hat
    refine hQ (reg g h₃) a (s₁.heap.objs.size - 1) h₅ _ tk Ig (F3.keeps hk₅) (fun p hp => ⟨hk₅ _ _ (N3 p hp).1, (N3 p hp).2⟩) (KE.trans (kp_reg _ _)) (G.push hgb) (Nat.le_sub_one_of_lt hLlt) (fun p hp => ?_) ?_
    · have := Heap.lt_size (N p hp).1
      exact Nat.le_sub_one_of_lt this
    · rw [passing_all] at W
      rw [List.length_range] at W
      refine ⟨_, _, _, _, W.imp fun j r hr => ?_, hat, (fun i s' st => st.1.typeIs), List.mem_cons_self, ?_, ?_⟩
      · obtain ⟨i, hi, hr⟩ := hr
        have hij : i = j := by
          have := List.getElem?_eq_some_iff.mp hi
          obtain ⟨hlt, e⟩ := this
          simpa using e.symm
        rw [hij] at hr
        exact hr
      · intro b hb
        show b < h₅.objs.size
        rw [hsz₅]
        rcases List.mem_cons.mp hb with rfl | hb
        · exact Nat.lt_succ_self _
        · rcases List.mem_cons.mp hb with rfl | hb
          · exact Nat.lt_succ_of_lt hag
          · exact Nat.lt_succ_of_lt (Nat.lt_trans (List.mem_range.mp hb) hag)
      · intro b hb
        have hpos : 0 < s₁.heap.objs.size := by have := Is.sz; omega
        rcases List.mem_cons.mp hb with rfl | hb
        · show s₁.heap.objs.size - 1 < h₃.objs.size
          omega
        · obtain rfl := List.mem_singleton.mp hb
          exact Nat.sub_one_lt (by omega)

/-- join behind it -/
theorem joinx {sep : Str} {t : Tok} {a K n : Nat} {tx : Nat → Str} {Q : Value → Shared → Prop} (F : Fr g L s.heap m) (N : News g L s.heap news) (G : AllBare s.gens)
    (X : Gen pr w A K a n (fun j r => ∃ t, r = .str (tx j) t) s) (hLK : L ≤ K) (hN : ∀ p ∈ news, p.1 ≤ K) (hok : JoinOk sep ((List.range n).map tx) = true) (hsz : n ≤ sizeLine)
    (h : ∀ h' gs dr tk t', Fr g L h' m → News g L h' news → AllBare gs → Q (.str (Txt.join sep ((List.range n).map tx)) t') { heap := h', gens := gs, drawn := dr, toks := tk, os := s.os }) :
    wpAny (model pr w) A (call (.builtin "str.join") [.str sep t, .ref a]) Q E s := by
  refine join_rowsK F G X hLK tx (fun _ _ e => e) hok (fun s' t' F' G' hos hk => ?_) hsz
  obtain ⟨h', gs, dr, tk, os⟩ := s'
  dsimp only at hos
  subst hos
  exact h h' gs dr tk t' F' (fun p hp => ⟨hk _ _ (hN p hp) (N p hp).1, (N p hp).2⟩) G'
end
end Mine
namespace Mine
open PySem PySem.W PyProof.Rows

/-! ### the writings, in plain Lean: a sign is a number, a word a list of numbers -/
def NMS : Str := Str.ofString "abcdefghijklmnopqrstuvwxyz-_0123456789ABCDEFGHIJKLMNOPQRSTUVWXYZ"
def STS : Str := Str.ofString "abcdefghijklmnopqrstuvwxyz_ABCDEFGHIJKLMNOPQRSTUVWXYZ"
def isNm (c : Nat) : Bool := (97 ≤ c && c ≤ 122) || c == 45 || c == 95 || (48 ≤ c && c ≤ 57) || (65 ≤ c && c ≤ 90)
def isSt (c : Nat) : Bool := (97 ≤ c && c ≤ 122) || c == 95 || (65 ≤ c && c ≤ 90)
def isDg (c : Nat) : Bool := 48 ≤ c && c ≤ 57
def nameW (c : Nat) : List Nat :=
  if isNm c = true ∨ 127 < c then [c] else if c = 10 then [92, 65, 32] else if c = 13 then [92, 68, 32] else if c = 12 then [92, 67, 32] else [92, c]
def strW (c : Nat) : List Nat :=
  if c = 34 then [92, 34] else if c = 92 then [92, 92] else if c = 10 then [92, 65, 32] else if c = 13 then [92, 68, 32] else if c = 12 then [92, 67, 32] else [c]
def urlW (c : Nat) : List Nat :=
  if c = 39 then [92, 39] else if c = 34 then [92, 34] else if c = 92 then [92, 92] else if c = 32 then [92, 32] else if c = 9 then [92, 57, 32] else
  if c = 10 then [92, 65, 32] else if c = 13 then [92, 68, 32] else if c = 12 then [92, 67, 32] else if c = 40 then [92, 40] else if c = 41 then [92, 41] else [c]
def startW (c : Nat) : List Nat :=
  if isSt c = true ∨ 127 < c then [c] else if c = 10 then [92, 65, 32] else if c = 13 then [92, 68, 32] else if c = 12 then [92, 67, 32] else if isDg c = true then [92, 51, c, 32] else [92, c]
def identL : List Nat → List Nat
  | [] => []
  | [c] => if c = 45 then [92, 45] else startW c
  | c :: d :: r => if c = 45 then (if d = 45 then 45 :: 45 :: r.flatMap nameW else 45 :: (startW d ++ r.flatMap nameW)) else startW c ++ (d :: r).flatMap nameW
def writeL (kind : Int) (y : List Nat) : List Nat :=
  if kind = 0 then y.flatMap nameW else if kind = 1 then y.flatMap strW else if kind = 2 then y.flatMap urlW else identL y

/-- a text out of numbers -/
def mkS (l : List Nat) : Str := ⟨l.toArray⟩
def unS (y : Str) : List Nat := y.cps.toList
theorem mkS_unS (y : Str) : mkS (unS y) = y := by simp [mkS, unS]
theorem unS_mkS (l : List Nat) : unS (mkS l) = l := by simp [mkS, unS]
theorem mkS_length (l : List Nat) : (mkS l).length = l.length := by simp [mkS, Str.length]
theorem unS_length (y : Str) : (unS y).length = y.length := by simp [unS, Str.length]
theorem mkS_inj {a b : List Nat} : mkS a = mkS b ↔ a = b := by
  constructor
  · intro h; have := congrArg unS h; rwa [unS_mkS, unS_mkS] at this
  · rintro rfl; rfl
theorem mkS_append (a b : List Nat) : mkS a ++ mkS b = mkS (a ++ b) := by
  refine Str.ext' ?_
  show a.toArray ++ b.toArray = (a ++ b).toArray
  simp

theorem nameW_len (c : Nat) : (nameW c).length ≤ 3 := by unfold nameW; (repeat' split) <;> simp
theorem strW_len (c : Nat) : (strW c).length ≤ 3 := by unfold strW; (repeat' split) <;> simp
theorem urlW_len (c : Nat) : (urlW c).length ≤ 3 := by unfold urlW; (repeat' split) <;> simp
theorem startW_len (c : Nat) : (startW c).length ≤ 4 := by unfold startW; (repeat' split) <;> simp
theorem flat_len {f : Nat → List Nat} (hf : ∀ c, (f c).length ≤ 3) : ∀ l : List Nat, (l.flatMap f).length ≤ 3 * l.length
  | [] => by simp
  | c :: r => by
    have h1 := hf c
    have h2 := flat_len hf r
    rw [List.flatMap_cons, List.length_append, List.length_cons]
    omega

/-! ### what the tests of the text say of a sign -/
theorem all_below {p : Nat → Bool} (n : Nat) (h : (List.range n).all p = true) (c : Nat) (hc : c < n) : p c = true := List.all_eq_true.mp h c (List.mem_range.mpr hc)
theorem nms_mem (c : Nat) : decide (c ∈ NMS.cps.toList) = isNm c := by
  by_cases hc : c < 128
  · have := all_below (p := fun c => decide (c ∈ NMS.cps.toList) == isNm c) 128 (by decide +kernel) c hc
    exact eq_of_beq this
  · have h1 : ∀ x ∈ NMS.cps.toList, x < 128 := by decide +kernel
    rw [decide_eq_false (fun h => hc (h1 c h))]
    unfold isNm
    simp
    omega
theorem sts_mem (c : Nat) : decide (c ∈ STS.cps.toList) = isSt c := by
  by_cases hc : c < 128
  · have := all_below (p := fun c => decide (c ∈ STS.cps.toList) == isSt c) 128 (by decide +kernel) c hc
    exact eq_of_beq this
  · have h1 : ∀ x ∈ STS.cps.toList, x < 128 := by decide +kernel
    rw [decide_eq_false (fun h => hc (h1 c h))]
    unfold isSt
    simp
    omega
theorem dgs_mem (c : Nat) : decide (c ∈ (Str.ofString "0123456789").cps.toList) = isDg c := by
  by_cases hc : c < 128
  · have := all_below (p := fun c => decide (c ∈ (Str.ofString "0123456789").cps.toList) == isDg c) 128 (by decide +kernel) c hc
    exact eq_of_beq this
  · have h1 : ∀ x ∈ (Str.ofString "0123456789").cps.toList, x < 128 := by decide +kernel
    rw [decide_eq_false (fun h => hc (h1 c h))]
    unfold isDg
    simp
    omega
theorem occ_nm (c : Nat) : (Builtin.Str.occurrences (Str.ofString "abcdefghijklmnopqrstuvwxyz-_0123456789ABCDEFGHIJKLMNOPQRSTUVWXYZ") ⟨#[c]⟩ 0 (Str.ofString "abcdefghijklmnopqrstuvwxyz-_0123456789ABCDEFGHIJKLMNOPQRSTUVWXYZ").length 1).isEmpty = !isNm c := by
  have h := StrLaws.found_one NMS c
  rw [nms_mem] at h
  rw [← h, Bool.not_not]
  rfl
theorem occ_st (c : Nat) : (Builtin.Str.occurrences (Str.ofString "abcdefghijklmnopqrstuvwxyz_ABCDEFGHIJKLMNOPQRSTUVWXYZ") ⟨#[c]⟩ 0 (Str.ofString "abcdefghijklmnopqrstuvwxyz_ABCDEFGHIJKLMNOPQRSTUVWXYZ").length 1).isEmpty = !isSt c := by
  have h := StrLaws.found_one STS c
  rw [sts_mem] at h
  rw [← h, Bool.not_not]
  rfl
theorem occ_dg (c : Nat) : (Builtin.Str.occurrences (Str.ofString "0123456789") ⟨#[c]⟩ 0 (Str.ofString "0123456789").length 1).isEmpty = !isDg c := by
  have h := StrLaws.found_one (Str.ofString "0123456789") c
  rw [dgs_mem] at h
  rw [← h, Bool.not_not]
theorem one_eq (c d : Nat) : ((⟨#[c]⟩ : Str) == ⟨#[d]⟩) = decide (c = d) := by
  rw [Bool.eq_iff_iff, beq_iff_eq, decide_eq_true_eq]
  exact ⟨fun h => by have := congrArg (fun x : Str => x.cps) h; simpa using this, fun h => by rw [h]⟩
theorem c127 (c : Nat) : ((127 : Int) < (c : Int)) = (127 < c) := by rw [eq_iff_iff]; omega
theorem lit_nl : Str.ofString "\n" = ⟨#[10]⟩ := by decide +kernel
theorem lit_cr : Str.ofString "\r" = ⟨#[13]⟩ := by decide +kernel
theorem lit_ff : Str.ofString "\x0c" = ⟨#[12]⟩ := by decide +kernel
theorem lit_tab : Str.ofString "\t" = ⟨#[9]⟩ := by decide +kernel
theorem lit_sp : Str.ofString " " = ⟨#[32]⟩ := by decide +kernel
theorem lit_dq : Str.ofString "\"" = ⟨#[34]⟩ := by decide +kernel
theorem lit_sq : Str.ofString "'" = ⟨#[39]⟩ := by decide +kernel
theorem lit_bs : Str.ofString "\\" = ⟨#[92]⟩ := by decide +kernel
theorem lit_op : Str.ofString "(" = ⟨#[40]⟩ := by decide +kernel
theorem lit_cl : Str.ofString ")" = ⟨#[41]⟩ := by decide +kernel
theorem lit_hy : Str.ofString "-" = ⟨#[45]⟩ := by decide +kernel
theorem lit_hyhy : Str.ofString "--" = ⟨#[45, 45]⟩ := by decide +kernel
theorem lit_bshy : Str.ofString "\\-" = ⟨#[92, 45]⟩ := by decide +kernel
theorem lit_A : Str.ofString "\\A " = ⟨#[92, 65, 32]⟩ := by decide +kernel
theorem lit_D : Str.ofString "\\D " = ⟨#[92, 68, 32]⟩ := by decide +kernel
theorem lit_C : Str.ofString "\\C " = ⟨#[92, 67, 32]⟩ := by decide +kernel
theorem lit_9 : Str.ofString "\\9 " = ⟨#[92, 57, 32]⟩ := by decide +kernel
theorem lit_bsq : Str.ofString "\\'" = ⟨#[92, 39]⟩ := by decide +kernel
theorem lit_bdq : Str.ofString "\\\"" = ⟨#[92, 34]⟩ := by decide +kernel
theorem lit_bbs : Str.ofString "\\\\" = ⟨#[92, 92]⟩ := by decide +kernel
theorem lit_bsp : Str.ofString "\\ " = ⟨#[92, 32]⟩ := by decide +kernel
theorem lit_bop : Str.ofString "\\(" = ⟨#[92, 40]⟩ := by decide +kernel
theorem lit_bcl : Str.ofString "\\)" = ⟨#[92, 41]⟩ := by decide +kernel
theorem lit_em : Str.ofString "" = mkS [] := by decide +kernel

theorem lits : Str.ofString "\\" ++ Str.mk #[0] = mkS [92, 0] := by decide +kernel
theorem bs_add (c : Nat) : (⟨#[92]⟩ : Str) ++ (⟨#[c]⟩ : Str) = mkS [92, c] := rfl
/-! ### join of the words -/
theorem str_join_flat : ∀ l : List (List Nat), Str.join (mkS []) (l.map mkS) = mkS l.flatten
  | [] => rfl
  | [x] => by simp [Str.join]
  | x :: y :: r => by
    have ih := str_join_flat (y :: r)
    rw [List.map_cons] at ih
    rw [List.map_cons, List.map_cons, Str.join, ih, mkS_append, mkS_append, List.append_nil]
    · rw [List.flatten_cons (l := x)]
    · exact fun h => by cases h
theorem map_getD (y : Str) (f : Nat → List Nat) : (List.range y.cps.size).map (fun j => mkS (f (y.cps.getD j 0))) = (unS y).map fun c => mkS (f c) := by
  apply List.ext_getElem
  · simp [unS]
  · intro i h1 h2
    have hi : i < y.cps.size := by simpa using h1
    simp [unS, Array.getD_eq_getD_getElem?, hi]
theorem join_ser (y : Str) (f : Nat → List Nat) : Txt.join (Str.ofString "") ((List.range y.cps.size).map fun j => mkS (f (y.cps.getD j 0))) = mkS ((unS y).flatMap f) := by
  rw [map_getD, lit_em]
  show Builtin.Str.glued _ _ = _
  rw [StrLaws.glued_eq_join]
  have := str_join_flat ((unS y).map f)
  rw [List.map_map] at this
  rw [List.flatMap_def]
  exact this
theorem join_ok (y : Str) (f : Nat → List Nat) (hf : ∀ c, (f c).length ≤ 3) (hy : y.length ≤ 100) : JoinOk (Str.ofString "") ((List.range y.cps.size).map fun j => mkS (f (y.cps.getD j 0))) = true := by
  refine joinOk_of ?_
  rw [map_getD, List.map_map]
  have h1 : ∀ l : List Nat, (l.map (Str.length ∘ fun c => mkS (f c))).sum ≤ 3 * l.length := by
    intro l
    induction l with
    | nil => simp
    | cons c r ih =>
      have := hf c
      rw [List.map_cons, List.sum_cons, List.length_cons]
      show (mkS (f c)).length + _ ≤ _
      rw [mkS_length]
      omega
  have h2 : ((unS y).map ((fun x => x.length) ∘ fun c => mkS (f c))).sum ≤ 3 * (unS y).length := h1 (unS y)
  have h3 : (unS y).length ≤ 100 := by rw [unS_length]; exact hy
  rw [lit_em, mkS_length]
  simp only [List.length_nil, Nat.mul_zero, Nat.add_zero]
  omega
end Mine
namespace Mine
open PySem PySem.W PyProof.Rows
set_option maxHeartbeats 4000000


section
variable {M : Model} {A : Around} {E : Value → Shared → Prop} {s : Shared} {env : Env} {g : Heap} {L : Addr} {m mg mb : Str → Option Value} {x : Str} {pos : Pos} {v : Value} {Q : Value → Shared → Prop} {K : Frag} {p : Program} {loose : List Str}
theorem nameE_L (F : Fr g L s.heap m) (hL : env.locals = L) (hv : m x = some v) (h : Q v s) (hk : env.scope.kind = .function) (hx : env.kindOf x = some .local) (hd : (x == ("__debug__" : Str)) = false) :
    wpAny M A (eval (.Name x pos) env) Q E s := by
  subst hL
  exact wpAny_Name (wpAny_loadName_local hk hx F.ns hv h) hd
theorem nameE_B (F : Fr g L s.heap m) (X : K.In g) (T : TopRead p loose mg mb g) (hG : env.globals = mainGlobals) (hB : env.builtins = builtinsNs) (e : nsIn K mainGlobals x = some none) (hv : bootBuiltins x = some v) (hn : x ≠ "__name__") (h : Q v s)
    (hk : env.scope.kind = .function) (hx : env.kindOf x = some .globalImplicit) (hd : (x == ("__debug__" : Str)) = false) : wpAny M A (eval (.Name x pos) env) Q E s :=
  Calls.Name_function_global hk hx (Calls.loadGlobal_builtin (env := env) (by rw [hG]; exact T.g.keeps F.keep) (mg_none_of X T.g e) (by rw [hB]; exact T.b.keeps F.keep) ((T.builtins x hn).trans hv) h) hd
theorem nameE_K (F : Fr g L s.heap m) (X : K.In g) (T : TopRead p loose mg mb g) (hG : env.globals = mainGlobals) (e : nsIn K mainGlobals x = some (some v)) (h : Q v s)
    (hk : env.scope.kind = .function) (hx : env.kindOf x = some .globalImplicit) (hd : (x == ("__debug__" : Str)) = false) : wpAny M A (eval (.Name x pos) env) Q E s :=
  Calls.Name_function_global hk hx (Calls.loadGlobal_global (env := env) (by rw [hG]; exact T.g.keeps F.keep) (mg_of X T.g e) h) hd
end
local macro_rules | `(tactic| walk_at "eval Name") => `(tactic| (k_here; k_dflt (first
  | (refine' nameE_L ?F ?L ?v ?_ ?a ?b ?d; (case F => assumption); (case L => rfl); (case a => rfl); (case b => rfl); (case d => decide); (case v => assumption); k_whole)
  | (refine' nameE_K ?F ?X ?T ?G ?e ?_ ?a ?b ?d; (case F => assumption); (case X => assumption); (case T => assumption); (case G => rfl); (case a => rfl); (case b => rfl); (case d => decide); (case e => k_is); k_whole)
  | (refine' nameE_B ?F ?X ?T ?G ?B ?e ?v ?n ?_ ?a ?b ?d; (case F => assumption); (case X => assumption); (case T => assumption); (case G => rfl); (case B => rfl); (case a => rfl); (case b => rfl); (case d => decide); (case e => k_is); (case v => boot_fast); (case n => decide); k_whole))))

theorem flat_str {v : Value} {x : Str} (h : PyProof.V.Flat v (.str x)) : ∃ t, v = .str x t := by
  have h' := h default
  cases h' with
  | str _ t => exact ⟨t, rfl⟩
theorem strv_look (c : Nat) : (Spec.lookup (PyData.str ⟨#[c]⟩)
    [(PyData.str ⟨#[34]⟩, PyData.str ⟨#[92, 34]⟩), (PyData.str ⟨#[92]⟩, PyData.str ⟨#[92, 92]⟩), (PyData.str ⟨#[10]⟩, PyData.str ⟨#[92, 65, 32]⟩), (PyData.str ⟨#[13]⟩, PyData.str ⟨#[92, 68, 32]⟩), (PyData.str ⟨#[12]⟩, PyData.str ⟨#[92, 67, 32]⟩)]).getD (PyData.str ⟨#[c]⟩) = PyData.str (mkS (strW c)) := by
  have e : ∀ d : Nat, Spec.same (PyData.str ⟨#[d]⟩) (PyData.str ⟨#[c]⟩) = decide (d = c) := by
    intro d
    show ((⟨#[d]⟩ : Str) == ⟨#[c]⟩) = _
    exact one_eq d c
  simp only [Spec.lookup, e, decide_eq_true_eq, strW]
  by_cases h1 : c = 34
  · rw [if_pos h1, if_pos h1.symm]; rfl
  rw [if_neg h1, if_neg (fun h => h1 h.symm)]
  by_cases h2 : c = 92
  · rw [if_pos h2, if_pos h2.symm]; rfl
  rw [if_neg h2, if_neg (fun h => h2 h.symm)]
  by_cases h3 : c = 10
  · rw [if_pos h3, if_pos h3.symm]; rfl
  rw [if_neg h3, if_neg (fun h => h3 h.symm)]
  by_cases h4 : c = 13
  · rw [if_pos h4, if_pos h4.symm]; rfl
  rw [if_neg h4, if_neg (fun h => h4 h.symm)]
  by_cases h5 : c = 12
  · rw [if_pos h5, if_pos h5.symm]; rfl
  rw [if_neg h5, if_neg (fun h => h5 h.symm)]
  rfl
theorem name_fn {w : World} {mg mb : Str → Option Value} {bm : Addr} {ob : Obj} (v : Str) (t : Tok) (hv : v.length ≤ 100) : Fn w mg mb bm ob 20 28 [.str v t] (fun _ => True) (fun t => .str (mkS ((unS v).flatMap nameW)) t) := by
  intro A s Q E hA hD hU I G hp hR
  have X := I.K
  have T := I.T
  have KE := Kp.refl s.heap
  have hfill9 : PySem.Challenge.rw_qv0001_01.prog = PySem.Challenge.rw_qv0001_01.prog ∧ (∀ P, _root_.Mine.hd.heap_39 P = _root_.Mine.hd.heap_39 P) := by
    k_fill
    exact ⟨rfl, fun _ => rfl⟩
  clear hfill9
  k_dflt (refine' enter (args := ⟨[.str v t], []⟩) (binds := [(Str.ofString "value", .str v t)]) X T.nolimit ?ho ?hcd ?hroom ?hbind ?hloc ?_ ?hco ?hgen ?hk ?hcell; (case ho => k_is); (case hcd => k_is); (case hroom => (simp only [recursionLimit]; omega)); (case hbind => rfl); (case hloc => exact locs rfl); (case hco => rfl); (case hgen => rfl); (case hk => rfl); (case hcell => decide))
  intro h₁ F
  (try dsimp only)
  have N : News s.heap s.heap.objs.size h₁ [] := News.nil
  (try k_unmd)
  k_fold
  k_steps
  refine' gexp (c := 27) (P := 23) (line := 17) (col := 19) (y := v) (ty := t) (fun c => mkS (nameW c)) (fun _ I => I.t1) (.inl rfl) (fun _ _ => Inv.up1) I F N KE G rfl rfl rfl rfl hA rfl (by with_unfolding_all rfl) (by decide) rfl rfl rfl ?room (by intro _; with_unfolding_all rfl) ?iter ?elt ?cont
  case room => (simp only [depth_deeper, recursionLimit]; omega)
  case iter => exact nameX_L F rfl ⟨rfl, rfl⟩
  case elt =>
    clear_value qk ek
    clear F N KE G X T hR
    intro c' C A' E' ch tk u m₂ g' hA' hD' hU' Fe Ie hm
    have X := Ie.K
    have T := Ie.T
    have Ne : News g' C u.heap [] := News.nil
    k_unmd
    k_fold
    k_steps
    all_goals (clear hA' hD' hU' Fe Ie hm X T Ne hD hU I hv hA)
    all_goals (refine EndS.mk ?_; simp only [occ_nm, lit_nl, lit_cr, lit_ff, lit_tab, lit_sp, lit_dq, lit_sq, lit_bs, lit_op, lit_cl, one_eq, c127, decide_eq_true_eq, decide_eq_false_iff_not, Bool.not_eq_true', Bool.not_eq_false'] at *)
    all_goals (unfold nameW; (repeat' split) <;> first | rfl | (simp only [lit_A, lit_D, lit_C, lit_9, lit_bsq, lit_bdq, lit_bbs, lit_bsp, lit_bop, lit_bcl, bs_add]; first | rfl | (exfalso; simp_all; done) | (exfalso; simp_all; omega) | (simp_all; rfl) | (simp_all; done)) | (exfalso; simp_all; done) | (exfalso; simp_all; omega) | (simp_all; rfl))
  case cont =>
    clear F N KE G X T I
    intro g' a K h' gs tk' I F N KE G hLK hN XG
    have X := I.K
    have T := I.T
    k_unmd
    k_steps
    refine joinx F N G XG hLK hN (join_ok v nameW nameW_len hv) (Nat.le_trans hv (by decide)) fun h' gs dr tk t' F N G => ?_
    rw [join_ser]
    exact Ret.str (s := s) hR rfl I F KE G
theorem url_fn {w : World} {mg mb : Str → Option Value} {bm : Addr} {ob : Obj} (v : Str) (t : Tok) (hv : v.length ≤ 100) : Fn w mg mb bm ob 20 43 [.str v t] (fun _ => True) (fun t => .str (mkS ((unS v).flatMap urlW)) t) := by
  intro A s Q E hA hD hU I G hp hR
  have X := I.K
  have T := I.T
  have KE := Kp.refl s.heap
  have hfill9 : PySem.Challenge.rw_qv0001_01.prog = PySem.Challenge.rw_qv0001_01.prog ∧ (∀ P, _root_.Mine.hd.heap_39 P = _root_.Mine.hd.heap_39 P) := by
    k_fill
    exact ⟨rfl, fun _ => rfl⟩
  clear hfill9
  k_dflt (refine' enter (args := ⟨[.str v t], []⟩) (binds := [(Str.ofString "value", .str v t)]) X T.nolimit ?ho ?hcd ?hroom ?hbind ?hloc ?_ ?hco ?hgen ?hk ?hcell; (case ho => k_is); (case hcd => k_is); (case hroom => (simp only [recursionLimit]; omega)); (case hbind => rfl); (case hloc => exact locs rfl); (case hco => rfl); (case hgen => rfl); (case hk => rfl); (case hcell => decide))
  intro h₁ F
  (try dsimp only)
  have N : News s.heap s.heap.objs.size h₁ [] := News.nil
  (try k_unmd)
  k_fold
  k_steps
  refine' gexp (c := 42) (P := 38) (line := 22) (col := 19) (y := v) (ty := t) (fun c => mkS (urlW c)) (fun _ I => I.t3) (.inr (.inr rfl)) (fun _ _ => Inv.up3) I F N KE G rfl rfl rfl rfl hA rfl (by with_unfolding_all rfl) (by decide) rfl rfl rfl ?room (by intro _; with_unfolding_all rfl) ?iter ?elt ?cont
  case room => (simp only [depth_deeper, recursionLimit]; omega)
  case iter => exact nameX_L F rfl ⟨rfl, rfl⟩
  case elt =>
    clear_value qk ek
    clear F N KE G X T hR
    intro c' C A' E' ch tk u m₂ g' hA' hD' hU' Fe Ie hm
    have X := Ie.K
    have T := Ie.T
    have Ne : News g' C u.heap [] := News.nil
    k_unmd
    k_fold
    k_steps
    all_goals (clear hA' hD' hU' Fe Ie hm X T Ne hD hU I hv hA)
    all_goals (refine EndS.mk ?_; simp only [occ_nm, lit_nl, lit_cr, lit_ff, lit_tab, lit_sp, lit_dq, lit_sq, lit_bs, lit_op, lit_cl, one_eq, c127, decide_eq_true_eq, decide_eq_false_iff_not, Bool.not_eq_true', Bool.not_eq_false'] at *)
    all_goals (unfold urlW; (repeat' split) <;> first | rfl | (simp only [lit_A, lit_D, lit_C, lit_9, lit_bsq, lit_bdq, lit_bbs, lit_bsp, lit_bop, lit_bcl, bs_add]; first | rfl | (exfalso; simp_all; done) | (exfalso; simp_all; omega) | (simp_all; rfl) | (simp_all; done)) | (exfalso; simp_all; done) | (exfalso; simp_all; omega) | (simp_all; rfl))
  case cont =>
    clear F N KE G X T I
    intro g' a K h' gs tk' I F N KE G hLK hN XG
    have X := I.K
    have T := I.T
    k_unmd
    k_steps
    refine joinx F N G XG hLK hN (join_ok v urlW urlW_len hv) (Nat.le_trans hv (by decide)) fun h' gs dr tk t' F N G => ?_
    rw [join_ser]
    exact Ret.str (s := s) hR rfl I F KE G
theorem strv_fn {w : World} {mg mb : Str → Option Value} {bm : Addr} {ob : Obj} (v : Str) (t : Tok) (hv : v.length ≤ 100) : Fn w mg mb bm ob 20 36 [.str v t] (fun _ => True) (fun t => .str (mkS ((unS v).flatMap strW)) t) := by
  intro A s Q E hA hD hU I G hp hR
  have X := I.K
  have T := I.T
  have KE := Kp.refl s.heap
  have hfill9 : PySem.Challenge.rw_qv0001_01.prog = PySem.Challenge.rw_qv0001_01.prog ∧ (∀ P, _root_.Mine.hd.heap_39 P = _root_.Mine.hd.heap_39 P) := by
    k_fill
    exact ⟨rfl, fun _ => rfl⟩
  clear hfill9
  k_dflt (refine' enter (args := ⟨[.str v t], []⟩) (binds := [(Str.ofString "value", .str v t)]) X T.nolimit ?ho ?hcd ?hroom ?hbind ?hloc ?_ ?hco ?hgen ?hk ?hcell; (case ho => k_is); (case hcd => k_is); (case hroom => (simp only [recursionLimit]; omega)); (case hbind => rfl); (case hloc => exact locs rfl); (case hco => rfl); (case hgen => rfl); (case hk => rfl); (case hcell => decide))
  intro h₁ F
  (try dsimp only)
  have N : News s.heap s.heap.objs.size h₁ [] := News.nil
  (try k_unmd)
  k_fold
  k_steps
  refine' gexp (c := 35) (P := 31) (line := 20) (col := 19) (y := v) (ty := t) (fun c => mkS (strW c)) (fun _ I => I.t2) (.inr (.inl rfl)) (fun _ _ => Inv.up2) I F N KE G rfl rfl rfl rfl hA rfl (by with_unfolding_all rfl) (by decide) rfl rfl rfl ?room (by intro _; with_unfolding_all rfl) ?iter ?elt ?cont
  case room => (simp only [depth_deeper, recursionLimit]; omega)
  case iter => exact nameX_L F rfl ⟨rfl, rfl⟩
  case elt =>
    clear_value qk ek
    clear F N KE G X T hR
    intro c' C A' E' ch tk u m₂ g' hA' hD' hU' Fe Ie hm
    have X := Ie.K
    have T := Ie.T
    have Ne : News g' C u.heap [] := News.nil
    k_unmd
    k_fold
    k_steps
    all_goals (clear hA' hD' hU' Fe Ie hm X T Ne hD hU I hv hA)
    rename PyProof.V.Flat _ _ => hv9
    rw [strv_look] at hv9
    obtain ⟨t9, rfl⟩ := flat_str hv9
    exact EndS.mk rfl
  case cont =>
    clear F N KE G X T I
    intro g' a K h' gs tk' I F N KE G hLK hN XG
    have X := I.K
    have T := I.T
    k_unmd
    k_steps
    refine joinx F N G XG hLK hN (join_ok v strW strW_len hv) (Nat.le_trans hv (by decide)) fun h' gs dr tk t' F N G => ?_
    rw [join_ser]
    exact Ret.str (s := s) hR rfl I F KE G
end Mine
namespace Mine
open PySem PySem.W PyProof.Rows

/-! ### slices and items of texts, as lists -/
theorem toList_mkS (l : List Nat) : (mkS l).cps.toList = l := by simp [mkS]
theorem len_mkS (l : List Nat) : (mkS l).length = l.length := mkS_length l
theorem slice_to (l : List Nat) (j : Nat) : Txt.slice (mkS l) none (some (j : Int)) = mkS (l.take j) := by
  by_cases h : j ≤ l.length
  · have e := eq_of_beq (slice_closes_toL (x := mkS l) (j := (j : Int)) (by omega) (by rw [len_mkS]; omega))
    rw [e, toList_mkS]
    simp [mkS]
  · rw [slice_to_beyond (by rw [len_mkS]; omega)]
    have e := eq_of_beq (slice_closes_toL (x := mkS l) (j := ((mkS l).length : Int)) (by omega) (by omega))
    rw [e, toList_mkS, len_mkS, List.take_of_length_le (l := l) (i := j) (by omega)]
    simp [mkS]
theorem slice_from (l : List Nat) (i : Nat) : Txt.slice (mkS l) (some (i : Int)) none = mkS (l.drop i) := by
  by_cases h : i ≤ l.length
  · have e := slice_from_eq (x := mkS l) (i := (i : Int)) (b := ((mkS l).length : Int)) (by omega) (by rw [len_mkS]; omega) rfl
    rw [e, toList_mkS, len_mkS]
    have e2 : ((l.length : Int) - (i : Int)).toNat = l.length - i := by omega
    rw [e2, Int.toNat_natCast, List.take_of_length_le (by rw [List.length_drop]; omega)]
    rfl
  · rw [slice_beyond (by rw [len_mkS]; omega), List.drop_of_length_le (by omega)]
    rfl
theorem slice_mid (l : List Nat) (i j : Nat) (hij : i ≤ j) (hj : j ≤ l.length) : Txt.slice (mkS l) (some (i : Int)) (some (j : Int)) = mkS ((l.drop i).take (j - i)) := by
  have e := eq_of_beq (slice_closesL (x := mkS l) (i := (i : Int)) (j := (j : Int)) (by omega) (by omega) (by rw [len_mkS]; omega))
  rw [e, toList_mkS]
  have e2 : ((j : Int) - (i : Int)).toNat = j - i := by omega
  rw [e2, Int.toNat_natCast]
  rfl
theorem item_mkS (l : List Nat) (i : Nat) (h : i < l.length) : Txt.item (mkS l) (i : Int) = ⟨#[l[i]]⟩ := by
  unfold Txt.item Txt.charAt
  have e : seqIndex? (i : Int) (mkS l).length = some i := by
    rw [len_mkS]
    unfold seqIndex?
    have h1 : ¬ ((i : Int) < 0) := by omega
    simp [h1, h]
  rw [e]
  simp [mkS, h]
theorem item0 (c : Nat) (r : List Nat) : Txt.item (mkS (c :: r)) 0 = ⟨#[c]⟩ := item_mkS (c :: r) 0 (by simp)
theorem slice_to2 (l : List Nat) : Txt.slice (mkS l) none (some 2) = mkS (l.take 2) := slice_to l 2
theorem slice_from1 (l : List Nat) : Txt.slice (mkS l) (some 1) none = mkS (l.drop 1) := slice_from l 1
theorem slice_from2 (l : List Nat) : Txt.slice (mkS l) (some 2) none = mkS (l.drop 2) := slice_from l 2
theorem mkS_beq (a b : List Nat) : (mkS a == mkS b) = decide (a = b) := by
  rw [Bool.eq_iff_iff, beq_iff_eq, decide_eq_true_eq, mkS_inj]
theorem one_mkS (c : Nat) : (⟨#[c]⟩ : Str) = mkS [c] := rfl
theorem lit_hy' : Str.ofString "-" = mkS [45] := lit_hy
theorem lit_hyhy' : Str.ofString "--" = mkS [45, 45] := lit_hyhy
end Mine
namespace Mine
open PySem PySem.W PyProof.Rows
set_option maxHeartbeats 4000000

theorem name_fnL {w : World} {mg mb : Str → Option Value} {bm : Addr} {ob : Obj} (v : Str) (t : Tok) (l : List Nat) (x : Str) (hl : v = mkS l) (hx : x = mkS (l.flatMap nameW)) (hlen : l.length ≤ 100) :
    Fn w mg mb bm ob 20 28 [.str v t] (fun _ => True) (fun t => .str x t) := by
  subst hl hx
  have := name_fn (w := w) (mg := mg) (mb := mb) (bm := bm) (ob := ob) (mkS l) t (by rw [len_mkS]; exact hlen)
  rw [unS_mkS] at this
  exact this

/-- ways that meet in one text, the heap as it stood -/
def EndT (x : Str) (u : Shared) (r : Value) (s : Shared) : Prop := ∃ t tk, r = .str x t ∧ s = { heap := u.heap, gens := u.gens, drawn := u.drawn, toks := tk, os := u.os }
def IsJoin (_x : Str) : Prop := True
theorem EndT.mk {x y : Str} {t : Tok} {u : Shared} {tk : Nat} (e : y = x) : EndT x u (.str y t) { heap := u.heap, gens := u.gens, drawn := u.drawn, toks := tk, os := u.os } := ⟨t, tk, by rw [e], rfl⟩
theorem joinT {M : Model} {A : Around} {E : Value → Shared → Prop} {s : Shared} {env : Env} {test body orelse : Expr} {pos : Pos} {Q : Value → Shared → Prop} {x : Str} (_ : IsJoin x)
    (h : wpAny M A (isTrue test env (eval test env)) (fun b s₁ => if b = true then wpAny M A (eval body env) (fun r s₄ => EndT x s r s₄) E s₁ else wpAny M A (eval orelse env) (fun r s₄ => EndT x s r s₄) E s₁) E s)
    (k : ∀ t tk, Q (.str x t) { heap := s.heap, gens := s.gens, drawn := s.drawn, toks := tk, os := s.os }) : wpAny M A (eval (.IfExp test body orelse pos) env) Q E s := by
  refine wpAny_mono (IfExp_ h) (fun r s' e => ?_) fun _ _ e => e
  obtain ⟨t, tk, rfl, rfl⟩ := e
  exact k t tk

theorem lit_em' : Str.ofString "" = mkS [] := by decide +kernel
theorem st_getD (c : Nat) : (Str.mk #[c]).cps.getD 0 0 = c := rfl
theorem identL_plain {c : Nat} (h : c ≠ 45) : ∀ r : List Nat, identL (c :: r) = startW c ++ r.flatMap nameW
  | [] => by rw [identL, if_neg h]; simp
  | d :: r => by rw [identL, if_neg h]
theorem identL_dash {d : Nat} (h : d ≠ 45) (r : List Nat) : identL (45 :: d :: r) = 45 :: (startW d ++ r.flatMap nameW) := by rw [identL, if_pos rfl, if_neg h]

/-! '%X' of a figure's code -/
section
open PySem.Calls
variable {w : World} {A : Around} {E : Value → Shared → Prop} {s : Shared} {t u : Tok} {Q : Value → Shared → Prop}
theorem pct0 (h : ∀ t' k, Q (.str (Str.ofString "\\30 ") t') { s with toks := k }) : wpAny (model pr w) A (binaryOp .Mod (.str (Str.ofString "\\%X ") t) (.int 48 u)) Q E s := by
  refine' KPc.mod_lit (T := Str.ofString "\\30 ") ?kpcF ?kpcd ?kpcm h
  case kpcF => kpc_eq
  case kpcd => decide +kernel
  case kpcm => k_dflt kpc_run
theorem pct1 (h : ∀ t' k, Q (.str (Str.ofString "\\31 ") t') { s with toks := k }) : wpAny (model pr w) A (binaryOp .Mod (.str (Str.ofString "\\%X ") t) (.int 49 u)) Q E s := by
  refine' KPc.mod_lit (T := Str.ofString "\\31 ") ?kpcF ?kpcd ?kpcm h
  case kpcF => kpc_eq
  case kpcd => decide +kernel
  case kpcm => k_dflt kpc_run
theorem pct2 (h : ∀ t' k, Q (.str (Str.ofString "\\32 ") t') { s with toks := k }) : wpAny (model pr w) A (binaryOp .Mod (.str (Str.ofString "\\%X ") t) (.int 50 u)) Q E s := by
  refine' KPc.mod_lit (T := Str.ofString "\\32 ") ?kpcF ?kpcd ?kpcm h
  case kpcF => kpc_eq
  case kpcd => decide +kernel
  case kpcm => k_dflt kpc_run
theorem pct3 (h : ∀ t' k, Q (.str (Str.ofString "\\33 ") t') { s with toks := k }) : wpAny (model pr w) A (binaryOp .Mod (.str (Str.ofString "\\%X ") t) (.int 51 u)) Q E s := by
  refine' KPc.mod_lit (T := Str.ofString "\\33 ") ?kpcF ?kpcd ?kpcm h
  case kpcF => kpc_eq
  case kpcd => decide +kernel
  case kpcm => k_dflt kpc_run
theorem pct4 (h : ∀ t' k, Q (.str (Str.ofString "\\34 ") t') { s with toks := k }) : wpAny (model pr w) A (binaryOp .Mod (.str (Str.ofString "\\%X ") t) (.int 52 u)) Q E s := by
  refine' KPc.mod_lit (T := Str.ofString "\\34 ") ?kpcF ?kpcd ?kpcm h
  case kpcF => kpc_eq
  case kpcd => decide +kernel
  case kpcm => k_dflt kpc_run
theorem pct5 (h : ∀ t' k, Q (.str (Str.ofString "\\35 ") t') { s with toks := k }) : wpAny (model pr w) A (binaryOp .Mod (.str (Str.ofString "\\%X ") t) (.int 53 u)) Q E s := by
  refine' KPc.mod_lit (T := Str.ofString "\\35 ") ?kpcF ?kpcd ?kpcm h
  case kpcF => kpc_eq
  case kpcd => decide +kernel
  case kpcm => k_dflt kpc_run
theorem pct6 (h : ∀ t' k, Q (.str (Str.ofString "\\36 ") t') { s with toks := k }) : wpAny (model pr w) A (binaryOp .Mod (.str (Str.ofString "\\%X ") t) (.int 54 u)) Q E s := by
  refine' KPc.mod_lit (T := Str.ofString "\\36 ") ?kpcF ?kpcd ?kpcm h
  case kpcF => kpc_eq
  case kpcd => decide +kernel
  case kpcm => k_dflt kpc_run
theorem pct7 (h : ∀ t' k, Q (.str (Str.ofString "\\37 ") t') { s with toks := k }) : wpAny (model pr w) A (binaryOp .Mod (.str (Str.ofString "\\%X ") t) (.int 55 u)) Q E s := by
  refine' KPc.mod_lit (T := Str.ofString "\\37 ") ?kpcF ?kpcd ?kpcm h
  case kpcF => kpc_eq
  case kpcd => decide +kernel
  case kpcm => k_dflt kpc_run
theorem pct8 (h : ∀ t' k, Q (.str (Str.ofString "\\38 ") t') { s with toks := k }) : wpAny (model pr w) A (binaryOp .Mod (.str (Str.ofString "\\%X ") t) (.int 56 u)) Q E s := by
  refine' KPc.mod_lit (T := Str.ofString "\\38 ") ?kpcF ?kpcd ?kpcm h
  case kpcF => kpc_eq
  case kpcd => decide +kernel
  case kpcm => k_dflt kpc_run
theorem pct9 (h : ∀ t' k, Q (.str (Str.ofString "\\39 ") t') { s with toks := k }) : wpAny (model pr w) A (binaryOp .Mod (.str (Str.ofString "\\%X ") t) (.int 57 u)) Q E s := by
  refine' KPc.mod_lit (T := Str.ofString "\\39 ") ?kpcF ?kpcd ?kpcm h
  case kpcF => kpc_eq
  case kpcd => decide +kernel
  case kpcm => k_dflt kpc_run
theorem pctX {y : Str} (hy : ∃ c, y = ⟨#[c]⟩) (hd : (Builtin.Str.occurrences (Str.ofString "0123456789") y 0 (Str.ofString "0123456789").length 1).isEmpty = false)
    (h : ∀ t' k, Q (.str (mkS [92, 51, y.cps.getD 0 0, 32]) t') { s with toks := k }) : wpAny (model pr w) A (binaryOp .Mod (.str (Str.ofString "\\%X ") t) (.int (y.cps.getD 0 0 : Nat) u)) Q E s := by
  obtain ⟨c, rfl⟩ := hy
  rw [occ_dg, Bool.not_eq_false'] at hd
  have e : (Str.mk #[c]).cps.getD 0 0 = c := rfl
  rw [e] at h ⊢
  unfold isDg at hd
  simp only [Bool.and_eq_true, decide_eq_true_eq] at hd
  obtain ⟨h1, h2⟩ := hd
  have key : c = 48 ∨ c = 49 ∨ c = 50 ∨ c = 51 ∨ c = 52 ∨ c = 53 ∨ c = 54 ∨ c = 55 ∨ c = 56 ∨ c = 57 := by omega
  have lit : ∀ n : Nat, ∀ x : Str, x = mkS [92, 51, n, 32] → c = n → ∀ t' k, Q (.str x t') { s with toks := k } := by
    rintro n x rfl rfl
    exact h
  rcases key with e | e | e | e | e | e | e | e | e | e
  · have := pct0 (w := w) (A := A) (E := E) (t := t) (u := u) (lit 48 _ (by decide +kernel) e)
    rw [e]; exact this
  · have := pct1 (w := w) (A := A) (E := E) (t := t) (u := u) (lit 49 _ (by decide +kernel) e)
    rw [e]; exact this
  · have := pct2 (w := w) (A := A) (E := E) (t := t) (u := u) (lit 50 _ (by decide +kernel) e)
    rw [e]; exact this
  · have := pct3 (w := w) (A := A) (E := E) (t := t) (u := u) (lit 51 _ (by decide +kernel) e)
    rw [e]; exact this
  · have := pct4 (w := w) (A := A) (E := E) (t := t) (u := u) (lit 52 _ (by decide +kernel) e)
    rw [e]; exact this
  · have := pct5 (w := w) (A := A) (E := E) (t := t) (u := u) (lit 53 _ (by decide +kernel) e)
    rw [e]; exact this
  · have := pct6 (w := w) (A := A) (E := E) (t := t) (u := u) (lit 54 _ (by decide +kernel) e)
    rw [e]; exact this
  · have := pct7 (w := w) (A := A) (E := E) (t := t) (u := u) (lit 55 _ (by decide +kernel) e)
    rw [e]; exact this
  · have := pct8 (w := w) (A := A) (E := E) (t := t) (u := u) (lit 56 _ (by decide +kernel) e)
    rw [e]; exact this
  · have := pct9 (w := w) (A := A) (E := E) (t := t) (u := u) (lit 57 _ (by decide +kernel) e)
    rw [e]; exact this
end

section
local macro_rules | `(tactic| walk_at "call ref") => `(tactic| (k_here; k_dflt (refine' Fn.use (name_fnL _ _ _ _ ?hl ?hx ?hlen) ?hA ?hd ?hu ?I ?F ?N ?KE ?G ?hp ?_; (case hA => assumption); (case hd => ((try simp only [depth_deeper, Around.in1_depth]); omega)); (case hu => ((try simp only [Around.deeper_units, Around.in1_units]); omega)); (case F => assumption); (case I => assumption); (case N => assumption); (case KE => assumption); (case G => assumption); (case hp => trivial); (case hl => assumption); (case hx => assumption); (case hlen => omega); k_whole; intro g' h' gs' dr' tk' t' I' F' N' KE' G' kg'; (have X' := Inv.K I'); (have T' := Inv.T I'); (try dsimp only); (try k_unmd))))
-- a branch that a fact in hand decides
local macro_rules | `(tactic| walk_at "ite") => `(tactic| first | refine ite_pos (by with_reducible assumption) ?_ | refine ite_neg (by with_reducible assumption) ?_)
local macro_rules | `(tactic| walk_at "binaryOp Mod str int") => `(tactic| ((with_reducible show wpAny _ _ (binaryOp Operator.Mod (Value.str _ _) (Value.int _ _)) _ _ _); refine' pctX ?hy ?hd ?_; (case hy => exact ⟨_, rfl⟩); (case hd => assumption); intro _ _))
local macro_rules | `(tactic| walk_at "eval IfExp") => `(tactic| ((with_reducible show wpAny _ _ (eval (Expr.IfExp _ _ _ ⟨13, 14, _, _⟩) _) _ _ _); refine' joinT ?m ?_ ?_; (case m => assumption); rotate_left; (intro tq tkq; (try dsimp only); (try k_unmd)); rotate_right))

theorem ident_A {w : World} {mg mb : Str → Option Value} {bm : Addr} {ob : Obj} (v : Str) (hv : v = mkS [45]) (t : Tok) : Fn w mg mb bm ob 40 21 [.str v t] (fun _ => True) (fun t => .str (mkS (identL [45])) t) := by
  intro A s Q E hA hD hU I G hp hR
  have X := I.K
  have T := I.T
  have KE := Kp.refl s.heap
  have e1 : (v == Str.ofString "-") = true := by rw [hv, lit_hy', mkS_beq]; rfl
  have hfill9 : PySem.Challenge.rw_qv0001_01.prog = PySem.Challenge.rw_qv0001_01.prog ∧ (∀ P, _root_.Mine.hd.heap_39 P = _root_.Mine.hd.heap_39 P) := by
    k_fill
    exact ⟨rfl, fun _ => rfl⟩
  clear hfill9
  k_dflt (refine' enter (args := ⟨[.str v t], []⟩) (binds := [(Str.ofString "value", .str v t)]) X T.nolimit ?ho ?hcd ?hroom ?hbind ?hloc ?_ ?hco ?hgen ?hk ?hcell; (case ho => k_is); (case hcd => k_is); (case hroom => (simp only [recursionLimit]; omega)); (case hbind => rfl); (case hloc => exact locs rfl); (case hco => rfl); (case hgen => rfl); (case hk => rfl); (case hcell => decide))
  intro h₁ F
  (try dsimp only)
  have N : News s.heap s.heap.objs.size h₁ [] := News.nil
  (try k_unmd)
  k_fold
  k_steps
  all_goals (refine' Ret.str (s := s) hR ?_ (by assumption) (by assumption) (by assumption) (by assumption))
  exact lit_bshy

theorem ident_B {w : World} {mg mb : Str → Option Value} {bm : Addr} {ob : Obj} (v : Str) (t : Tok) (r : List Nat) (hv : v = mkS (45 :: 45 :: r)) (hr : r.length ≤ 98) : Fn w mg mb bm ob 40 21 [.str v t] (fun _ => True) (fun t => .str (mkS (identL (45 :: 45 :: r))) t) := by
  intro A s Q E hA hD hU I G hp hR
  have X := I.K
  have T := I.T
  have KE := Kp.refl s.heap
  have e1 : ¬ ((v == Str.ofString "-") = true) := by rw [hv, lit_hy', mkS_beq]; simp
  have e2 : (Txt.slice v none (some 2) == Str.ofString "--") = true := by rw [hv, slice_to2, lit_hyhy', mkS_beq]; simp
  have e3 : Txt.slice v (some 2) none = mkS r := by rw [hv, slice_from2]; rfl
  have l0 : v.length ≤ 100 := by rw [hv, len_mkS]; simp only [List.length_cons]; omega
  obtain ⟨xn, hxn⟩ : ∃ x, x = mkS (r.flatMap nameW) := ⟨_, rfl⟩
  have l4 : xn.length ≤ 300 := by
    have := flat_len nameW_len r
    rw [hxn, len_mkS]; omega
  have hfill9 : PySem.Challenge.rw_qv0001_01.prog = PySem.Challenge.rw_qv0001_01.prog ∧ (∀ P, _root_.Mine.hd.heap_39 P = _root_.Mine.hd.heap_39 P) := by
    k_fill
    exact ⟨rfl, fun _ => rfl⟩
  clear hfill9
  k_dflt (refine' enter (args := ⟨[.str v t], []⟩) (binds := [(Str.ofString "value", .str v t)]) X T.nolimit ?ho ?hcd ?hroom ?hbind ?hloc ?_ ?hco ?hgen ?hk ?hcell; (case ho => k_is); (case hcd => k_is); (case hroom => (simp only [recursionLimit]; omega)); (case hbind => rfl); (case hloc => exact locs rfl); (case hco => rfl); (case hgen => rfl); (case hk => rfl); (case hcell => decide))
  intro h₁ F
  (try dsimp only)
  have N : News s.heap s.heap.objs.size h₁ [] := News.nil
  (try k_unmd)
  k_fold
  k_steps
  all_goals (refine' Ret.str (s := s) hR ?_ (by assumption) (by assumption) (by assumption) (by assumption))
  rw [hxn, lit_hyhy', mkS_append]
  rfl

theorem ident_C {w : World} {mg mb : Str → Option Value} {bm : Addr} {ob : Obj} (v : Str) (t : Tok) (d : Nat) (r : List Nat) (hv : v = mkS (45 :: d :: r)) (hd : d ≠ 45) (hr : r.length ≤ 98) : Fn w mg mb bm ob 40 21 [.str v t] (fun _ => True) (fun t => .str (mkS (identL (45 :: d :: r))) t) := by
  intro A s Q E hA hD hU I G hp hR
  have X := I.K
  have T := I.T
  have KE := Kp.refl s.heap
  have e1 : ¬ ((v == Str.ofString "-") = true) := by rw [hv, lit_hy', mkS_beq]; simp
  have e2 : ¬ ((Txt.slice v none (some 2) == Str.ofString "--") = true) := by rw [hv, slice_to2, lit_hyhy', mkS_beq]; simp [hd]
  have e3 : (Txt.item v 0 == Str.ofString "-") = true := by rw [hv, item0, lit_hy]; rfl
  have e4 : Txt.slice v (some 1) none = mkS (d :: r) := by rw [hv, slice_from1]; rfl
  have e5 : Txt.item (Txt.slice v (some 1) none) 0 = ⟨#[d]⟩ := by rw [e4, item0]
  have e6 : Txt.slice (Txt.slice v (some 1) none) (some 1) none = mkS r := by rw [e4, slice_from1]; rfl
  have l1 : 2 ≤ v.length := by rw [hv, len_mkS]; simp
  have l2 : 1 ≤ (Txt.slice v (some 1) none).length := by rw [e4, len_mkS]; simp
  have l0 : v.length ≤ 100 := by rw [hv, len_mkS]; simp only [List.length_cons]; omega
  obtain ⟨xn, hxn⟩ : ∃ x, x = mkS (r.flatMap nameW) := ⟨_, rfl⟩
  have l4 : xn.length ≤ 300 := by
    have := flat_len nameW_len r
    rw [hxn, len_mkS]; omega
  obtain ⟨xs, hxs⟩ : ∃ x, x = mkS (startW d) := ⟨_, rfl⟩
  have l3 : xs.length ≤ 4 := by rw [hxs, len_mkS]; exact startW_len d
  have hj : IsJoin xs := trivial
  have hfill9 : PySem.Challenge.rw_qv0001_01.prog = PySem.Challenge.rw_qv0001_01.prog ∧ (∀ P, _root_.Mine.hd.heap_39 P = _root_.Mine.hd.heap_39 P) := by
    k_fill
    exact ⟨rfl, fun _ => rfl⟩
  clear hfill9
  k_dflt (refine' enter (args := ⟨[.str v t], []⟩) (binds := [(Str.ofString "value", .str v t)]) X T.nolimit ?ho ?hcd ?hroom ?hbind ?hloc ?_ ?hco ?hgen ?hk ?hcell; (case ho => k_is); (case hcd => k_is); (case hroom => (simp only [recursionLimit]; omega)); (case hbind => rfl); (case hloc => exact locs rfl); (case hco => rfl); (case hgen => rfl); (case hk => rfl); (case hcell => decide))
  intro h₁ F
  (try dsimp only)
  have N : News s.heap s.heap.objs.size h₁ [] := News.nil
  (try k_unmd)
  k_fold
  k_steps
  all_goals first
    | (refine' Ret.str (s := s) hR ?_ (by assumption) (by assumption) (by assumption) (by assumption); rw [hxs, hxn, lit_em', mkS_append, mkS_append, identL_plain hd]; rfl)
    | (refine' Ret.str (s := s) hR ?_ (by assumption) (by assumption) (by assumption) (by assumption); rw [hxs, hxn, lit_hy', mkS_append, mkS_append]; first | rfl | (rw [identL_dash hd]; rfl))
    | (with_reducible refine EndT.mk ?_
       rw [hxs]
       clear qk ek hR X T KE I G hD hU hA hp
       simp only [e5, occ_st, occ_dg, lit_nl, lit_cr, lit_ff, lit_bs, one_eq, c127, st_getD, decide_eq_true_eq, decide_eq_false_iff_not, Bool.not_eq_true', Bool.not_eq_false'] at *
       unfold startW
       (repeat' split) <;> first | rfl | (simp only [lit_A, lit_D, lit_C, bs_add]; first | rfl | (exfalso; simp_all; done) | (exfalso; simp_all; omega) | (simp_all; rfl) | (simp_all; done)) | (exfalso; simp_all; done) | (exfalso; simp_all; omega) | (simp_all; rfl))
  all_goals (clear_value qk ek; trace_state)

theorem ident_D {w : World} {mg mb : Str → Option Value} {bm : Addr} {ob : Obj} (v : Str) (t : Tok) (d : Nat) (r : List Nat) (hv : v = mkS (d :: r)) (hd : d ≠ 45) (hr : r.length ≤ 99) : Fn w mg mb bm ob 40 21 [.str v t] (fun _ => True) (fun t => .str (mkS (identL (d :: r))) t) := by
  intro A s Q E hA hD hU I G hp hR
  have X := I.K
  have T := I.T
  have KE := Kp.refl s.heap
  have e1 : ¬ ((v == Str.ofString "-") = true) := by rw [hv, lit_hy', mkS_beq]; simp [hd]
  have e2 : ¬ ((Txt.slice v none (some 2) == Str.ofString "--") = true) := by rw [hv, slice_to2, lit_hyhy', mkS_beq]; simp [hd]
  have e5 : Txt.item v 0 = ⟨#[d]⟩ := by rw [hv, item0]
  have e3 : ¬ ((Txt.item v 0 == Str.ofString "-") = true) := by rw [e5, lit_hy, one_eq]; simp [hd]
  have e6 : Txt.slice v (some 1) none = mkS r := by rw [hv, slice_from1]; rfl
  have l1 : 1 ≤ v.length := by rw [hv, len_mkS]; simp
  have l0 : v.length ≤ 100 := by rw [hv, len_mkS]; simp only [List.length_cons]; omega
  obtain ⟨xn, hxn⟩ : ∃ x, x = mkS (r.flatMap nameW) := ⟨_, rfl⟩
  have l4 : xn.length ≤ 300 := by
    have := flat_len nameW_len r
    rw [hxn, len_mkS]; omega
  obtain ⟨xs, hxs⟩ : ∃ x, x = mkS (startW d) := ⟨_, rfl⟩
  have l3 : xs.length ≤ 4 := by rw [hxs, len_mkS]; exact startW_len d
  have hj : IsJoin xs := trivial
  have hfill9 : PySem.Challenge.rw_qv0001_01.prog = PySem.Challenge.rw_qv0001_01.prog ∧ (∀ P, _root_.Mine.hd.heap_39 P = _root_.Mine.hd.heap_39 P) := by
    k_fill
    exact ⟨rfl, fun _ => rfl⟩
  clear hfill9
  k_dflt (refine' enter (args := ⟨[.str v t], []⟩) (binds := [(Str.ofString "value", .str v t)]) X T.nolimit ?ho ?hcd ?hroom ?hbind ?hloc ?_ ?hco ?hgen ?hk ?hcell; (case ho => k_is); (case hcd => k_is); (case hroom => (simp only [recursionLimit]; omega)); (case hbind => rfl); (case hloc => exact locs rfl); (case hco => rfl); (case hgen => rfl); (case hk => rfl); (case hcell => decide))
  intro h₁ F
  (try dsimp only)
  have N : News s.heap s.heap.objs.size h₁ [] := News.nil
  (try k_unmd)
  k_fold
  k_steps
  all_goals first
    | (refine' Ret.str (s := s) hR ?_ (by assumption) (by assumption) (by assumption) (by assumption); rw [hxs, hxn, lit_em', mkS_append, mkS_append, identL_plain hd]; rfl)
    | (refine' Ret.str (s := s) hR ?_ (by assumption) (by assumption) (by assumption) (by assumption); rw [hxs, hxn, lit_hy', mkS_append, mkS_append]; first | rfl | (rw [identL_dash hd]; rfl))
    | (with_reducible refine EndT.mk ?_
       rw [hxs]
       clear qk ek hR X T KE I G hD hU hA hp
       simp only [e5, occ_st, occ_dg, lit_nl, lit_cr, lit_ff, lit_bs, one_eq, c127, st_getD, decide_eq_true_eq, decide_eq_false_iff_not, Bool.not_eq_true', Bool.not_eq_false'] at *
       unfold startW
       (repeat' split) <;> first | rfl | (simp only [lit_A, lit_D, lit_C, bs_add]; first | rfl | (exfalso; simp_all; done) | (exfalso; simp_all; omega) | (simp_all; rfl) | (simp_all; done)) | (exfalso; simp_all; done) | (exfalso; simp_all; omega) | (simp_all; rfl))
  all_goals (clear_value qk ek; trace_state)
end

theorem ident_fn {w : World} {mg mb : Str → Option Value} {bm : Addr} {ob : Obj} (l : List Nat) (t : Tok) (h1 : 1 ≤ l.length) (hl : l.length ≤ 100) : Fn w mg mb bm ob 40 21 [.str (mkS l) t] (fun _ => True) (fun t => .str (mkS (identL l)) t) := by
  match l, h1, hl with
  | [c], _, _ =>
    by_cases hc : c = 45
    · subst hc; exact ident_A _ rfl t
    · exact ident_D _ t c [] rfl hc (by simp)
  | c :: d :: r, _, hl =>
    simp only [List.length_cons] at hl
    by_cases hc : c = 45
    · subst hc
      by_cases hd : d = 45
      · subst hd; exact ident_B _ t r rfl (by omega)
      · exact ident_C _ t d r rfl hd (by omega)
    · exact ident_D _ t c (d :: r) rfl hc (by simp only [List.length_cons]; omega)
end Mine
namespace Mine
open PySem PySem.W PyProof.Rows
set_option maxHeartbeats 4000000

section
variable {w : World} {mg mb : Str → Option Value} {bm : Addr} {ob : Obj}
theorem name_fnM (v : Str) (t : Tok) (l : List Nat) (hl : v = mkS l) (hlen : l.length ≤ 100) : Fn w mg mb bm ob 20 28 [.str v t] (fun _ => True) (fun t => .str (mkS (l.flatMap nameW)) t) := name_fnL v t l _ hl rfl hlen
theorem strv_fnM (v : Str) (t : Tok) (l : List Nat) (hl : v = mkS l) (hlen : l.length ≤ 100) : Fn w mg mb bm ob 20 36 [.str v t] (fun _ => True) (fun t => .str (mkS (l.flatMap strW)) t) := by
  subst hl
  have := strv_fn (w := w) (mg := mg) (mb := mb) (bm := bm) (ob := ob) (mkS l) t (by rw [len_mkS]; exact hlen)
  rw [unS_mkS] at this
  exact this
theorem url_fnM (v : Str) (t : Tok) (l : List Nat) (hl : v = mkS l) (hlen : l.length ≤ 100) : Fn w mg mb bm ob 20 43 [.str v t] (fun _ => True) (fun t => .str (mkS (l.flatMap urlW)) t) := by
  subst hl
  have := url_fn (w := w) (mg := mg) (mb := mb) (bm := bm) (ob := ob) (mkS l) t (by rw [len_mkS]; exact hlen)
  rw [unS_mkS] at this
  exact this
theorem ident_fnM (v : Str) (t : Tok) (l : List Nat) (hl : v = mkS l) (h1 : 1 ≤ l.length) (hlen : l.length ≤ 100) : Fn w mg mb bm ob 40 21 [.str v t] (fun _ => True) (fun t => .str (mkS (identL l)) t) := by
  subst hl
  exact ident_fn l t h1 hlen
end

section
-- the walker keeps its table of lines while their number stays: a line more than in the section before
local macro_rules | `(tactic| walk_at "no such key") => `(tactic| fail "none")
local macro_rules | `(tactic| walk_at "call ref") => `(tactic| (k_here; k_dflt (refine' Fn.use (name_fnM _ _ _ ?hl ?hlen) ?hA ?hd ?hu ?I ?F ?N ?KE ?G ?hp ?_; (case hA => assumption); (case hd => ((try simp only [depth_deeper, Around.in1_depth]); omega)); (case hu => ((try simp only [Around.deeper_units, Around.in1_units]); omega)); (case F => assumption); (case I => assumption); (case N => assumption); (case KE => assumption); (case G => assumption); (case hp => trivial); (case hl => assumption); (case hlen => omega); k_whole; intro g' h' gs' dr' tk' t' I' F' N' KE' G' kg'; (have X' := Inv.K I'); (have T' := Inv.T I'); (try dsimp only); (try k_unmd))))
local macro_rules | `(tactic| walk_at "call ref") => `(tactic| (k_here; k_dflt (refine' Fn.use (strv_fnM _ _ _ ?hl ?hlen) ?hA ?hd ?hu ?I ?F ?N ?KE ?G ?hp ?_; (case hA => assumption); (case hd => ((try simp only [depth_deeper, Around.in1_depth]); omega)); (case hu => ((try simp only [Around.deeper_units, Around.in1_units]); omega)); (case F => assumption); (case I => assumption); (case N => assumption); (case KE => assumption); (case G => assumption); (case hp => trivial); (case hl => assumption); (case hlen => omega); k_whole; intro g' h' gs' dr' tk' t' I' F' N' KE' G' kg'; (have X' := Inv.K I'); (have T' := Inv.T I'); (try dsimp only); (try k_unmd))))
local macro_rules | `(tactic| walk_at "call ref") => `(tactic| (k_here; k_dflt (refine' Fn.use (url_fnM _ _ _ ?hl ?hlen) ?hA ?hd ?hu ?I ?F ?N ?KE ?G ?hp ?_; (case hA => assumption); (case hd => ((try simp only [depth_deeper, Around.in1_depth]); omega)); (case hu => ((try simp only [Around.deeper_units, Around.in1_units]); omega)); (case F => assumption); (case I => assumption); (case N => assumption); (case KE => assumption); (case G => assumption); (case hp => trivial); (case hl => assumption); (case hlen => omega); k_whole; intro g' h' gs' dr' tk' t' I' F' N' KE' G' kg'; (have X' := Inv.K I'); (have T' := Inv.T I'); (try dsimp only); (try k_unmd))))
local macro_rules | `(tactic| walk_at "call ref") => `(tactic| (k_here; k_dflt (refine' Fn.use (ident_fnM _ _ _ ?hl ?h1 ?hlen) ?hA ?hd ?hu ?I ?F ?N ?KE ?G ?hp ?_; (case hA => assumption); (case hd => ((try simp only [depth_deeper, Around.in1_depth]); omega)); (case hu => ((try simp only [Around.deeper_units, Around.in1_units]); omega)); (case F => assumption); (case I => assumption); (case N => assumption); (case KE => assumption); (case G => assumption); (case hp => trivial); (case hl => assumption); (case h1 => omega); (case hlen => omega); k_whole; intro g' h' gs' dr' tk' t' I' F' N' KE' G' kg'; (have X' := Inv.K I'); (have T' := Inv.T I'); (try dsimp only); (try k_unmd))))

theorem write_0 {w : World} {mg mb : Str → Option Value} {bm : Addr} {ob : Obj} (tk : Tok) (v : Str) (t : Tok) (l : List Nat) (hv : v = mkS l) (h1 : 0 = 3 → 1 ≤ l.length) (hl : l.length ≤ 100) :
    Fn w mg mb bm ob 60 57 [.int 0 tk, .str v t] (fun _ => True) (fun t => .str (mkS (writeL 0 l)) t) := by
  intro A s Q E hA hD hU I G hp hR
  have X := I.K
  have T := I.T
  have KE := Kp.refl s.heap
  have hfill9 : PySem.Challenge.rw_qv0001_01.prog = PySem.Challenge.rw_qv0001_01.prog ∧ (∀ P, _root_.Mine.hd.heap_39 P = _root_.Mine.hd.heap_39 P) := by
    k_fill
    exact ⟨rfl, fun _ => rfl⟩
  clear hfill9
  k_dflt (refine' enter (args := ⟨[.int 0 tk, .str v t], []⟩) (binds := [(Str.ofString "kind", .int 0 tk), (Str.ofString "value", .str v t)]) X T.nolimit ?ho ?hcd ?hroom ?hbind ?hloc ?_ ?hco ?hgen ?hk ?hcell; (case ho => k_is); (case hcd => k_is); (case hroom => (simp only [recursionLimit]; omega)); (case hbind => rfl); (case hloc => exact locs rfl); (case hco => rfl); (case hgen => rfl); (case hk => rfl); (case hcell => decide))
  intro h₁ F
  (try dsimp only)
  have N : News s.heap s.heap.objs.size h₁ [] := News.nil
  (try k_unmd)
  k_fold
  k_steps
  all_goals (refine' Ret.str (s := s) hR ?_ (by assumption) (by assumption) (by assumption) (by assumption))
  rfl
theorem write_1 {w : World} {mg mb : Str → Option Value} {bm : Addr} {ob : Obj} (tk : Tok) (v : Str) (t : Tok) (l : List Nat) (hv : v = mkS l) (h1 : 1 = 3 → 1 ≤ l.length) (hl : l.length ≤ 100) :
    Fn w mg mb bm ob 60 57 [.int 1 tk, .str v t] (fun _ => True) (fun t => .str (mkS (writeL 1 l)) t) := by
  intro A s Q E hA hD hU I G hp hR
  have X := I.K
  have T := I.T
  have KE := Kp.refl s.heap
  have hfill9 : PySem.Challenge.rw_qv0001_01.prog = PySem.Challenge.rw_qv0001_01.prog ∧ (∀ P, _root_.Mine.hd.heap_39 P = _root_.Mine.hd.heap_39 P) := by
    k_fill
    exact ⟨rfl, fun _ => rfl⟩
  clear hfill9
  k_dflt (refine' enter (args := ⟨[.int 1 tk, .str v t], []⟩) (binds := [(Str.ofString "kind", .int 1 tk), (Str.ofString "value", .str v t)]) X T.nolimit ?ho ?hcd ?hroom ?hbind ?hloc ?_ ?hco ?hgen ?hk ?hcell; (case ho => k_is); (case hcd => k_is); (case hroom => (simp only [recursionLimit]; omega)); (case hbind => rfl); (case hloc => exact locs rfl); (case hco => rfl); (case hgen => rfl); (case hk => rfl); (case hcell => decide))
  intro h₁ F
  (try dsimp only)
  have N : News s.heap s.heap.objs.size h₁ [] := News.nil
  (try k_unmd)
  k_fold
  k_steps
  all_goals (refine' Ret.str (s := s) hR ?_ (by assumption) (by assumption) (by assumption) (by assumption))
  rfl
theorem write_2 {w : World} {mg mb : Str → Option Value} {bm : Addr} {ob : Obj} (tk : Tok) (v : Str) (t : Tok) (l : List Nat) (hv : v = mkS l) (h1 : 2 = 3 → 1 ≤ l.length) (hl : l.length ≤ 100) :
    Fn w mg mb bm ob 60 57 [.int 2 tk, .str v t] (fun _ => True) (fun t => .str (mkS (writeL 2 l)) t) := by
  intro A s Q E hA hD hU I G hp hR
  have X := I.K
  have T := I.T
  have KE := Kp.refl s.heap
  have hfill9 : PySem.Challenge.rw_qv0001_01.prog = PySem.Challenge.rw_qv0001_01.prog ∧ (∀ P, _root_.Mine.hd.heap_39 P = _root_.Mine.hd.heap_39 P) := by
    k_fill
    exact ⟨rfl, fun _ => rfl⟩
  clear hfill9
  k_dflt (refine' enter (args := ⟨[.int 2 tk, .str v t], []⟩) (binds := [(Str.ofString "kind", .int 2 tk), (Str.ofString "value", .str v t)]) X T.nolimit ?ho ?hcd ?hroom ?hbind ?hloc ?_ ?hco ?hgen ?hk ?hcell; (case ho => k_is); (case hcd => k_is); (case hroom => (simp only [recursionLimit]; omega)); (case hbind => rfl); (case hloc => exact locs rfl); (case hco => rfl); (case hgen => rfl); (case hk => rfl); (case hcell => decide))
  intro h₁ F
  (try dsimp only)
  have N : News s.heap s.heap.objs.size h₁ [] := News.nil
  (try k_unmd)
  k_fold
  k_steps
  all_goals (refine' Ret.str (s := s) hR ?_ (by assumption) (by assumption) (by assumption) (by assumption))
  rfl
theorem write_3 {w : World} {mg mb : Str → Option Value} {bm : Addr} {ob : Obj} (tk : Tok) (v : Str) (t : Tok) (l : List Nat) (hv : v = mkS l) (h1 : 3 = 3 → 1 ≤ l.length) (hl : l.length ≤ 100) :
    Fn w mg mb bm ob 60 57 [.int 3 tk, .str v t] (fun _ => True) (fun t => .str (mkS (writeL 3 l)) t) := by
  intro A s Q E hA hD hU I G hp hR
  have X := I.K
  have T := I.T
  have KE := Kp.refl s.heap
  have hfill9 : PySem.Challenge.rw_qv0001_01.prog = PySem.Challenge.rw_qv0001_01.prog ∧ (∀ P, _root_.Mine.hd.heap_39 P = _root_.Mine.hd.heap_39 P) := by
    k_fill
    exact ⟨rfl, fun _ => rfl⟩
  clear hfill9
  k_dflt (refine' enter (args := ⟨[.int 3 tk, .str v t], []⟩) (binds := [(Str.ofString "kind", .int 3 tk), (Str.ofString "value", .str v t)]) X T.nolimit ?ho ?hcd ?hroom ?hbind ?hloc ?_ ?hco ?hgen ?hk ?hcell; (case ho => k_is); (case hcd => k_is); (case hroom => (simp only [recursionLimit]; omega)); (case hbind => rfl); (case hloc => exact locs rfl); (case hco => rfl); (case hgen => rfl); (case hk => rfl); (case hcell => decide))
  intro h₁ F
  (try dsimp only)
  have N : News s.heap s.heap.objs.size h₁ [] := News.nil
  (try k_unmd)
  k_fold
  k_steps
  all_goals (refine' Ret.str (s := s) hR ?_ (by assumption) (by assumption) (by assumption) (by assumption))
  rfl
end

theorem write_fn {w : World} {mg mb : Str → Option Value} {bm : Addr} {ob : Obj} (k : Int) (tk : Tok) (v : Str) (t : Tok) (l : List Nat) (hk : 0 ≤ k ∧ k ≤ 3) (hv : v = mkS l) (h1 : k = 3 → 1 ≤ l.length) (hl : l.length ≤ 100) :
    Fn w mg mb bm ob 60 57 [.int k tk, .str v t] (fun _ => True) (fun t => .str (mkS (writeL k l)) t) := by
  have key : k = 0 ∨ k = 1 ∨ k = 2 ∨ k = 3 := by omega
  rcases key with rfl | rfl | rfl | rfl
  · exact write_0 tk v t l hv (fun h => by cases h) hl
  · exact write_1 tk v t l hv (fun h => by cases h) hl
  · exact write_2 tk v t l hv (fun h => by cases h) hl
  · exact write_3 tk v t l hv (fun _ => h1 rfl) hl
end Mine
namespace Mine
open PySem PySem.W PyProof.Rows
set_option maxHeartbeats 4000000

section
open PySem.Calls
variable {prog : Program} {w : World} {A : Around} {E : Value → Shared → Prop} {s : Shared}
/-- a call of a plain def some of whose names are cells -/
theorem enterC {K : Frag} {Q : Value → Shared → Prop} {name qual : Str} {params : Arguments} {body : List Stmt} {scope : Scope} {dV kV doc pm cdv ct oc : Value} {an od : Option Addr} {osl : Array (Option Value)} {f : Addr} {args : Args} {binds : List (Str × Value)}
    (X : K.In s.heap) (hlim : s.heap.NoLimit)
    (ho : K.lookup f = some ⟨oc, od, .func (fnOf name qual params body scope dV kV doc pm an cdv ct), osl⟩) (hcd : codeIn K cdv qual = true) (hroom : A.depth < recursionLimit)
    (hbind : bindArgs (fnOf name qual params body scope dV kV doc pm an cdv ct) args = pure binds) (hkind : (binds.all fun y => scope.names.lookup y.1 == some .local || scope.names.lookup y.1 == some .cell) = true)
    (hnd : ((cellsFrom 0 scope.names []).map (·.1)).Nodup)
    (h : ∀ h₁ tk cells, Fr s.heap s.heap.objs.size h₁ (bindL (envOfC qual scope s.heap.objs.size f cdv).kindOf binds fun _ => none) → News s.heap s.heap.objs.size h₁ cells →
      CellsAre (bindC (envOfC qual scope s.heap.objs.size f cdv).kindOf binds fun _ => none) (cellsFrom (s.heap.objs.size + 1) scope.names []) cells →
      wpAny (model prog w) (A.deeper (envOfC qual scope s.heap.objs.size f cdv)) (execs body (envOfC qual scope s.heap.objs.size f cdv))
        (fun fl s' => Q (match fl with | .ret v => v | _ => .none) s') (fun _ _ => False)
        { s with heap := h₁, toks := tk })
    (hco : scope.isCoroutine = false) (hgen : scope.isGenerator = false) (hk : scope.kind = .function) : wpAny (model prog w) A (call (.ref f) args.pos args.kw) Q E s := by
  refine wpAny_call (codeAny_call_function hroom (X _ _ ho) rfl hco hgen rfl (codeRec_of X hcd) ?_)
  rw [hbind]
  refine wpAny_pure (wpAny_newFunctionEnv_cells hk (kindsX hkind _) fun env' he s' x => ?_)
  subst he
  refine ⟨hlim.keeps x.toInCall.keep, codeAny_func ?_⟩
  obtain ⟨h₁, tk, rfl, _⟩ := x.done
  have hk₁ := x.toInCall.keep
  obtain ⟨cells, NC, Y⟩ := Cl.news (h₀ := s.heap) (Nat.le_refl _) fun n c hm => ⟨x.cell n c (lookup_of_mem_nodup (cellsFrom_names scope.names 0 (s.heap.objs.size + 1) [] [] rfl ▸ hnd) hm), x.above n c hm⟩
  exact wpAny_mono (h h₁ tk cells ⟨x.toInCall.ns, hk₁, Nat.le_refl _⟩ NC Y) (fun fl s' hl => hl) fun _ _ y => y.elim
end

section
variable {w : World} {mg mb : Str → Option Value} {bm : Addr} {ob : Obj} {g h₀ : Heap} {L : Addr} {m : Str → Option Value} {news : List (Addr × Obj)} {A : Around} {s : Shared} {E : Value → Shared → Prop}

/-- all but the tables and one frame kept -/
def KpC (C : Addr) (h h' : Heap) : Prop := ∀ b o, b ≠ C → b ≠ 23 → b ≠ 31 → b ≠ 38 → h.get? b = some o → h'.get? b = some o

theorem fr_regC {h h' : Heap} {C : Addr} (I : Inv w mg mb bm ob g) (F : Fr g L h m) (Ih' : Inv w mg mb bm ob h') (k : KpC C h h') (hLC : L < C) : Fr (reg g h') L h' m := by
  have nL := I.L_ne F
  refine ⟨F.ns.at' fun o e => k _ o (Nat.ne_of_lt hLC) nL.1 nL.2.1 nL.2.2 e, fun b o e => ?_, by rw [reg_size]; exact F.above⟩
  have t := I.reg_tab Ih'
  by_cases h1 : b = 23
  · subst h1; rw [t.1] at e; exact e
  by_cases h2 : b = 31
  · subst h2; rw [t.2.1] at e; exact e
  by_cases h3 : b = 38
  · subst h3; rw [t.2.2] at e; exact e
  rw [reg_other h1 h2 h3] at e
  exact k b o (Nat.ne_of_lt (Nat.lt_trans (Nat.lt_of_lt_of_le (Heap.lt_size e) F.above) hLC)) h1 h2 h3 (F.keep b o e)
theorem news_regC {h h' : Heap} {C : Addr} (I : Inv w mg mb bm ob g) (N : News g L h news) (k : KpC C h h') (hn : ∀ p ∈ news, p.1 ≠ C) : News (reg g h') L h' news := by
  intro p hp
  obtain ⟨a, b, c⟩ := N p hp
  have key : ∀ {cc P l kk : Nat}, TabOk g cc P l kk → p.1 ≠ P := by
    rintro cc P l kk x rfl
    obtain ⟨ps, e'⟩ := x.at
    rw [c] at e'
    cases e'
  have n1 := key I.t1
  have n2 := key I.t2
  have n3 := key I.t3
  exact ⟨k _ _ (hn p hp) n1 n2 n3 a, b, by rw [reg_other n1 n2 n3]; exact c⟩

/-- every object that neither the ground nor this frame is -/
def rest (g h : Heap) (C : Addr) : List (Addr × Obj) := (List.range h.objs.size).filterMap fun b => match h.get? b with
  | some o => if b = C then none else (match g.get? b with | none => some (b, o) | some _ => none)
  | none => none
theorem mem_rest {g h : Heap} {C : Addr} {p : Addr × Obj} : p ∈ rest g h C ↔ h.get? p.1 = some p.2 ∧ p.1 ≠ C ∧ g.get? p.1 = none := by
  unfold rest
  rw [List.mem_filterMap]
  constructor
  · rintro ⟨b, hb, e⟩
    cases hh : h.get? b with
    | none => rw [hh] at e; cases e
    | some o =>
      rw [hh] at e
      dsimp only at e
      by_cases hC : b = C
      · rw [if_pos hC] at e; cases e
      · rw [if_neg hC] at e
        cases hg : g.get? b with
        | none => rw [hg] at e; cases e; exact ⟨hh, hC, hg⟩
        | some o' => rw [hg] at e; cases e
  · rintro ⟨h1, h2, h3⟩
    refine ⟨p.1, List.mem_range.mpr (Heap.lt_size h1), ?_⟩
    rw [h1, h3]
    dsimp only
    rw [if_neg h2]
theorem news_rest {h : Heap} {C : Addr} (N : News g C h news) : News g C h (news ++ rest g h C) := fun p hp => (List.mem_append.mp hp).elim (N p) fun hp => mem_rest.mp hp

/-- the end of one element of a comprehension -/
def EltEnd (w : World) (mg mb : Str → Option Value) (bm : Addr) (ob : Obj) (C : Addr) (u : Shared) (J : Value → Heap → Prop) (y : Value) (s : Shared) : Prop :=
  Inv w mg mb bm ob s.heap ∧ KpC C u.heap s.heap ∧ (∃ m, s.heap.Ns C m) ∧ AllBare s.gens ∧ s.os = u.os ∧ J y s.heap

def KA (a b : Heap) : Prop := ∀ p o, a.get? p = some o → b.get? p = some o
theorem EltEnd.intro {u : Shared} {J : Value → Heap → Prop} {y : Value} {gs : Array GenState} {h' g' : Heap} {dr : Drawn} {tk : Nat} {C : Addr} {m' : Str → Option Value} (F₀ : KA g u.heap) (F : Fr g' C h' m') (N : News g' C h' news) (hs : ∀ p ∈ rest g u.heap C, p ∈ news) (I : Inv w mg mb bm ob g') (k : Kp g g') (G : AllBare gs) (hj : J y h') :
    EltEnd w mg mb bm ob C u J y { heap := h', gens := gs, drawn := dr, toks := tk, os := u.os } := by
  refine ⟨I.keeps F.keep, fun b o hb n1 n2 n3 e => ?_, ⟨_, F.ns⟩, G, rfl, hj⟩
  cases hg : g.get? b with
  | some o' =>
    have e1 := F₀ b o' hg
    rw [e] at e1
    rw [Option.some.inj e1]
    exact F.keep b o' (k b o' n1 n2 n3 hg)
  | none => exact (N (b, o) (hs _ (mem_rest.mpr ⟨e, hb, hg⟩))).1

theorem kp_same {a : Addr} {h h' : Heap} (hs : Heap.SameBut a h h') (b : Addr) (o : Obj) (n : b ≠ a) (e : h.get? b = some o) : h'.get? b = some o := hs.extBut b o n e

theorem lc_block {env : Env} {elt iter : Expr} {x : Str} {px : Pos} {ifs : List Expr} {scope : Scope} {cl : List (Str × Addr)} {pos : Pos} {s₂ : Shared} {Ia : Addr} {fp : List Addr} {n : Nat} {P : Nat → Value → Prop} {St : Nat → Heap → Prop} {RR : Value → Addr → Result → Shared → Prop}
    (W : Walks pr w A Ia fp [Ia] n P St) (hsz : n ≤ sizeLine)
    (hcell : ∀ y ∈ scope.names, y.2 ≠ .cell) (hkind : scope.kind = .function) (hx : scope.names.lookup x = some .local)
    (hst : St 0 s₂.heap) (hfp : ∀ b ∈ fp, b < s₂.heap.objs.size) (hft : ∀ b ∈ fp, b ≠ 23 ∧ b ≠ 31 ∧ b ≠ 38)
    (F : Fr g L s₂.heap m) (N : News g L s₂.heap news) (I : Inv w mg mb bm ob g) (KE : Kp h₀ g) (G : AllBare s₂.gens) (hLI : L < Ia) (hNI : ∀ p ∈ news, p.1 ≠ Ia)
    (J : Nat → List Value → Heap → Prop) (pz : Nat → Bool)
    (hJ0 : J 0 [] s₂.heap)
    (hJ : ∀ i ys h h', J i ys h → (∀ b o, s₂.heap.objs.size + 1 < b → h.get? b = some o → h'.get? b = some o) → J i ys h')
    (htests : ∀ i v (u : Shared) m₂ g' C E', i < n → P i v → Fr g' C u.heap m₂ → News g' C u.heap news → Inv w mg mb bm ob g' → m₂ x = some v → L < C →
      wpAny (model pr w) A (forIn ifs true fun c r => if r = true then do let ok ← isTrue c (compEnvC scope cl C env) (eval c (compEnvC scope cl C env)); pure (ForInStep.yield ok) else pure (ForInStep.yield r))
        (fun ok s₃ => ok = pz i ∧ ∃ tk, s₃ = { heap := u.heap, gens := u.gens, drawn := u.drawn, toks := tk, os := u.os }) E' u)
    (helt : ∀ i v ys (u : Shared) m₂ g' C E', i < n → P i v → pz i = true → J i ys u.heap → Fr g' C u.heap m₂ → News g' C u.heap news → Inv w mg mb bm ob g' → Kp h₀ g' → AllBare u.gens → m₂ x = some v → L < C → (s₂.heap.objs.size + 1 < u.heap.objs.size ∧ C = s₂.heap.objs.size + 1) →
      wpAny (model pr w) A (eval elt (compEnvC scope cl C env)) (fun y s₄ => EltEnd w mg mb bm ob C u (fun y h => J (i + 1) (ys ++ [y]) h) y s₄) E' u)
    (hskip : ∀ i ys h, pz i = false → J i ys h → J (i + 1) ys h)
    (hRR : ∀ D C ys h' gs dr tk m' g', Inv w mg mb bm ob g' → Fr g' L h' m → News g' L h' news → Kp h₀ g' → AllBare gs → h'.Ns C m' → h'.PlainList D (List.toArray ys) → D ≠ C → L < D → L < C → g'.get? D = none → (∀ p ∈ news, p.1 ≠ D ∧ p.1 ≠ C) → s₂.heap.objs.size = D → s₂.heap.objs.size + 1 = C →
      ys.length ≤ n → J n ys h' → RR (.ref D) C (.ok .next) { heap := h', gens := gs, drawn := dr, toks := tk, os := s₂.os }) :
    wpAny (model pr w) A (newList []) (fun acc s₃ => wpAny (model pr w) A (newFunctionEnv scope env.globals cl [] env.qual none .none (some env)) (fun cenv s₄ =>
      codeAny (model pr w) A (.compStart (.ListComp elt [⟨.Name x px, iter, ifs, 0⟩] scope pos) 0 (.ref Ia) acc { cenv with scope := relabel scope env }) (RR acc cenv.locals) s₄) E s₃) E s₂ := by
  have hIa : Ia ∈ fp := W.sub _ (List.mem_singleton_self _)
  have hIlt : Ia < s₂.heap.objs.size := hfp _ hIa
  have hIt := hft _ hIa
  have hLlt : L < s₂.heap.objs.size := F.ns.lt
  have Is : Inv w mg mb bm ob s₂.heap := I.keeps F.keep
  refine wpAny_newObj_type (wpAny_newFunctionEnv hcell (by intro y hy; simp at hy) (fun h₁ hns₁ hsb₁ => ?_) hkind)
  dsimp only at hns₁ hsb₁ ⊢
  generalize hH2 : s₂.heap.push { cls := .type "list", dict := none, data := .seq ([] : List Value).toArray } = H2 at hns₁ hsb₁ ⊢
  have hC : H2.objs.size = s₂.heap.objs.size + 1 := by rw [← hH2, Heap.size_push]
  have hsz1 : h₁.objs.size = s₂.heap.objs.size + 2 := by rw [hsb₁.1, Heap.size_push, hC]
  have hDC : s₂.heap.objs.size ≠ H2.objs.size := by rw [hC]; exact Nat.ne_of_lt (Nat.lt_succ_self _)
  have old : ∀ b o, s₂.heap.get? b = some o → h₁.get? b = some o := fun b o e => hsb₁.extBut b o (by rw [hC]; exact Nat.ne_of_lt (Nat.lt_succ_of_lt (Heap.lt_size e))) (Heap.get?_push_of_some _ (hH2 ▸ Heap.get?_push_of_some _ e))
  have hacc : h₁.PlainList s₂.heap.objs.size #[] := ⟨_, hsb₁.extBut _ _ hDC (Heap.get?_push_of_some _ (hH2 ▸ Heap.get?_push_size _ rfl))⟩
  have hst₁ : St 0 h₁ := W.frame _ _ _ hst fun b _ o e => old b o e
  have hDf : s₂.heap.objs.size ∉ fp := fun hm => Nat.lt_irrefl _ (hfp _ hm)
  have hCf : H2.objs.size ∉ fp := fun hm => by have := hfp _ hm; rw [hC] at this; exact Nat.lt_irrefl _ (Nat.lt_of_succ_lt this)
  have nt : ∀ b : Nat, s₂.heap.objs.size ≤ b → b ≠ 23 ∧ b ≠ 31 ∧ b ≠ 38 := fun b hb => by have := Is.sz; exact ⟨Nat.ne_of_gt (by omega), Nat.ne_of_gt (by omega), Nat.ne_of_gt (by omega)⟩
  have hDt := nt _ (Nat.le_refl _)
  have hCt := nt H2.objs.size (by omega)
  have hnD : ∀ p ∈ news, p.1 ≠ s₂.heap.objs.size ∧ p.1 ≠ H2.objs.size := fun p hp => by
    have := Heap.lt_size (N p hp).1
    exact ⟨Nat.ne_of_lt this, Nat.ne_of_lt (by rw [hC]; exact Nat.lt_succ_of_lt this)⟩
  -- the loop
  have loop : ∀ s₃ : Shared, s₃ = { s₂ with heap := h₁, toks := s₂.toks + ([] : List (Str × Value)).length } →
      codeAny (model pr w) A (.compLoop (.ListComp elt [⟨.Name x px, iter, ifs, 0⟩] scope pos) 0 (.ref Ia) (.ref s₂.heap.objs.size) (compEnvC scope cl H2.objs.size env))
        (RR (.ref s₂.heap.objs.size) H2.objs.size) s₃ := by
    rintro s₃ rfl
    refine codeAny_compLoop_tests
      (fun k s' => ∃ i ys g' h' gs dr tk m', s' = { heap := h', gens := gs, drawn := dr, toks := tk, os := s₂.os } ∧ i ≤ n ∧ k = n + 1 - i ∧ St i h' ∧ h'.PlainList s₂.heap.objs.size (List.toArray ys) ∧ h'.Ns H2.objs.size m' ∧
        Inv w mg mb bm ob g' ∧ Fr g' L h' m ∧ News g' L h' news ∧ Kp h₀ g' ∧ AllBare gs ∧ ys.length ≤ i ∧ s₂.heap.objs.size + 1 < h'.objs.size ∧ g'.objs.size = g.objs.size ∧ J i ys h') ?_ (n + 1)
      ⟨0, [], g, h₁, s₂.gens, s₂.drawn, _, _, rfl, Nat.zero_le _, rfl, hst₁, hacc, hns₁, I, F.keeps old, fun p hp => ⟨old _ _ (N p hp).1, (N p hp).2⟩, KE, G, Nat.le_refl _, by rw [hsz1]; omega, rfl, hJ _ _ _ _ hJ0 fun b o _ e => old b o e⟩
    rintro k s' ⟨i, ys, g', H, gs, dr, tk, m', rfl, hi, rfl, hst', hacc', hn', I', F', N', KE', G', hys, hszH, hgs, hj⟩
    have gsz : g'.objs.size ≤ L := F'.above
    have offL : ∀ {b : Addr} {o : Obj}, g'.get? b = some o → b ≠ Ia ∧ b ≠ H2.objs.size ∧ b ≠ s₂.heap.objs.size := fun {b o} e => by
      have h1 := Heap.lt_size e
      have h2 : b < L := Nat.lt_of_lt_of_le h1 gsz
      exact ⟨Nat.ne_of_lt (Nat.lt_trans h2 hLI), Nat.ne_of_lt (by rw [hC]; exact Nat.lt_trans h2 (Nat.lt_succ_of_lt hLlt)), Nat.ne_of_lt (Nat.lt_trans h2 hLlt)⟩
    have LI : L ≠ Ia := Nat.ne_of_lt hLI
    have LC : L ≠ H2.objs.size := Nat.ne_of_lt (by rw [hC]; exact Nat.lt_succ_of_lt hLlt)
    have LD : L ≠ s₂.heap.objs.size := Nat.ne_of_lt hLlt
    by_cases hlt : i < n
    · refine W.item i _ _ _ hlt hst' fun v hA tkA hPv hstA hkA => ?_
      have hkA' : ∀ b o, b ≠ Ia → H.get? b = some o → hA.get? b = some o := fun b o hb e => hkA b o (by simpa using hb) e
      have FA : Fr g' L hA m := ⟨F'.ns.at' fun o e => hkA' _ _ LI e, fun b o e => hkA' _ _ (offL e).1 (F'.keep b o e), F'.above⟩
      have NA : News g' L hA news := fun p hp => ⟨hkA' _ _ (hNI p hp) (N' p hp).1, (N' p hp).2⟩
      have CI : H2.objs.size ≠ Ia := by rw [hC]; exact Nat.ne_of_gt (Nat.lt_succ_of_lt hIlt)
      have DI : s₂.heap.objs.size ≠ Ia := Nat.ne_of_gt hIlt
      refine wpAny_assign_Name (wpAny_storeName_local (lookup_relabel_local hx) (hn'.at' fun o e => hkA' _ _ CI e) (fun hB hnB hsB => ?_) (by simp [compEnvC, relabel, hkind]))
      have keepB : ∀ b o, b ≠ H2.objs.size → hA.get? b = some o → hB.get? b = some o := fun b o hb e => hsB.extBut b o hb e
      have FB : Fr g' L hB m := ⟨FA.ns.at' fun o e => keepB _ _ LC e, fun b o e => keepB _ _ (offL e).2.1 (FA.keep b o e), FA.above⟩
      have NB : News g' L hB news := fun p hp => ⟨keepB _ _ (hnD p hp).2 (NA p hp).1, (NA p hp).2⟩
      have stB : St (i + 1) hB := W.frame _ _ _ hstA fun b hb o e => keepB b o (fun h => hCf (h ▸ hb)) e
      have accB : hB.PlainList s₂.heap.objs.size (List.toArray ys) := hacc'.at fun o e => keepB _ _ hDC (hkA' _ _ DI e)
      have hg0 : 2 + s₂.heap.objs.size ≤ hB.objs.size := by
        have := hnB.lt
        obtain ⟨nD, eD⟩ := accB
        have h2 : H2.objs.size < hB.objs.size := this
        omega
      have jB : J i ys hB := hJ _ _ _ _ hj fun b o hb e => keepB b o (by rw [hC]; exact Nat.ne_of_gt hb) (hkA' b o (Nat.ne_of_gt (Nat.lt_trans hIlt (Nat.lt_trans (Nat.lt_succ_self _) hb))) e)
      have FC : Fr g' H2.objs.size hB (fun y => if y = x then some v else m' y) := ⟨hnB, FB.keep, Nat.le_trans gsz (by rw [hC]; exact Nat.le_of_lt (Nat.lt_succ_of_lt hLlt))⟩
      have NC : News g' H2.objs.size hB news := fun p hp => ⟨(NB p hp).1, (hnD p hp).2, (NB p hp).2.2⟩
      have LltC : L < H2.objs.size := by rw [hC]; exact Nat.lt_succ_of_lt hLlt
      refine wpAny_mono (htests i v _ _ g' H2.objs.size _ hlt hPv FC NC I' (by simp) LltC) (fun ok s₃ h₃ => ?_) fun _ _ e => e
      obtain ⟨rfl, tk₃, rfl⟩ := h₃
      cases hpv : pz i with
      | false =>
        simp only [Bool.false_eq_true, if_false]
        exact ⟨n + 1 - (i + 1), by omega, i + 1, ys, g', hB, gs, dr, tk₃, _, rfl, hlt, rfl, stB, accB, hnB, I', FB, NB, KE', G', by omega, by omega, hgs, hskip _ _ _ hpv jB⟩
      | true =>
        simp only [if_true]
        refine wpAny_mono (helt i v ys _ _ g' H2.objs.size _ hlt hPv hpv jB FC NC I' KE' G' (by simp) LltC ⟨by show s₂.heap.objs.size + 1 < hB.objs.size; omega, hC⟩) (fun y s₄ h₄ => ?_) fun _ _ e => e
        obtain ⟨I₄, k₄, ⟨m4, n4⟩, G₄, os₄, j₄⟩ := h₄
        obtain ⟨h4, gs4, dr4, tk4, os4⟩ := s₄
        dsimp only at I₄ k₄ n4 G₄ os₄ j₄
        subst os₄
        have F4 : Fr (reg g' h4) L h4 m := fr_regC I' FB I₄ k₄ LltC
        have N4 : News (reg g' h4) L h4 news := news_regC I' NB k₄ fun p hp => (hnD p hp).2
        have I4 : Inv w mg mb bm ob (reg g' h4) := I'.reg I₄ fun b o n1 n2 n3 e => k₄ b o (offL e).2.1 n1 n2 n3 (FB.keep b o e)
        have acc4 : h4.PlainList s₂.heap.objs.size (List.toArray ys) := accB.at fun o e => k₄ _ _ hDC hDt.1 hDt.2.1 hDt.2.2 e
        have st4 : St (i + 1) h4 := W.frame _ _ _ stB fun b hb o e => k₄ _ _ (fun h => hCf (h ▸ hb)) (hft b hb).1 (hft b hb).2.1 (hft b hb).2.2 e
        refine wpAny_list_append_plain (hsz := (by rw [List.size_toArray]; exact Nat.le_trans hys (Nat.le_trans (Nat.le_of_lt hlt) hsz))) acc4 fun h5 hl5 hs5 => ?_
        have keep5 : ∀ b o, b ≠ s₂.heap.objs.size → h4.get? b = some o → h5.get? b = some o := fun b o hb e => hs5.extBut b o hb e
        have gsz4 : (reg g' h4).objs.size ≤ L := F4.above
        refine ⟨n + 1 - (i + 1), by omega, i + 1, ys ++ [y], reg g' h4, h5, gs4, dr4, tk4, _, rfl, hlt, rfl, W.frame _ _ _ st4 fun b hb o e => keep5 b o (fun h => hDf (h ▸ hb)) e, ?_, n4.sameBut hs5 (Ne.symm hDC), I4,
          ⟨F4.ns.at' fun o e => keep5 _ _ LD e, fun b o e => keep5 b o (Nat.ne_of_lt (Nat.lt_trans (Nat.lt_of_lt_of_le (Heap.lt_size e) gsz4) hLlt)) (F4.keep b o e), F4.above⟩,
          fun p hp => ⟨keep5 _ _ (hnD p hp).1 (N4 p hp).1, (N4 p hp).2⟩, KE'.trans (kp_reg _ _), G₄, ?_, ?_, by rw [reg_size]; exact hgs, hJ _ _ _ _ j₄ fun b o hb e => keep5 b o (Nat.ne_of_gt (Nat.lt_trans (Nat.lt_succ_self _) hb)) e⟩
        · have e : (ys ++ [y]).toArray = ys.toArray.push y := by simp
          rw [e]; exact hl5
        · rw [List.length_append, List.length_singleton]; omega
        · have h5' := (n4.sameBut hs5 (Ne.symm hDC)).lt
          rw [← hC]; exact h5'
    · have hin : i = n := by omega
      subst hin
      refine W.done _ _ _ hst' fun hA tkA hkA => ?_
      have hkA' : ∀ b o, b ≠ Ia → H.get? b = some o → hA.get? b = some o := fun b o hb e => hkA b o (by simpa using hb) e
      have CI : H2.objs.size ≠ Ia := by rw [hC]; exact Nat.ne_of_gt (Nat.lt_succ_of_lt hIlt)
      have DI : s₂.heap.objs.size ≠ Ia := Nat.ne_of_gt hIlt
      refine hRR _ _ ys hA gs dr tkA m' g' I' ⟨F'.ns.at' fun o e => hkA' _ _ LI e, fun b o e => hkA' _ _ (offL e).1 (F'.keep b o e), F'.above⟩ (fun p hp => ⟨hkA' _ _ (hNI p hp) (N' p hp).1, (N' p hp).2⟩) KE' G' (hn'.at' fun o e => hkA' _ _ CI e) (hacc'.at fun o e => hkA' _ _ DI e) hDC hLlt (by rw [hC]; exact Nat.lt_succ_of_lt hLlt) ?_ hnD rfl hC.symm hys
        (hJ _ _ _ _ hj fun b o hb e => hkA' b o (Nat.ne_of_gt (Nat.lt_trans hIlt (Nat.lt_trans (Nat.lt_succ_self _) hb))) e)
      cases hq : g'.get? s₂.heap.objs.size with
      | none => rfl
      | some o => exact absurd rfl (offL hq).2.2
  exact codeAny_compStart_list (loop _ rfl) (W.self 0 _ _ _ hst₁ (loop _ rfl))
end
end Mine
namespace Mine
open PySem PySem.W PyProof.Rows
set_option maxHeartbeats 4000000

section
variable {w : World} {mg mb : Str → Option Value} {bm : Addr} {ob : Obj} {g h₀ : Heap} {L : Addr} {m : Str → Option Value} {news : List (Addr × Obj)} {A : Around} {s : Shared} {E : Value → Shared → Prop}

/-- a comprehension behind its iterator -/
def LCPost (w : World) (A : Around) (E : Value → Shared → Prop) (env : Env) (elt iter : Expr) (x : Str) (px : Pos) (ifs : List Expr) (scope : Scope) (cl : List (Str × Addr)) (pos : Pos) (use : Option (Value → Sem Unit)) (Q : Value → Shared → Prop) (it : Value) (s₂ : Shared) : Prop :=
  wpAny (model pr w) A (newList []) (fun acc s₃ => wpAny (model pr w) A (newFunctionEnv scope env.globals cl [] env.qual none .none (some env)) (fun cenv s₄ =>
      codeAny (model pr w) A (.compStart (.ListComp elt [⟨.Name x px, iter, ifs, 0⟩] scope pos) 0 it acc { cenv with scope := relabel scope env }) (compPost (model pr w) A E use Q acc cenv.locals) s₄) E s₃) E s₂

theorem LC_eval {env : Env} {elt iter : Expr} {x : Str} {px : Pos} {ifs : List Expr} {scope : Scope} {cl : List (Str × Addr)} {pos : Pos} {Q : Value → Shared → Prop}
    (hclos : closureFor scope env = pure cl) (hkind : scope.kind = .function) (hnames : ∀ y ∈ scope.names, y.2 = .local → scope.names.lookup y.1 = some .local) (hs : ∀ x, foldedSetIterable iter env x = pure x)
    (h : wpAny (model pr w) A (eval iter env) (fun xv s₁ => wpAny (model pr w) A (pyIter xv) (fun it s₂ => LCPost w A E env elt iter x px ifs scope cl pos none Q it s₂) E s₁) E s) :
    wpAny (model pr w) A (eval (.ListComp elt [⟨.Name x px, iter, ifs, 0⟩] scope pos) env) Q E s := by
  rw [eval_ListComp]
  exact wpAny_comprehension_free (use := none) rfl hs hclos hkind hnames h

theorem LC_assign {env : Env} {elt iter : Expr} {x y : Str} {px py : Pos} {ifs : List Expr} {scope : Scope} {cl : List (Str × Addr)} {pos spos : Pos} {Q : Flow → Shared → Prop}
    (hsw : swapsWith (.ListComp elt [⟨.Name x px, iter, ifs, 0⟩] scope pos) (some (.Name y py)) spos.line env = pure true)
    (hclos : closureFor scope env = pure cl) (hkind : scope.kind = .function) (hnames : ∀ y ∈ scope.names, y.2 = .local → scope.names.lookup y.1 = some .local) (hs : ∀ x, foldedSetIterable iter env x = pure x)
    (h : wpAny (model pr w) A (eval iter env) (fun xv s₁ => wpAny (model pr w) A (pyIter xv) (fun it s₂ => LCPost w A E env elt iter x px ifs scope cl pos (some (assign (.Name y py) env)) (fun _ s' => Q .next s') it s₂) E s₁) E s) :
    wpAny (model pr w) A (exec (.Assign [.Name y py] (.ListComp elt [⟨.Name x px, iter, ifs, 0⟩] scope pos) spos) env) Q E s := by
  rw [exec_Assign_Name_used _ _ _ _ hsw]
  refine wpAny_bind (wpAny_standAt (wpAny_bind ?_))
  show wpAny _ A (do let _ ← comprehension (.ListComp elt [⟨.Name x px, iter, ifs, 0⟩] scope pos) scope env _ (newList []) false (eval iter env) (some (assign (.Name y py) env))) _ _ s
  exact wpAny_bind (wpAny_mono (wpAny_comprehension_free (use := some (assign (.Name y py) env)) (Q := fun _ s' => Q .next s') rfl hs hclos hkind hnames h) (fun _ s' hq => wpAny_pure (wpAny_pure hq)) fun _ _ e => e)

/-- what is asked of the elements, and what is handed on -/
structure LCJ (w : World) (mg mb : Str → Option Value) (bm : Addr) (ob : Obj) (A : Around) (env : Env) (elt : Expr) (x : Str) (ifs : List Expr) (scope : Scope) (cl : List (Str × Addr)) (h₀ : Heap) (L : Addr) (news : List (Addr × Obj)) (n : Nat) (P : Nat → Value → Prop) (sz : Nat)
    (J : Nat → List Value → Heap → Prop) (pz : Nat → Bool) : Prop where
  st : ∀ i ys h h', J i ys h → (∀ b o, sz + 1 < b → h.get? b = some o → h'.get? b = some o) → J i ys h'
  tests : ∀ i v (u : Shared) m₂ g' C E', i < n → P i v → Fr g' C u.heap m₂ → News g' C u.heap news → Inv w mg mb bm ob g' → m₂ x = some v → L < C →
      wpAny (model pr w) A (forIn ifs true fun c r => if r = true then do let ok ← isTrue c (compEnvC scope cl C env) (eval c (compEnvC scope cl C env)); pure (ForInStep.yield ok) else pure (ForInStep.yield r))
        (fun ok s₃ => ok = pz i ∧ ∃ tk, s₃ = { heap := u.heap, gens := u.gens, drawn := u.drawn, toks := tk, os := u.os }) E' u
  elt : ∀ i v ys (u : Shared) m₂ g' C E', i < n → P i v → pz i = true → J i ys u.heap → Fr g' C u.heap m₂ → News g' C u.heap news → Inv w mg mb bm ob g' → Kp h₀ g' → AllBare u.gens → m₂ x = some v → L < C → (sz + 1 < u.heap.objs.size ∧ C = sz + 1) →
      wpAny (model pr w) A (eval elt (compEnvC scope cl C env)) (fun y s₄ => EltEnd w mg mb bm ob C u (fun y h => J (i + 1) (ys ++ [y]) h) y s₄) E' u
  skip : ∀ i ys h, pz i = false → J i ys h → J (i + 1) ys h

theorem LC_none {env : Env} {elt iter : Expr} {x : Str} {px : Pos} {ifs : List Expr} {scope : Scope} {cl : List (Str × Addr)} {pos : Pos} {Q : Value → Shared → Prop}
    {s₂ : Shared} {Ia : Addr} {fp : List Addr} {n : Nat} {P : Nat → Value → Prop} {St : Nat → Heap → Prop}
    (W : Walks pr w A Ia fp [Ia] n P St) (hsz : n ≤ sizeLine) (hcell : ∀ y ∈ scope.names, y.2 ≠ .cell) (hkind : scope.kind = .function) (hx : scope.names.lookup x = some .local)
    (hst : St 0 s₂.heap) (hfp : ∀ b ∈ fp, b < s₂.heap.objs.size) (hft : ∀ b ∈ fp, b ≠ 23 ∧ b ≠ 31 ∧ b ≠ 38)
    (F : Fr g L s₂.heap m) (N : News g L s₂.heap news) (I : Inv w mg mb bm ob g) (KE : Kp h₀ g) (G : AllBare s₂.gens) (hLI : L < Ia) (hNI : ∀ p ∈ news, p.1 ≠ Ia)
    (J : Nat → List Value → Heap → Prop) (pz : Nat → Bool) (hJ0 : J 0 [] s₂.heap) (H : LCJ w mg mb bm ob A env elt x ifs scope cl h₀ L news n P s₂.heap.objs.size J pz)
    (hend : ∀ D ys nn h' gs dr tk g', Inv w mg mb bm ob g' → Fr g' L h' m → News g' L h' ((D, listOf (List.toArray ys) nn) :: news) → Kp h₀ g' → AllBare gs → (∀ p ∈ news, p.1 < D) → L < D → s₂.heap.objs.size = D → ys.length ≤ n → J n ys h' →
      Q (.ref D) { heap := h', gens := gs, drawn := dr, toks := tk, os := s₂.os }) :
    LCPost w A E env elt iter x px ifs scope cl pos none Q (.ref Ia) s₂ := by
  refine lc_block (RR := fun acc C => compPost (model pr w) A E none Q acc C) W hsz hcell hkind hx hst hfp hft F N I KE G hLI hNI J pz hJ0 H.st H.tests H.elt H.skip ?_
  intro D C ys h' gs dr tk m' g' I' F' N' KE' G' nC pl hDC hLD hLC hgD hnD hD hC hys hj
  refine ⟨m', nC, fun h2 hs2 => ?_⟩
  have keep : ∀ b o, b ≠ C → h'.get? b = some o → h2.get? b = some o := fun b o n e => hs2.extBut b o n e
  have F2 : Fr g' L h2 m := ⟨F'.ns.at' fun o e => keep _ _ (Nat.ne_of_lt hLC) e, fun b o e => keep b o (Nat.ne_of_lt (Nat.lt_trans (Nat.lt_of_lt_of_le (Heap.lt_size e) F'.above) hLC)) (F'.keep b o e), F'.above⟩
  obtain ⟨nn, eD⟩ := pl
  refine hend D ys nn h2 gs dr tk g' I' F2 (fun p hp => ?_) KE' G' (fun p hp => ?_) hLD hD hys (H.st _ _ _ _ hj fun b o hb e => keep b o (by rw [← hC]; exact Nat.ne_of_gt hb) e)
  · rcases List.mem_cons.mp hp with rfl | hp
    · exact ⟨keep _ _ hDC eD, Nat.ne_of_gt hLD, hgD⟩
    · exact ⟨keep _ _ (hnD p hp).2 (N' p hp).1, (N' p hp).2⟩
  · rw [← hD]; exact Heap.lt_size (N p hp).1

theorem LC_store {env : Env} {elt iter : Expr} {x y : Str} {px py : Pos} {ifs : List Expr} {scope : Scope} {cl : List (Str × Addr)} {pos : Pos} {Q : Value → Shared → Prop}
    {s₂ : Shared} {Ia : Addr} {fp : List Addr} {n : Nat} {P : Nat → Value → Prop} {St : Nat → Heap → Prop}
    (W : Walks pr w A Ia fp [Ia] n P St) (hsz : n ≤ sizeLine) (hcell : ∀ y ∈ scope.names, y.2 ≠ .cell) (hkind : scope.kind = .function) (hx : scope.names.lookup x = some .local)
    (hst : St 0 s₂.heap) (hfp : ∀ b ∈ fp, b < s₂.heap.objs.size) (hft : ∀ b ∈ fp, b ≠ 23 ∧ b ≠ 31 ∧ b ≠ 38)
    (F : Fr g L s₂.heap m) (N : News g L s₂.heap news) (I : Inv w mg mb bm ob g) (KE : Kp h₀ g) (G : AllBare s₂.gens) (hLI : L < Ia) (hNI : ∀ p ∈ news, p.1 ≠ Ia)
    (hL : env.locals = L) (hy : env.kindOf y = some .local) (hp : (env.scope.kind == .class || (env.scope.kind == .module && env.locals != env.globals)) = false)
    (J : Nat → List Value → Heap → Prop) (pz : Nat → Bool) (hJ0 : J 0 [] s₂.heap) (H : LCJ w mg mb bm ob A env elt x ifs scope cl h₀ L news n P s₂.heap.objs.size J pz)
    (hend : ∀ D ys nn h' gs dr tk g', Inv w mg mb bm ob g' → Fr g' L h' (fun z => if z = y then some (.ref D) else m z) → News g' L h' ((D, listOf (List.toArray ys) nn) :: news) → Kp h₀ g' → AllBare gs → (∀ p ∈ news, p.1 < D) → L < D → s₂.heap.objs.size = D → ys.length ≤ n → J n ys h' →
      Q .none { heap := h', gens := gs, drawn := dr, toks := tk, os := s₂.os }) :
    LCPost w A E env elt iter x px ifs scope cl pos (some (assign (.Name y py) env)) Q (.ref Ia) s₂ := by
  subst hL
  refine lc_block (RR := fun acc C => compPost (model pr w) A E (some (assign (.Name y py) env)) Q acc C) W hsz hcell hkind hx hst hfp hft F N I KE G hLI hNI J pz hJ0 H.st H.tests H.elt H.skip ?_
  intro D C ys h' gs dr tk m' g' I' F' N' KE' G' nC pl hDC hLD hLC hgD hnD hD hC hys hj
  show wpAny _ A (assign (.Name y py) env (.ref D)) _ _ _
  refine wpAny_assign_Name (wpAny_storeName_local hy F'.ns (fun h₂ hn₂ hs₂ => ?_) hp)
  refine ⟨m', nC.sameBut hs₂ (Nat.ne_of_gt hLC), fun h3 hs3 => ?_⟩
  have keep : ∀ b o, b ≠ C → b ≠ env.locals → h'.get? b = some o → h3.get? b = some o := fun b o n n2 e => hs3.extBut b o n (hs₂.extBut b o n2 e)
  have F2 : Fr g' env.locals h3 (fun z => if z = y then some (.ref D) else m z) := ⟨hn₂.sameBut hs3 (Nat.ne_of_lt hLC), fun b o e => by
    have hb := Nat.lt_of_lt_of_le (Heap.lt_size e) F'.above
    exact keep b o (Nat.ne_of_lt (Nat.lt_trans hb hLC)) (Nat.ne_of_lt hb) (F'.keep b o e), F'.above⟩
  obtain ⟨nn, eD⟩ := pl
  have hLs : env.locals < s₂.heap.objs.size := F.ns.lt
  refine hend D ys nn h3 gs dr _ g' I' F2 (fun p hp => ?_) KE' G' (fun p hp => ?_) hLD hD hys (H.st _ _ _ _ hj fun b o hb e => keep b o (by rw [← hC]; exact Nat.ne_of_gt hb) (Nat.ne_of_gt (Nat.lt_trans hLs (Nat.lt_trans (Nat.lt_succ_self _) hb))) e)
  · rcases List.mem_cons.mp hp with rfl | hp
    · exact ⟨keep _ _ hDC (Nat.ne_of_gt hLD) eD, Nat.ne_of_gt hLD, hgD⟩
    · exact ⟨keep _ _ (hnD p hp).2 (N' p hp).2.1 (N' p hp).1, (N' p hp).2⟩
  · rw [← hD]; exact Heap.lt_size (N p hp).1
end
end Mine
namespace Mine
open PySem PySem.W PyProof.Rows
set_option maxHeartbeats 4000000

section
variable {w : World} {mg mb : Str → Option Value} {bm : Addr} {ob : Obj} {g h₀ : Heap} {L : Addr} {m : Str → Option Value} {news : List (Addr × Obj)} {A : Around} {s : Shared} {E : Value → Shared → Prop}

/-- an iterator, new in this frame -/
structure ItOk (w : World) (A : Around) (g : Heap) (L : Addr) (m : Str → Option Value) (news : List (Addr × Obj)) (h : Heap) (Ia : Addr) (fp : List Addr) (n : Nat) (P : Nat → Value → Prop) (St : Nat → Heap → Prop) : Prop where
  W : Walks pr w A Ia fp [Ia] n P St
  st : St 0 h
  lt : ∀ b ∈ fp, b < h.objs.size
  ft : ∀ b ∈ fp, b ≠ 23 ∧ b ≠ 31 ∧ b ≠ 38
  F : Fr g L h m
  N : News g L h news
  LI : L < Ia
  NI : ∀ p ∈ news, p.1 ≠ Ia

theorem it_new {o : Obj} {n : Nat} {P : Nat → Value → Prop} {St : Nat → Heap → Prop} {h : Heap} {fp : List Addr} (I : Inv w mg mb bm ob g) (F : Fr g L h m) (N : News g L h news) (W : Walks pr w A h.objs.size fp [h.objs.size] n P St) (st : St 0 (h.push o))
    (hfp : ∀ b ∈ fp, b = h.objs.size ∨ (b < h.objs.size ∧ b ≠ 23 ∧ b ≠ 31 ∧ b ≠ 38)) : ItOk w A g L m news (h.push o) h.objs.size fp n P St where
  W := W
  st := st
  lt := fun b hb => by
    rw [Heap.size_push]
    rcases hfp b hb with rfl | ⟨h1, _⟩
    · exact Nat.lt_succ_self _
    · exact Nat.lt_succ_of_lt h1
  ft := fun b hb => by
    rcases hfp b hb with rfl | ⟨_, h1⟩
    · have h1 := (I.keeps F.keep).sz
      exact ⟨Nat.ne_of_gt (by omega), Nat.ne_of_gt (by omega), Nat.ne_of_gt (by omega)⟩
    · exact h1
  F := F.push o
  N := fun p hp => ⟨Heap.get?_push_of_some _ (N p hp).1, (N p hp).2⟩
  LI := F.ns.lt
  NI := fun p hp => Nat.ne_of_lt (Heap.lt_size (N p hp).1)

theorem it_range {r : Addr} {a b c : Int} {t u v : Tok} {n : Nat} {Q : Value → Shared → Prop} (hA : A.handled = none) (I : Inv w mg mb bm ob g) (F : Fr g L s.heap m) (N : News g L s.heap news)
    (hr : IsRange s.heap r a b c t u v) (hs : Builtin.Range.small a b c = true) (hn : Builtin.Range.rangeSize a b c = (n : Int))
    (h : ∀ Ia h₂, ItOk w A g L m news h₂ Ia [Ia] n (fun i v => ∃ t, v = .int (a + i * c) t) (fun i h => IsRangeIter h Ia (a + (i : Nat) * c) ((n : Int) - (i : Nat)) c) → Q (.ref Ia) { heap := h₂, gens := s.gens, drawn := s.drawn, toks := s.toks, os := s.os }) :
    wpAny (model pr w) A (pyIter (.ref r)) Q E s := by
  refine wpAny_pyIter_range hr hs (h _ _ (it_new I F N (Walks.range hA _ a c n) ?_ ?_))
  · show IsRangeIter _ _ _ _ _
    rw [hn]
    simpa using Heap.get?_push_size _ rfl
  · intro b hb
    exact .inl (List.mem_singleton.mp hb)

theorem it_list {l : Addr} {items : Array Value} {Q : Value → Shared → Prop} (hA : A.handled = none) (I : Inv w mg mb bm ob g) (F : Fr g L s.heap m) (N : News g L s.heap news) (hl : s.heap.IsList l items)
    (h : ∀ Ia h₂, ItOk w A g L m news h₂ Ia [Ia, l] items.size (fun i v => items[i]? = some v) (fun i h => h.IsListIter Ia l i ∧ h.IsList l items) → Q (.ref Ia) { heap := h₂, gens := s.gens, drawn := s.drawn, toks := s.toks, os := s.os }) :
    wpAny (model pr w) A (pyIter (.ref l)) Q E s := by
  have hlt : l < s.heap.objs.size := by obtain ⟨_, e, _⟩ := hl; exact Heap.lt_size e
  have hne : l ≠ 23 ∧ l ≠ 31 ∧ l ≠ 38 := by
    obtain ⟨o, e, hc, _⟩ := hl
    exact (I.keeps F.keep).ne_tab e (by rw [hc]; nofun)
  refine wpAny_pyIter_list hl (h _ _ (it_new I F N (Walks.list hA _ _ (Nat.ne_of_lt hlt) items) ⟨⟨_, Heap.get?_push_size _ rfl, rfl, rfl⟩, hl.push _⟩ ?_))
  intro b hb
  rcases List.mem_cons.mp hb with rfl | hb
  · exact .inl rfl
  · exact .inr (by rw [List.mem_singleton.mp hb]; exact ⟨hlt, hne⟩)

theorem it_str {y : Str} {t : Tok} {Q : Value → Shared → Prop} (hA : A.handled = none) (I : Inv w mg mb bm ob g) (F : Fr g L s.heap m) (N : News g L s.heap news)
    (h : ∀ Ia h₂ St, ItOk w A g L m news h₂ Ia [Ia] y.cps.size (SignAt y) St → Q (.ref Ia) { heap := h₂, gens := s.gens, drawn := s.drawn, toks := s.toks, os := s.os }) :
    wpAny (model pr w) A (pyIter (.str y t)) Q E s := by
  refine wpAny_pyIter_str fun o St W st => h _ _ St (it_new I F N (W A hA) st ?_)
  intro b hb
  exact .inl (List.mem_singleton.mp hb)

theorem LCnone {env : Env} {elt iter : Expr} {x : Str} {px : Pos} {ifs : List Expr} {scope : Scope} {cl : List (Str × Addr)} {pos : Pos} {Q : Value → Shared → Prop}
    {h₂ : Heap} {gs₂ : Array GenState} {dr₂ : Drawn} {tk₂ : Nat} {os₂ : OsState} {Ia : Addr} {fp : List Addr} {n : Nat} {P : Nat → Value → Prop} {St : Nat → Heap → Prop}
    (K : ItOk w A g L m news h₂ Ia fp n P St) (hsz : n ≤ sizeLine) (hcell : ∀ y ∈ scope.names, y.2 ≠ .cell) (hkind : scope.kind = .function) (hx : scope.names.lookup x = some .local)
    (I : Inv w mg mb bm ob g) (KE : Kp h₀ g) (G : AllBare gs₂)
    (J : Nat → List Value → Heap → Prop) (pz : Nat → Bool) (hJ0 : J 0 [] h₂) (H : LCJ w mg mb bm ob A env elt x ifs scope cl h₀ L news n P h₂.objs.size J pz)
    (hend : ∀ D ys nn h' gs dr tk g', Inv w mg mb bm ob g' → Fr g' L h' m → News g' L h' ((D, listOf (List.toArray ys) nn) :: news) → Kp h₀ g' → AllBare gs → (∀ p ∈ news, p.1 < D) → L < D → ys.length ≤ n → h₂.objs.size = D → J n ys h' →
      Q (.ref D) { heap := h', gens := gs, drawn := dr, toks := tk, os := os₂ }) :
    LCPost w A E env elt iter x px ifs scope cl pos none Q (.ref Ia) { heap := h₂, gens := gs₂, drawn := dr₂, toks := tk₂, os := os₂ } :=
  LC_none K.W hsz hcell hkind hx K.st K.lt K.ft K.F K.N I KE G K.LI K.NI J pz hJ0 H fun D ys nn h' gs dr tk g' a b c d e f i j k l => hend D ys nn h' gs dr tk g' a b c d e f i k j l

theorem LCstore {env : Env} {elt iter : Expr} {x y : Str} {px py : Pos} {ifs : List Expr} {scope : Scope} {cl : List (Str × Addr)} {pos : Pos} {Q : Value → Shared → Prop}
    {h₂ : Heap} {gs₂ : Array GenState} {dr₂ : Drawn} {tk₂ : Nat} {os₂ : OsState} {Ia : Addr} {fp : List Addr} {n : Nat} {P : Nat → Value → Prop} {St : Nat → Heap → Prop}
    (K : ItOk w A g L m news h₂ Ia fp n P St) (hsz : n ≤ sizeLine) (hcell : ∀ y ∈ scope.names, y.2 ≠ .cell) (hkind : scope.kind = .function) (hx : scope.names.lookup x = some .local)
    (I : Inv w mg mb bm ob g) (KE : Kp h₀ g) (G : AllBare gs₂)
    (hL : env.locals = L) (hy : env.kindOf y = some .local) (hp : (env.scope.kind == .class || (env.scope.kind == .module && env.locals != env.globals)) = false)
    (J : Nat → List Value → Heap → Prop) (pz : Nat → Bool) (hJ0 : J 0 [] h₂) (H : LCJ w mg mb bm ob A env elt x ifs scope cl h₀ L news n P h₂.objs.size J pz)
    (hend : ∀ D ys nn h' gs dr tk g', Inv w mg mb bm ob g' → Fr g' L h' (fun z => if z = y then some (.ref D) else m z) → News g' L h' ((D, listOf (List.toArray ys) nn) :: news) → Kp h₀ g' → AllBare gs → (∀ p ∈ news, p.1 < D) → L < D → ys.length ≤ n → h₂.objs.size = D → J n ys h' →
      Q .none { heap := h', gens := gs, drawn := dr, toks := tk, os := os₂ }) :
    LCPost w A E env elt iter x px ifs scope cl pos (some (assign (.Name y py) env)) Q (.ref Ia) { heap := h₂, gens := gs₂, drawn := dr₂, toks := tk₂, os := os₂ } :=
  LC_store K.W hsz hcell hkind hx K.st K.lt K.ft K.F K.N I KE G K.LI K.NI hL hy hp J pz hJ0 H fun D ys nn h' gs dr tk g' a b c d e f i j k l => hend D ys nn h' gs dr tk g' a b c d e f i k j l

/-! ### for -/
/-- the end of one turn -/
def TurnEnd (w : World) (mg mb : Str → Option Value) (bm : Addr) (ob : Obj) (h₀ : Heap) (L : Addr) (oI : Addr × Obj) (os : OsState) (J : (Str → Option Value) → List (Addr × Obj) → Prop) (s : Shared) : Prop :=
  ∃ g m news, Inv w mg mb bm ob g ∧ Fr g L s.heap m ∧ News g L s.heap (oI :: news) ∧ Kp h₀ g ∧ AllBare s.gens ∧ s.os = os ∧ J m news

/-- where a turn's body ends -/
def BodyPost (w : World) (mg mb : Str → Option Value) (bm : Addr) (ob : Obj) (h₀ : Heap) (L : Addr) (oI : Addr × Obj) (os : OsState) (J : (Str → Option Value) → List (Addr × Obj) → Prop) (Q : Flow → Shared → Prop) (f : Flow) (s : Shared) : Prop :=
  match f with
  | .next => TurnEnd w mg mb bm ob h₀ L oI os J s
  | .cont => TurnEnd w mg mb bm ob h₀ L oI os J s
  | .brk => Q .next s
  | .ret v => Q (.ret v) s

theorem TurnEnd.intro {os : OsState} {oI : Addr × Obj} {J : (Str → Option Value) → List (Addr × Obj) → Prop} {gs : Array GenState} {h : Heap} {dr : Drawn} {tk : Nat} (I : Inv w mg mb bm ob g) (F : Fr g L h m) (N : News g L h (oI :: news)) (KE : Kp h₀ g) (G : AllBare gs) (j : J m news) :
    TurnEnd w mg mb bm ob h₀ L oI os J { heap := h, gens := gs, drawn := dr, toks := tk, os := os } := ⟨g, m, news, I, F, N, KE, G, rfl, j⟩

def ForPost (w : World) (A : Around) (E : Value → Shared → Prop) (env : Env) (target : Expr) (body : List Stmt) (Q : Flow → Shared → Prop) (it : Value) (s₂ : Shared) : Prop :=
  codeAny (model pr w) A (.forLoop target it body [] env) (fun r s' => match r with | .ok f => Q f s' | .error e => cameBackBy (model pr w) A env E e s') s₂

theorem For_run {env : Env} {target iter : Expr} {body : List Stmt} {pos : Pos} {Q : Flow → Shared → Prop} (hs : ∀ x, foldedSetIterable iter env x = pure x)
    (h : wpAny (model pr w) A (eval iter env) (fun xv s₁ => wpAny (model pr w) A (pyIter xv) (fun it s₂ => ForPost w A E env target body Q it s₂) E s₁) E s) :
    wpAny (model pr w) A (exec (.For target iter body [] pos) env) Q E s := wpAny_For h hs

theorem for_block {env : Env} {target : Expr} {body : List Stmt} {Q : Flow → Shared → Prop} {h₂ : Heap} {gs₂ : Array GenState} {dr₂ : Drawn} {tk₂ : Nat} {os₂ : OsState} {Ia : Addr} {fp : List Addr} {n : Nat} {P : Nat → Value → Prop} {St : Nat → Heap → Prop}
    (K : ItOk w A g L m news h₂ Ia fp n P St) (I : Inv w mg mb bm ob g) (KE : Kp h₀ g) (G : AllBare gs₂) (hlive : ∀ i h, St i h → ∃ o, h.get? Ia = some o)
    (J : Nat → (Str → Option Value) → List (Addr × Obj) → Prop) (hJ0 : J 0 m news)
    (hfix : ∀ b ∈ fp, b = Ia ∨ ∃ o, ∀ i m news, J i m news → (b, o) ∈ news) (hoff : ∀ i m news, J i m news → ∀ p ∈ news, p.1 ≠ Ia)
    (hown : ∀ v s E' (Q' : Unit → Shared → Prop), (∃ i, St i s.heap) → (∀ tk, Q' () { heap := s.heap, gens := s.gens, drawn := s.drawn, toks := tk, os := s.os }) → wpAny (model pr w) A (letOwnedTupleGo target (.ref Ia) v) Q' E' s)
    (turn : ∀ i v m news oI g' h gs dr tk E', i < n → P i v → J i m news → Inv w mg mb bm ob g' → Fr g' L h m → News g' L h ((Ia, oI) :: news) → Kp h₀ g' → AllBare gs → (∀ p ∈ news, p.1 ≠ Ia) → L < Ia →
      wpAny (model pr w) A (assign target env v) (fun _ s₃ => wpAny (model pr w) A (execs body env) (fun f s₄ => BodyPost w mg mb bm ob h₀ L (Ia, oI) os₂ (J (i + 1)) Q f s₄) E' s₃) E' { heap := h, gens := gs, drawn := dr, toks := tk, os := os₂ })
    (done : ∀ m news g' h gs dr tk, J n m news → Inv w mg mb bm ob g' → Fr g' L h m → News g' L h news → Kp h₀ g' → AllBare gs → Q .next { heap := h, gens := gs, drawn := dr, toks := tk, os := os₂ }) :
    ForPost w A E env target body Q (.ref Ia) { heap := h₂, gens := gs₂, drawn := dr₂, toks := tk₂, os := os₂ } := by
  have hLt : L < Ia := K.LI
  refine codeAny_forLoop_any (fun k s' => ∃ i m news g' h gs dr tk, s' = { heap := h, gens := gs, drawn := dr, toks := tk, os := os₂ } ∧ i ≤ n ∧ k = n + 1 - i ∧ St i h ∧ Inv w mg mb bm ob g' ∧ Fr g' L h m ∧ News g' L h news ∧ Kp h₀ g' ∧ AllBare gs ∧ g'.get? Ia = none ∧ J i m news) ?_ (n + 1)
    ⟨0, m, news, g, h₂, gs₂, dr₂, tk₂, rfl, Nat.zero_le _, rfl, K.st, I, K.F, K.N, KE, G, ?_, hJ0⟩
  · rintro k s' ⟨i, m, news, g', H, gs, dr, tk, rfl, hi, rfl, hst, I', F', N', KE', G', hgI, hj⟩
    have off : ∀ p ∈ news, p.1 ≠ Ia := hoff i m news hj
    have gne : ∀ {b : Addr} {o : Obj}, g'.get? b = some o → b ≠ Ia := fun {b o} e => Nat.ne_of_lt (Nat.lt_trans (Nat.lt_of_lt_of_le (Heap.lt_size e) F'.above) hLt)
    by_cases hlt : i < n
    · refine K.W.item i _ _ _ hlt hst fun v hA tkA hPv hstA hkA => ?_
      have hkA' : ∀ b o, b ≠ Ia → H.get? b = some o → hA.get? b = some o := fun b o hb e => hkA b o (by simpa using hb) e
      have FA : Fr g' L hA m := ⟨F'.ns.at' fun o e => hkA' _ _ (Nat.ne_of_lt hLt) e, fun b o e => hkA' _ _ (gne e) (F'.keep b o e), F'.above⟩
      have NA : News g' L hA news := fun p hp => ⟨hkA' _ _ (off p hp) (N' p hp).1, (N' p hp).2⟩
      obtain ⟨oI, eI⟩ := hlive _ _ hstA
      have NI : News g' L hA ((Ia, oI) :: news) := fun p hp => by
        rcases List.mem_cons.mp hp with rfl | hp
        · exact ⟨eI, Nat.ne_of_gt hLt, hgI⟩
        · exact NA p hp
      refine hown v _ _ _ ⟨_, hstA⟩ fun tkB => ?_
      refine wpAny_mono (turn i v m news oI g' hA gs dr tkB _ hlt hPv hj I' FA NI KE' G' off hLt) (fun _ s₃ h₃ => wpAny_mono h₃ (fun f s₄ h₄ => ?_) fun _ _ e => e) fun _ _ e => e
      have fin : TurnEnd w mg mb bm ob h₀ L (Ia, oI) os₂ (J (i + 1)) s₄ → ∃ m_1, m_1 < n + 1 - i ∧ ∃ i m news g' h gs dr tk, s₄ = { heap := h, gens := gs, drawn := dr, toks := tk, os := os₂ } ∧ i ≤ n ∧ m_1 = n + 1 - i ∧ St i h ∧ Inv w mg mb bm ob g' ∧ Fr g' L h m ∧ News g' L h news ∧ Kp h₀ g' ∧ AllBare gs ∧ g'.get? Ia = none ∧ J i m news := by
        rintro ⟨g4, m4, news4, I4, F4, N4, KE4, G4, os4, j4⟩
        obtain ⟨h4, gs4, dr4, tk4, os4'⟩ := s₄
        dsimp only at os4 F4 N4 G4
        subst os4
        have e4 := (N4 _ (List.mem_cons_self ..)).1
        refine ⟨n + 1 - (i + 1), by omega, i + 1, m4, news4, g4, h4, gs4, dr4, tk4, rfl, hlt, rfl, K.W.frame _ _ _ hstA fun b hb o e => ?_, I4, F4, fun p hp => N4 p (List.mem_cons_of_mem _ hp), KE4, G4, (N4 _ (List.mem_cons_self ..)).2.2, j4⟩
        rcases hfix b hb with rfl | ⟨ob', hob⟩
        · rw [eI] at e
          rw [← Option.some.inj e]; exact e4
        · have h1 := (NA _ (hob i m news hj)).1
          have h2 := (N4 _ (List.mem_cons_of_mem _ (hob (i + 1) m4 news4 j4))).1
          dsimp only at h1 h2
          rw [h1] at e
          rw [← Option.some.inj e]; exact h2
      cases f with
      | next => exact fin h₄
      | cont => exact fin h₄
      | brk => exact h₄
      | ret v => exact h₄
    · have hin : i = n := by omega
      subst hin
      refine K.W.done _ _ _ hst fun hA tkA hkA => ?_
      have hkA' : ∀ b o, b ≠ Ia → H.get? b = some o → hA.get? b = some o := fun b o hb e => hkA b o (by simpa using hb) e
      exact wpAny_pure (done m news g' hA gs dr tkA hj I' ⟨F'.ns.at' fun o e => hkA' _ _ (Nat.ne_of_lt hLt) e, fun b o e => hkA' _ _ (gne e) (F'.keep b o e), F'.above⟩ (fun p hp => ⟨hkA' _ _ (off p hp) (N' p hp).1, (N' p hp).2⟩) KE' G')
  · cases hq : g.get? Ia with
    | none => rfl
    | some o => exact absurd (Nat.lt_trans (Nat.lt_of_lt_of_le (Heap.lt_size hq) K.F.above) hLt) (Nat.lt_irrefl _)

theorem own_name {x : Str} {p : Pos} {Ia : Addr} {P : Prop} (v : Value) (s : Shared) (E' : Value → Shared → Prop) (Q' : Unit → Shared → Prop) (_ : P) (h : ∀ tk, Q' () { heap := s.heap, gens := s.gens, drawn := s.drawn, toks := tk, os := s.os }) :
    wpAny (model pr w) A (letOwnedTupleGo (.Name x p) (.ref Ia) v) Q' E' s := wpAny_pure (h s.toks)
theorem own_tuple {elts : List Expr} {x1} {p : Pos} {Ia l : Addr} {R : Heap → Prop} (v : Value) (s : Shared) (E' : Value → Shared → Prop) (Q' : Unit → Shared → Prop) (hi : ∃ i, s.heap.IsListIter Ia l i ∧ R s.heap) (h : ∀ tk, Q' () { heap := s.heap, gens := s.gens, drawn := s.drawn, toks := tk, os := s.os }) :
    wpAny (model pr w) A (letOwnedTupleGo (.Tuple elts x1 p) (.ref Ia) v) Q' E' s := by
  obtain ⟨i, hi, _⟩ := hi
  cases v
  case ref a => exact wpAny_letOwnedTupleGo_listiter hi (h s.toks)
  all_goals exact wpAny_pure (h s.toks)

/-! ### lists of pairs of texts -/
def pairObj (p : Str × Str) (t1 t2 : Tok) : Obj := { cls := .type "tuple", data := .seq (#[.str p.1 t1, .str p.2 t2] : Array Value) }
def Tups (base : Nat) (h : Heap) (ys : List Value) (ps : List (Str × Str)) : Prop :=
  ys.length = ps.length ∧ ∀ (j : Nat) (p : Str × Str), ps[j]? = some p → ∃ (a : Addr) (t1 t2 : Tok), ys[j]? = some (Value.ref a) ∧ base < a ∧ h.get? a = some (pairObj p t1 t2)
theorem Tups.nil {base : Nat} {h : Heap} : Tups base h [] [] := ⟨rfl, fun j p e => by cases e⟩
theorem Tups.at {base : Nat} {h h' : Heap} {ys : List Value} {ps : List (Str × Str)} (x : Tups base h ys ps) (k : ∀ b o, base < b → h.get? b = some o → h'.get? b = some o) : Tups base h' ys ps :=
  ⟨x.1, fun j p e => by
    obtain ⟨a, t1, t2, e1, e2, e3⟩ := x.2 j p e
    exact ⟨a, t1, t2, e1, e2, k _ _ e2 e3⟩⟩
theorem Tups.snoc {base : Nat} {h : Heap} {ys : List Value} {ps : List (Str × Str)} {p : Str × Str} {a : Addr} {t1 t2 : Tok} (x : Tups base h ys ps) (hb : base < a) (e : h.get? a = some (pairObj p t1 t2)) : Tups base h (ys ++ [.ref a]) (ps ++ [p]) := by
  refine ⟨by rw [List.length_append, List.length_append, x.1]; rfl, fun j q hq => ?_⟩
  by_cases hj : j < ps.length
  · rw [List.getElem?_append_left hj] at hq
    obtain ⟨b, s1, s2, e1, e2, e3⟩ := x.2 j q hq
    exact ⟨b, s1, s2, by rw [List.getElem?_append_left (by rw [x.1]; exact hj)]; exact e1, e2, e3⟩
  · have hj' : j = ps.length := by
      have := (List.getElem?_eq_some_iff.mp hq).1
      rw [List.length_append, List.length_singleton] at this
      omega
    subst hj'
    rw [List.getElem?_append_right (Nat.le_refl _)] at hq
    simp only [Nat.sub_self, List.getElem?_cons_zero, Option.some.injEq] at hq
    subst hq
    exact ⟨a, t1, t2, by rw [List.getElem?_append_right (by rw [x.1]; exact Nat.le_refl _), x.1]; simp, hb, e⟩
theorem Tups.append {base : Nat} {h : Heap} {ys zs : List Value} {ps qs : List (Str × Str)} (x : Tups base h ys ps) (y : Tups base h zs qs) : Tups base h (ys ++ zs) (ps ++ qs) := by
  refine ⟨by rw [List.length_append, List.length_append, x.1, y.1], fun j q hq => ?_⟩
  by_cases hj : j < ps.length
  · rw [List.getElem?_append_left hj] at hq
    obtain ⟨b, s1, s2, e1, e2, e3⟩ := x.2 j q hq
    exact ⟨b, s1, s2, by rw [List.getElem?_append_left (by rw [x.1]; exact hj)]; exact e1, e2, e3⟩
  · rw [List.getElem?_append_right (by omega)] at hq
    obtain ⟨b, s1, s2, e1, e2, e3⟩ := y.2 _ q hq
    exact ⟨b, s1, s2, by rw [List.getElem?_append_right (by rw [x.1]; omega), x.1]; exact e1, e2, e3⟩
def tupL (h : Heap) (ys : List Value) : List (Addr × Obj) := ys.filterMap fun v => match v with | .ref a => (h.get? a).map fun o => (a, o) | _ => none
theorem tupL_mem {h : Heap} {ys : List Value} {p : Addr × Obj} : p ∈ tupL h ys ↔ Value.ref p.1 ∈ ys ∧ h.get? p.1 = some p.2 := by
  unfold tupL
  rw [List.mem_filterMap]
  constructor
  · rintro ⟨v, hv, e⟩
    cases v <;> try (cases e; done)
    rename_i a
    dsimp only at e
    cases hh : h.get? a with
    | none => rw [hh] at e; cases e
    | some o =>
      rw [hh] at e
      cases e
      exact ⟨hv, hh⟩
  · rintro ⟨hm, e⟩
    refine ⟨_, hm, ?_⟩
    dsimp only
    rw [e]
    rfl
/-- a list of pairs joins the ledger -/
theorem Tups.ledger {base : Nat} {h : Heap} {ys : List Value} {ps : List (Str × Str)} (x : Tups base h ys ps) (F : Fr g L h m) (N : News g L h news) (hb : L < base) :
    ∃ tl, News g L h (news ++ tl) ∧ (∀ p ∈ tl, base < p.1) ∧ ∀ (j : Nat) (p : Str × Str), ps[j]? = some p → ∃ (a : Addr) (t1 t2 : Tok), ys[j]? = some (Value.ref a) ∧ (a, pairObj p t1 t2) ∈ tl := by
  have big : ∀ p ∈ tupL h ys, base < p.1 := fun p hp => by
    have hp := tupL_mem.mp hp
    obtain ⟨j, hj, e⟩ := List.getElem_of_mem hp.1
    have hj' : j < ps.length := by rw [← x.1]; exact hj
    obtain ⟨a, t1, t2, e1, e2, e3⟩ := x.2 j ps[j] (List.getElem?_eq_getElem hj')
    rw [List.getElem?_eq_getElem hj, e] at e1
    cases e1
    exact e2
  refine ⟨tupL h ys, fun p hp => ?_, big, fun j p e => ?_⟩
  · rcases List.mem_append.mp hp with hp | hp
    · exact N p hp
    · have h1 := big p hp
      have h2 := tupL_mem.mp hp
      refine ⟨h2.2, Nat.ne_of_gt (Nat.lt_trans hb h1), ?_⟩
      cases hg : g.get? p.1 with
      | none => rfl
      | some o => exact absurd (Nat.lt_trans (Nat.lt_of_lt_of_le (Heap.lt_size hg) F.above) (Nat.lt_trans hb h1)) (Nat.lt_irrefl _)
  · obtain ⟨a, t1, t2, e1, e2, e3⟩ := x.2 j p e
    exact ⟨a, t1, t2, e1, tupL_mem.mpr ⟨List.mem_of_getElem? e1, e3⟩⟩
theorem newTup {M : Model} {vs : List Value} {Q : Value → Shared → Prop} (F : Fr g L s.heap m) (N : News g L s.heap news)
    (h : ∀ D h', Fr g L h' m → News g L h' ((D, ({ cls := .type "tuple", data := .seq vs.toArray } : Obj)) :: news) → (∀ p ∈ news, p.1 < D) → L < D → Q (.ref D) { heap := h', gens := s.gens, drawn := s.drawn, toks := s.toks, os := s.os }) (hz : vs.length ≤ sizeLine) : wpAny M A (newTuple vs) Q E s :=
  newTuple_N F N (fun h' F' N' => h _ h' F' N' (fun p hp => Heap.lt_size (N p hp).1) F.ns.lt) hz
end
end Mine
namespace Mine
open PySem PySem.W PyProof.Rows
set_option maxHeartbeats 4000000

/-! ### the four writings are prefix codes -/
def PC (f : Nat → List Nat) : Prop := ∀ c d (a b : List Nat), f c ++ a = f d ++ b → c = d
theorem flat_prefix {f : Nat → List Nat} (hf : PC f) (hne : ∀ c, f c ≠ []) : ∀ x y : List Nat, x.flatMap f <+: y.flatMap f ↔ x <+: y
  | [], y => ⟨fun _ => List.nil_prefix, fun _ => List.nil_prefix⟩
  | c :: r, [] => ⟨fun h => by
      have := List.prefix_nil.mp h
      rw [List.flatMap_cons] at this
      exact absurd (List.append_eq_nil_iff.mp this).1 (hne c), fun h => by cases List.prefix_nil.mp h⟩
  | c :: r, d :: r' => by
    have ih := flat_prefix hf hne r r'
    constructor
    · rintro ⟨t, h⟩
      rw [List.flatMap_cons, List.flatMap_cons, List.append_assoc] at h
      have e := hf _ _ _ _ h
      subst e
      have h := List.append_cancel_left h
      exact (List.cons_prefix_cons).mpr ⟨rfl, ih.mp ⟨t, h⟩⟩
    · intro h
      have h := List.cons_prefix_cons.mp h
      obtain ⟨rfl, h'⟩ := h
      obtain ⟨t, h⟩ := ih.mpr h'
      exact ⟨t, by rw [List.flatMap_cons, List.flatMap_cons, List.append_assoc, h]⟩
def dec (u : Bool) (s : Bool) (l : List Nat) : Nat :=
  if l.getD 0 0 = 92 then (if l.getD 1 0 = 65 then 10 else if l.getD 1 0 = 68 then 13 else if l.getD 1 0 = 67 then 12 else if u = true ∧ l.getD 1 0 = 57 then 9 else if s = true ∧ l.getD 1 0 = 51 then l.getD 2 0 else l.getD 1 0) else l.getD 0 0
theorem pc_dec {f : Nat → List Nat} (g : List Nat → Nat) (h : ∀ c a, g (f c ++ a) = c) : PC f := fun c d a b e => by
  rw [← h c a, e, h d b]
theorem nameW_pc : PC nameW := by
  refine pc_dec (dec false false) fun c a => ?_
  unfold nameW
  (repeat' split) <;> simp_all [isNm, dec] <;> first | (intro h; exfalso; omega) | ((repeat' split) <;> omega)
theorem strW_pc : PC strW := by
  refine pc_dec (dec false false) fun c a => ?_
  unfold strW
  (repeat' split) <;> simp_all [dec]
theorem urlW_pc : PC urlW := by
  refine pc_dec (dec true false) fun c a => ?_
  unfold urlW
  (repeat' split) <;> simp_all [dec]
theorem startW_pc : PC startW := by
  refine pc_dec (dec false true) fun c a => ?_
  unfold startW
  (repeat' split) <;> simp_all [isSt, isDg, dec] <;> first | (intro h; exfalso; omega) | ((repeat' split) <;> omega)
theorem nameW_ne (c : Nat) : nameW c ≠ [] := by unfold nameW; (repeat' split) <;> simp
theorem strW_ne (c : Nat) : strW c ≠ [] := by unfold strW; (repeat' split) <;> simp
theorem urlW_ne (c : Nat) : urlW c ≠ [] := by unfold urlW; (repeat' split) <;> simp
theorem startW_ne (c : Nat) : startW c ≠ [] := by unfold startW; (repeat' split) <;> simp

/-- the first signs of an identifier other than - by itself -/
def topW (c : Nat) : List Nat := if c = 45 then [45] else startW c
theorem startW_45 (c : Nat) (r : List Nat) : startW c ≠ 45 :: r := by unfold startW; (repeat' split) <;> simp_all [isSt] <;> omega
theorem topW_pc : PC topW := by
  intro c d a b h
  unfold topW at h
  split at h <;> split at h
  · simp_all
  · rename_i h1 h2
    cases hs : startW d with
    | nil => exact absurd hs (startW_ne d)
    | cons x r =>
      rw [hs] at h
      simp at h
      exact absurd (hs.trans (by rw [← h.1])) (startW_45 d r)
  · rename_i h1 h2
    cases hs : startW c with
    | nil => exact absurd hs (startW_ne c)
    | cons x r =>
      rw [hs] at h
      simp at h
      exact absurd (hs.trans (by rw [h.1])) (startW_45 c r)
  · exact startW_pc _ _ _ _ h
theorem topW_ne (c : Nat) : topW c ≠ [] := by
  unfold topW
  split
  · simp
  · exact startW_ne c
def tailT : List Nat → List Nat
  | [] => []
  | d :: r => topW d ++ r.flatMap nameW
def identT : List Nat → List Nat
  | [] => []
  | c :: r => topW c ++ (if c = 45 then tailT r else r.flatMap nameW)
theorem identL_T : ∀ l : List Nat, l ≠ [45] → identL l = identT l
  | [], _ => rfl
  | [c], h => by
    have hc : c ≠ 45 := fun e => h (by rw [e])
    simp [identL, identT, topW, hc]
  | c :: d :: r, _ => by
    by_cases hc : c = 45
    · by_cases hd : d = 45
      · simp [identL, identT, topW, tailT, hc, hd]
      · simp [identL, identT, topW, tailT, hc, hd]
    · simp [identL, identT, topW, hc]
theorem tailT_prefix : ∀ x y : List Nat, tailT x <+: tailT y ↔ x <+: y
  | [], y => ⟨fun _ => List.nil_prefix, fun _ => List.nil_prefix⟩
  | c :: r, [] => ⟨fun h => by
      have := List.prefix_nil.mp h
      exact absurd (List.append_eq_nil_iff.mp this).1 (topW_ne c), fun h => by cases List.prefix_nil.mp h⟩
  | c :: r, d :: r' => by
    constructor
    · rintro ⟨t, h⟩
      unfold tailT at h
      rw [List.append_assoc] at h
      have e := topW_pc _ _ _ _ h
      subst e
      exact List.cons_prefix_cons.mpr ⟨rfl, (flat_prefix nameW_pc nameW_ne r r').mp ⟨t, List.append_cancel_left h⟩⟩
    · intro h
      obtain ⟨rfl, h'⟩ := List.cons_prefix_cons.mp h
      obtain ⟨t, h⟩ := (flat_prefix nameW_pc nameW_ne r r').mpr h'
      exact ⟨t, by unfold tailT; rw [List.append_assoc, h]⟩
theorem identT_prefix : ∀ x y : List Nat, identT x <+: identT y ↔ x <+: y
  | [], y => ⟨fun _ => List.nil_prefix, fun _ => List.nil_prefix⟩
  | c :: r, [] => ⟨fun h => by
      have := List.prefix_nil.mp h
      exact absurd (List.append_eq_nil_iff.mp this).1 (topW_ne c), fun h => by cases List.prefix_nil.mp h⟩
  | c :: r, d :: r' => by
    have key : ∀ u v : List Nat, (if c = 45 then tailT u else u.flatMap nameW) <+: (if c = 45 then tailT v else v.flatMap nameW) ↔ u <+: v := by
      intro u v
      split
      · exact tailT_prefix u v
      · exact flat_prefix nameW_pc nameW_ne u v
    constructor
    · rintro ⟨t, h⟩
      unfold identT at h
      rw [List.append_assoc] at h
      have e := topW_pc _ _ _ _ h
      subst e
      exact List.cons_prefix_cons.mpr ⟨rfl, (key r r').mp ⟨t, List.append_cancel_left h⟩⟩
    · intro h
      obtain ⟨rfl, h'⟩ := List.cons_prefix_cons.mp h
      obtain ⟨t, h⟩ := (key r r').mpr h'
      exact ⟨t, by unfold identT; rw [List.append_assoc, h]⟩
theorem startW_dash : startW 45 = [92, 45] := by decide
theorem identL_dash1 : identL [45] = [92, 45] := by decide
theorem identL_prefix (x y : List Nat) (hx : x ≠ []) (hy : y ≠ []) : identL x <+: identL y ↔ x <+: y ∧ ¬(x = [45] ∧ y ≠ [45]) := by
  by_cases h1 : x = [45]
  · by_cases h2 : y = [45]
    · subst h1 h2; simp
    · have : ¬ identL x <+: identL y := by
        rw [h1, identL_dash1, identL_T y h2]
        obtain ⟨c, r, rfl⟩ := List.exists_cons_of_ne_nil hy
        rintro ⟨t, h⟩
        simp only [identT, topW] at h
        by_cases hc : c = 45
        · rw [if_pos hc] at h
          simp at h
        · rw [if_neg hc, ← startW_dash] at h
          exact hc (startW_pc _ _ _ _ h).symm
      exact ⟨fun e => absurd e this, fun e => absurd ⟨h1, h2⟩ e.2⟩
  · by_cases h2 : y = [45]
    · have : ¬ identL x <+: identL y := by
        rw [h2, identL_dash1, identL_T x h1]
        obtain ⟨c, r, rfl⟩ := List.exists_cons_of_ne_nil hx
        rintro ⟨t, h⟩
        simp only [identT, topW] at h
        by_cases hc : c = 45
        · rw [if_pos hc] at h
          simp at h
        · rw [if_neg hc, ← startW_dash, List.append_assoc, ← List.append_nil (startW 45)] at h
          exact hc (startW_pc _ _ _ _ h)
      have h3 : ¬ x <+: [45] := by
        rintro ⟨t, h⟩
        obtain ⟨c, r, rfl⟩ := List.exists_cons_of_ne_nil hx
        simp at h
        obtain ⟨rfl, h, _⟩ := h
        subst h
        exact h1 rfl
      exact ⟨fun e => absurd e this, fun e => absurd (h2 ▸ e.1) h3⟩
    · rw [identL_T x h1, identL_T y h2, identT_prefix]
      simp [h1]
theorem writeL_prefix (k : Int) (hk : 0 ≤ k ∧ k ≤ 3) (x y : List Nat) (hx : k = 3 → x ≠ []) (hy : k = 3 → y ≠ []) : writeL k x <+: writeL k y ↔ x <+: y ∧ ¬(k = 3 ∧ x = [45] ∧ y ≠ [45]) := by
  have key : k = 0 ∨ k = 1 ∨ k = 2 ∨ k = 3 := by omega
  rcases key with rfl | rfl | rfl | rfl
  · simpa [writeL] using flat_prefix nameW_pc nameW_ne x y
  · simpa [writeL] using flat_prefix strW_pc strW_ne x y
  · simpa [writeL] using flat_prefix urlW_pc urlW_ne x y
  · simpa [writeL] using identL_prefix x y (hx rfl) (hy rfl)
theorem take_iff (x y : List Nat) : y.take x.length = x ↔ x <+: y := by rw [List.prefix_iff_eq_take]; exact eq_comm

/-! ### the family -/
def famA (l os : List Nat) : List (List Nat) := (List.range l.length).map (fun j => l.take (j + 1)) ++ (List.range l.length).map (fun j => l.take j ++ [os.getD j 0])
def family (k : Int) (l os : List Nat) : List (List Nat) := famA l os ++ [writeL k l] ++ (if k < 3 then [[]] else [])
theorem fam_lt {k : Int} (l os : List Nat) (h : k < 3) : family k l os = famA l os ++ [writeL k l] ++ [[]] := by unfold family; rw [if_pos h]
theorem fam_ge {k : Int} (l os : List Nat) (h : ¬ k < 3) : family k l os = famA l os ++ [writeL k l] := by unfold family; rw [if_neg h, List.append_nil]
theorem identL_len : ∀ l : List Nat, (identL l).length ≤ 3 * l.length + 2
  | [] => by simp [identL]
  | [c] => by
    have := startW_len c
    by_cases hc : c = 45
    · subst hc; decide
    · simp only [identL, if_neg hc, List.length_singleton]; omega
  | c :: d :: r => by
    have h1 := startW_len c
    have h2 := startW_len d
    have h3 := flat_len nameW_len r
    have h4 := flat_len nameW_len (d :: r)
    by_cases hc : c = 45
    · by_cases hd : d = 45
      · simp only [identL, if_pos hc, if_pos hd, List.length_cons] at *; omega
      · simp only [identL, if_pos hc, if_neg hd, List.length_cons, List.length_append] at *; omega
    · simp only [identL, if_neg hc, List.length_cons, List.length_append] at *; omega
theorem writeL_len (k : Int) (l : List Nat) : (writeL k l).length ≤ 3 * l.length + 2 := by
  unfold writeL
  have h1 := flat_len nameW_len l
  have h2 := flat_len strW_len l
  have h3 := flat_len urlW_len l
  have h4 := identL_len l
  (repeat' split) <;> omega
theorem famA_len {l os x : List Nat} (h : x ∈ famA l os) : x.length ≤ l.length := by
  unfold famA at h
  simp only [List.mem_append, List.mem_map, List.mem_range] at h
  rcases h with ⟨j, hj, rfl⟩ | ⟨j, hj, rfl⟩
  · rw [List.length_take]; omega
  · rw [List.length_append, List.length_take, List.length_singleton]; omega
theorem fam_len {k : Int} {l os x : List Nat} (hl : l.length ≤ 4) (h : x ∈ family k l os) : x.length ≤ 14 := by
  unfold family at h
  have hw := writeL_len k l
  simp only [List.mem_append, List.mem_singleton] at h
  rcases h with (h | rfl) | h
  · have := famA_len h; omega
  · omega
  · split at h
    · rw [List.mem_singleton.mp h]; simp
    · cases h
theorem identL_ne {l : List Nat} (h : l ≠ []) : identL l ≠ [] := by
  by_cases h1 : l = [45]
  · rw [h1]; decide
  · rw [identL_T l h1]
    obtain ⟨c, r, rfl⟩ := List.exists_cons_of_ne_nil h
    unfold identT
    simp [topW_ne]
theorem fam_ne {k : Int} {l os x : List Nat} (h1 : 1 ≤ l.length) (hk : k = 3) (h : x ∈ family k l os) : x ≠ [] := by
  subst hk
  unfold family famA at h
  have hl : l ≠ [] := by rintro rfl; simp at h1
  simp only [List.mem_append, List.mem_singleton, List.mem_map, List.mem_range] at h
  rcases h with ((⟨j, hj, rfl⟩ | ⟨j, hj, rfl⟩) | rfl) | h
  · simp [hl]
  · simp
  · simpa [writeL] using identL_ne hl
  · simp at h
theorem fam_size (k : Int) (l os : List Nat) : (family k l os).length ≤ 2 * l.length + 2 := by
  unfold family famA
  split <;> simp <;> omega

/-- a member of a list of texts -/
theorem strs_at {its : List Value} {xs : List (List Nat)} (h : StrsAre its (xs.map mkS)) {i : Nat} {v : Value} (e : its.toArray[i]? = some v) : ∃ x y t, xs[i]? = some x ∧ y = mkS x ∧ v = .str y t := by
  have hi : i < xs.length := by
    have h1 := StrsAre.length h
    have h2 := (Array.getElem?_eq_some_iff.mp e).1
    simp at h1 h2
    omega
  obtain ⟨t, ht⟩ := h.get i (mkS xs[i]) (by simp [hi])
  rw [List.getElem?_toArray, ht] at e
  exact ⟨xs[i], _, t, by simp [hi], rfl, (Option.some.inj e).symm⟩
theorem fronts_law (k : Int) (hk : 0 ≤ k ∧ k ≤ 3) (x z : List Nat) (hx : k = 3 → x ≠ []) (hz : k = 3 → z ≠ []) {y1 y2 z1 z2 : Str} (hy1 : y1 = mkS x) (hy2 : y2 = mkS (writeL k x)) (hz1 : z1 = mkS z) (hz2 : z2 = mkS (writeL k z)) :
    (Txt.slice z2 none (some (y2.length : Int)) == y2) = ((Txt.slice z1 none (some (y1.length : Int)) == y1) && !(decide (k = 3) && (y1 == Str.ofString "-") && (z1 != Str.ofString "-"))) := by
  subst hy1 hy2 hz1 hz2
  rw [mkS_length, mkS_length, slice_to, slice_to, mkS_beq, mkS_beq, lit_hy', mkS_beq, bne, mkS_beq, Bool.eq_iff_iff]
  have := writeL_prefix k hk x z hx hz
  simp only [decide_eq_true_eq, Bool.and_eq_true, Bool.not_eq_true', Bool.and_eq_false_imp, decide_eq_false_iff_not, Bool.not_eq_false', take_iff, this]
  constructor
  · rintro ⟨h1, h2⟩
    refine ⟨h1, fun h3 => ?_⟩
    exact Decidable.byContradiction fun h4 => h2 ⟨h3.1, h3.2, h4⟩
  · rintro ⟨h1, h2⟩
    refine ⟨h1, fun h3 => ?_⟩
    have := h2 ⟨h3.1, h3.2.1⟩
    exact h3.2.2 this
end Mine
namespace Mine
open PySem PySem.W PyProof.Rows
set_option maxHeartbeats 4000000

section
variable {M : Model} {A : Around} {E : Value → Shared → Prop} {s : Shared} {env : Env} {g : Heap} {L : Addr} {news : List (Addr × Obj)} {x : Str} {pos : Pos} {v : Value} {Q : Value → Shared → Prop} {c : Addr} {o : Obj}
theorem nameE_F (N : News g L s.heap news) (hc : env.cells.lookup x = some c) (hm : (c, o) ∈ news) (hd : o.data = .cell (some v)) (h : Q v s) (hk : env.scope.kind = .function) (hx : env.kindOf x = some .free)
    (hb : (x == ("__debug__" : Str)) = false) (hn : (x == ("__classdict__" : Str)) = false) : wpAny M A (eval (.Name x pos) env) Q E s := wpAny_Name (wpAny_loadName_free hk hx hc ⟨o, N.get hm, hd⟩ h hn) hb
theorem nameE_C (N : News g L s.heap news) (hc : env.cells.lookup x = some c) (hm : (c, o) ∈ news) (hd : o.data = .cell (some v)) (h : Q v s) (hk : env.scope.kind = .function) (hx : env.kindOf x = some .cell)
    (hb : (x == ("__debug__" : Str)) = false) : wpAny M A (eval (.Name x pos) env) Q E s := wpAny_Name (wpAny_loadName_cell hk hx hc ⟨o, N.get hm, hd⟩ h) hb
end

theorem small01 (n : Nat) (h : n ≤ 100000) : Builtin.Range.small 0 (n : Int) 1 = true := by
  exact small_one (by decide) (by decide) (by omega) (by omega)
theorem rsize01 (n : Nat) : Builtin.Range.rangeSize 0 (n : Int) 1 = (n : Int) := by
  rw [rangeSize_one]; split <;> omega

section
open PySem.Calls PySem.F
theorem iconcat_list {prog : Program} {w : World} {A : Around} {E : Value → Shared → Prop} {s : Shared} {l b : Addr} {items items2 : Array Value} {n n2 : Nat} {Q : Value → Shared → Prop}
    (hl : s.heap.get? l = some { cls := .type "list", data := .seq items n }) (hb : s.heap.get? b = some { cls := .type "list", data := .seq items2 n2 })
    (hsz : items.size + items2.size ≤ 1000)
    (h : Q (.ref l) { s with heap := s.heap.update l (Obj.mapSeq fun x => x ++ items2) }) : wpAny (model prog w) A (inplaceOp .Add (.ref l) (.ref b)) Q E s := by
  unfold inplaceOp
  refine wpAny_holding ?_
  have hT : s.TypeIs (.ref l) "list" := ⟨_, hl, rfl⟩
  have hU : s.TypeIs (.ref b) "list" := ⟨_, hb, rfl⟩
  have hsi : seqSlot? (.type "list") (dunderI "add") = pure (some (.builtin "list.__iadd__")) := _root_.PySem.seqSlot_of PySem.F.slot_list_iadd.lookup (by decide +kernel)
  have hfi : fillsInplaceSlot (.type "list") "add" (Operator.Add == .Add) = pure false := by
    unfold fillsInplaceSlot
    show (typeLookup (.type "list") (dunderI "add") >>= fun fi => pure (fi.isSome && !isSeqSlot fi)) = pure false
    rw [PySem.F.slot_list_iadd.lookup]
    show (pure ((some (Value.builtin "list.__iadd__")).isSome && !isSeqSlot (some (Value.builtin "list.__iadd__"))) : Sem Bool) = pure false
    have e : isSeqSlot (some (Value.builtin "list.__iadd__")) = true := by decide +kernel
    rw [e]; rfl
  refine wpAny_bind (wpAny_typeOf hT (wpAny_bind (wpAny_of_eq hfi ?_)))
  show wpAny _ A (if false = true then _ else _) Q E s
  rw [if_neg Bool.false_ne_true]
  refine wpAny_bind (wpAny_binaryOp1_none (nm := "add") hT hU PySem.noFill_list_add ?_)
  refine wpAny_bind (wpAny_of_eq hsi ?_)
  refine wpAny_bind (wpAny_rule ?_)
  have hlong : Builtin.List.listTooLong (items.size + items2.size) = false := by
    unfold Builtin.List.listTooLong
    simp only [decide_eq_false_iff_not]
    rw [Nat.not_lt]
    exact Nat.le_trans hsz (by decide)
  exact (call_meets PySem.F.slot_list_iadd hT PySem.F.entry_list_iadd (PySem.F.args_list_iadd_2 _ _) (PySem.AutoSeq1.list___iadd___list_list_0 l items n b items2 n2 (by rw [hlong]; simp) (Nat.le_trans (Nat.le_trans (Nat.le_add_right _ _) hsz) (by decide)) (Nat.le_trans hsz (by decide))) ⟨hl, hb, h⟩)
end
theorem iadd_K {prog : Program} {w : World} {A : Around} {E : Value → Shared → Prop} {s : Shared} {h₀ : Heap} {L D b : Addr} {m : Str → Option Value} {news news' : List (Addr × Obj)} {a b' : List Value} {n n2 : Nat} {Q : Value → Shared → Prop}
    (F : Fr h₀ L s.heap m) (N : News h₀ L s.heap news) (hb : (b, listOf b'.toArray n2) ∈ news) (U : Upd D (listOf a.toArray n) (listOf (a ++ b').toArray (n + 1)) news news') (hne : b'.length ≠ 0) (hsz : a.length + b'.length ≤ 1000)
    (h : ∀ h', Fr h₀ L h' m → News h₀ L h' news' → Q (.ref D) { heap := h', gens := s.gens, drawn := s.drawn, toks := s.toks, os := s.os }) : wpAny (model prog w) A (inplaceOp .Add (.ref D) (.ref b)) Q E s := by
  obtain ⟨pre, post, rfl, rfl, x, y⟩ := U.split
  have z := N (D, listOf a.toArray n) (List.mem_append.mpr (.inr (.head _)))
  refine iconcat_list z.1 (N _ hb).1 (by simpa using hsz) (h _ (F.change (Heap.SameBut.update ..) z.2.1 z.2.2) (kl_turn _ N x y ?_ ?_))
  · simp
  · simp
    rintro rfl
    exact hne rfl
theorem my_item {prog : Program} {w : World} {A : Around} {E : Value → Shared → Prop} {s : Shared} {value slice : Expr} {l : Addr} {vs : List Value} {k : Int} {u : Tok} {v : Value} {Q : Value → Shared → Prop}
    (hl : s.heap.IsList l vs.toArray) (h0 : 0 ≤ k) (hhi : k < 2 ^ 63) (hx : vs[k.toNat]? = some v) (h : Q v s)
    (hs : PySem.subscripted slice false (.ref l) (.int k u) = operate [.ref l, .int k u] (getItem (.ref l) (.int k u))) :
    wpAny (model prog w) A (subscriptTail value slice (.ref l) (.int k u)) Q E s :=
  tail_any hl.typeIs PySem.slot_list_getitem.lookup (wpAny_getItem_list hl h0 hhi (by simpa using hx) h) hs
theorem islist_kp {w : World} {mg mb : Str → Option Value} {bm : Addr} {ob : Obj} {h h' : Heap} {l : Addr} {its : Array Value} (I : Inv w mg mb bm ob h) (k : Kp h h') (x : h.IsList l its) : h'.IsList l its :=
  x.at fun o e => by
    obtain ⟨o', e', hc, _⟩ := x
    rw [e'] at e
    have n := I.ne_tab e' (by rw [hc]; nofun)
    exact k l o n.1 n.2.1 n.2.2 (e'.trans e)
theorem fam_of {h : Heap} {its : List Value} {D : Addr} {xs : List Str} (x : h.IsList D its.toArray) (e : StrsAre its xs) : ∃ its : List Value, h.IsList D its.toArray ∧ StrsAre its xs := ⟨_, x, e⟩
theorem keep_rest {g g' u h' : Heap} {C : Addr} {news : List (Addr × Obj)} (hs : ∀ p ∈ rest g u C, p ∈ news) (N : News g' C h' news) (hg : g.objs.size ≤ C) (b : Addr) (o : Obj) (hb : C < b) (e : u.get? b = some o) : h'.get? b = some o := by
  refine (N (b, o) (hs _ (mem_rest.mpr ⟨e, Nat.ne_of_gt hb, ?_⟩))).1
  cases hq : g.get? b with
  | none => rfl
  | some o' => exact absurd (Nat.lt_of_lt_of_le (Heap.lt_size hq) (Nat.le_trans hg (Nat.le_of_lt hb))) (Nat.lt_irrefl _)
theorem news_eq {g h : Heap} {L : Addr} {news : List (Addr × Obj)} (_ : News g L h news) : ∃ NW, NW = news := ⟨_, rfl⟩
theorem tup_at {tl : List (Addr × Obj)} {ys : List Value} {f : List Nat → Str × Str} {xs : List (List Nat)} (hl : ys.length = xs.length)
    (hm : ∀ (j : Nat) (p : Str × Str), (xs.map f)[j]? = some p → ∃ (a : Addr) (t1 t2 : Tok), ys[j]? = some (Value.ref a) ∧ (a, pairObj p t1 t2) ∈ tl) {i : Nat} {v : Value} (e : ys.toArray[i]? = some v) :
    ∃ (x : List Nat) (y1 y2 : Str) (a : Addr) (t1 t2 : Tok), x ∈ xs ∧ y1 = (f x).1 ∧ y2 = (f x).2 ∧ v = .ref a ∧ (a, pairObj (y1, y2) t1 t2) ∈ tl := by
  have hi : i < xs.length := by
    have h2 := (Array.getElem?_eq_some_iff.mp e).1
    simp at h2
    omega
  obtain ⟨a, t1, t2, e1, e2⟩ := hm i (f xs[i]) (by simp [hi])
  rw [List.getElem?_toArray, e1] at e
  exact ⟨xs[i], _, _, a, t1, t2, List.getElem_mem hi, rfl, rfl, (Option.some.inj e).symm, e2⟩
theorem strs_next {ys : List Value} {n : Nat} {y : Str} {t : Tok} (f : Nat → Str) (h : StrsAre ys ((List.range n).map f)) (e : y = f n) : StrsAre (ys ++ [.str y t]) ((List.range (n + 1)).map f) := by
  subst e
  rw [List.range_succ, List.map_append]
  exact KStt.strs_snoc h

section
local macro_rules | `(tactic| walk_at "exec Assign cons ListComp") => `(tactic| (k_here; k_dflt (refine' LC_assign ?hsw ?hclos ?hkind ?hnames ?hs ?_; (case hclos => with_unfolding_all rfl); (case hsw => with_unfolding_all rfl); (case hkind => rfl); (case hnames => decide); (case hs => intro _; with_unfolding_all rfl))))
local macro_rules | `(tactic| walk_at "eval ListComp") => `(tactic| (k_here; k_dflt (refine' LC_eval ?hclos ?hkind ?hnames ?hs ?_; (case hclos => with_unfolding_all rfl); (case hkind => rfl); (case hnames => decide); (case hs => intro _; with_unfolding_all rfl))))
local macro_rules | `(tactic| walk_at "pyIter ref") => `(tactic| ((with_reducible show wpAny _ _ (pyIter _) (fun it s₂ => LCPost _ _ _ _ _ _ _ _ _ _ _ _ _ _ it s₂) _ _); fail "mine"))
local macro_rules | `(tactic| walk_at "eval Name") => `(tactic| (k_here; k_dflt (first
  | (refine' nameE_L ?F ?L ?v ?_ ?a ?b ?d; (case F => assumption); (case L => rfl); (case a => rfl); (case b => rfl); (case d => decide); (case v => first | assumption | rfl); k_whole)
  | (refine' nameE_F ?N ?c ?m ?dd ?_ ?a ?b ?d ?e; (case a => rfl); (case b => rfl); (case c => rfl); (case d => decide); (case e => decide); (case N => assumption); (case m => k_mem); (case dd => first | assumption | k_asm); k_whole)
  | (refine' nameE_C ?N ?c ?m ?dd ?_ ?a ?b ?d; (case a => rfl); (case b => rfl); (case c => rfl); (case d => decide); (case N => assumption); (case m => k_mem); (case dd => first | assumption | k_asm); k_whole)
  | (refine' nameE_K ?F ?X ?T ?G ?e ?_ ?a ?b ?d; (case F => assumption); (case X => assumption); (case T => assumption); (case G => rfl); (case a => rfl); (case b => rfl); (case d => decide); (case e => k_is); k_whole)
  | (refine' nameE_B ?F ?X ?T ?G ?B ?e ?v ?n ?_ ?a ?b ?d; (case F => assumption); (case X => assumption); (case T => assumption); (case G => rfl); (case B => rfl); (case a => rfl); (case b => rfl); (case d => decide); (case e => k_is); (case v => boot_fast); (case n => decide); k_whole))))
local macro_rules | `(tactic| walk_at "newTuple") => `(tactic| (k_here; k_dflt (refine' newTup ?F ?N ?_ ?z; (case F => k_asm); (case N => k_asm); (case z => kmk_size)); intro D' h' F' N' l1 lL; (try k_lt l1); (try k_sweep)))
local macro_rules | `(tactic| walk_at "assign Tuple") => `(tactic| (k_here; k_dflt (refine' unpackN_ ?F ?N ?T ?k1 ?k2 ?k3 ?_; (case F => k_asm); (case N => k_asm); (case T => with_reducible assumption); (case k1 => assumption); (case k2 => exact rfl); (case k3 => exact rfl)); intro h' F' N'; (try k_sweep)))
local macro_rules | `(tactic| walk_at "exec For") => `(tactic| (k_here; k_dflt (refine' For_run ?hs ?_; (case hs => intro _; with_unfolding_all rfl))))
local macro_rules | `(tactic| walk_at "exec For Name Call cons nil") => `(tactic| (k_here; k_dflt (refine' For_run ?hs ?_; (case hs => intro _; with_unfolding_all rfl))))
local macro_rules | `(tactic| walk_at "exec For Tuple Name cons nil") => `(tactic| (k_here; k_dflt (refine' For_run ?hs ?_; (case hs => intro _; with_unfolding_all rfl))))
local macro_rules | `(tactic| walk_at "pyIter ref") => `(tactic| ((with_reducible show wpAny _ _ (pyIter _) (fun it s₂ => ForPost _ _ _ _ _ _ _ it s₂) _ _); fail "mine"))
theorem keeps_fn {w : World} {mg mb : Str → Option Value} {bm : Addr} {ob : Obj} (k : Int) (tkk : Tok) (v : Str) (t : Tok) (l : List Nat) (lo : Addr) (vs : List Value) (os : List Nat) (hk : 0 ≤ k ∧ k ≤ 3) (hv : v = mkS l) (h1 : 1 ≤ l.length) (hl : l.length ≤ 4) (hos : os.length = l.length) (hvs : StrsAre vs (os.map fun c => ⟨#[c]⟩)) :
    Fn w mg mb bm ob 80 62 [.int k tkk, .str v t, .ref lo] (fun h => h.IsList lo vs.toArray) (fun t => .bool true) := by
  intro A s Q E hA hD hU I G hp hR
  have X := I.K
  have T := I.T
  have KE := Kp.refl s.heap
  have I₀ := I
  have hvl : v.length ≤ 4 := by rw [hv, len_mkS]; exact hl
  have hvl1 : 1 ≤ v.length := by rw [hv, len_mkS]; exact h1
  have hfill9 : PySem.Challenge.rw_qv0001_01.prog = PySem.Challenge.rw_qv0001_01.prog ∧ (∀ P, _root_.Mine.hd.heap_39 P = _root_.Mine.hd.heap_39 P) := by
    k_fill
    exact ⟨rfl, fun _ => rfl⟩
  clear hfill9
  k_dflt (refine' enterC (args := ⟨[.int k tkk, .str v t, .ref lo], []⟩) (binds := [(Str.ofString "kind", .int k tkk), (Str.ofString "value", .str v t), (Str.ofString "others", .ref lo)]) X T.nolimit ?ho ?hcd ?hroom ?hbind ?hkind ?hnd ?_ ?hco ?hgen ?hk; (case ho => k_is); (case hcd => k_is); (case hroom => (simp only [recursionLimit]; omega)); (case hbind => rfl); (case hkind => rfl); (case hnd => decide +kernel); (case hco => rfl); (case hgen => rfl); (case hk => rfl))
  intro h₁ tk₁ cells₁ F N Y
  k_cells Y
  (try simp only [List.cons_append, List.nil_append] at N)
  (try dsimp only)
  (try k_unmd)
  k_fold
  rename_i oc1 oc2 oc3 dc1 dc2 dc3
  have dc1 : oc1.data = .cell (some (.ref lo)) := dc1
  have dc2 : oc2.data = .cell (some (.str v t)) := dc2
  have dc3 : oc3.data = .cell (some (.int k tkk)) := dc3
  k_steps
  -- the fronts
  rename IsRange _ _ _ _ _ _ _ _ => hr
  rename Fr _ _ _ _ => F
  rename News _ _ _ _ => N
  refine it_range hA I F N hr (small01 _ (by omega)) (rsize01 _) fun Ia h₂ K => ?_
  refine' LCstore K (Nat.le_trans hvl (by decide)) ?hcell ?hkind ?hx I KE G ?hL ?hy ?hp (fun i ys h => StrsAre ys ((List.range i).map fun j => mkS (l.take (j + 1)))) (fun _ => true) ?hJ0 ?hJ ?hend
  case hcell => decide
  case hkind => rfl
  case hx => rfl
  case hL => rfl
  case hy => rfl
  case hp => rfl
  case hJ0 => exact .nil
  case hJ =>
    refine ⟨fun _ _ _ _ h _ => h, fun i v u m₂ g' C E' _ _ _ _ _ _ _ => wpAny_pure ⟨rfl, _, rfl⟩, ?_, fun _ _ _ h => by cases h⟩
    clear F N K hr KE G X T hR
    intro i v' ys u m₂ g' C E' hi hP hpz hj F N I' KE' G' hm hLC hsz
    obtain ⟨ti, rfl⟩ := hP
    have X := I'.K
    have T := I'.T
    have KE := Kp.refl g'
    have F₀ : KA g' u.heap := F.keep
    have hab := F.above
    replace N := news_rest N
    clear KE'
    (try simp only [List.cons_append, List.nil_append] at N)
    (try clear_value qk ek)
    k_unmd
    k_fold
    k_steps
    refine' EltEnd.intro F₀ ?e1 ?e2 ?e3 ?e4 ?e5 ?e6 ?e7
    case e1 => assumption
    case e2 => assumption
    case e3 => (intro p hp; (repeat (first | exact hp | apply List.mem_cons_of_mem | apply List.mem_append_right)))
    case e4 => assumption
    case e5 => assumption
    case e6 => assumption
    case e7 =>
      exact strs_next (fun j => mkS (l.take (j + 1))) hj (by rw [hv, show (0 + (i : Int) * 1 + 1) = ((i + 1 : Nat) : Int) by omega, slice_to])
  case hend =>
  clear F N K hr KE G X T I
  intro D1 ys1 nn1 h' gs dr tk' g' I F N KE G lt1 hLD1 hys1 _ hj1
  have X := I.K
  have T := I.T
  try k_lt lt1
  k_unmd
  k_steps
  rename IsRange _ _ _ _ _ _ _ _ => hr
  rename Fr _ _ _ _ => F
  rename News _ _ _ _ => N
  refine it_range hA I F N hr (small01 _ (by omega)) (rsize01 _) fun Ia h₂ K => ?_
  refine' LCnone K (Nat.le_trans hvl (by decide)) ?hcell ?hkind ?hx I KE G (fun i ys h => StrsAre ys ((List.range i).map fun j => mkS (l.take j ++ [os.getD j 0]))) (fun _ => true) ?hJ0 ?hJ ?hend
  case hcell => decide
  case hkind => rfl
  case hx => rfl
  case hJ0 => exact .nil
  case hJ =>
    refine ⟨fun _ _ _ _ h _ => h, fun i v u m₂ g' C E' _ _ _ _ _ _ _ => wpAny_pure ⟨rfl, _, rfl⟩, ?_, fun _ _ _ h => by cases h⟩
    clear F N K hr KE G X T hR
    intro i v' ys u m₂ g' C E' hi hP hpz hj F N I' KE' G' hm hLC hsz
    (obtain ⟨ti, rfl⟩ := hP; have hlo := islist_kp I₀ KE' hp)
    have X := I'.K
    have T := I'.T
    have KE := Kp.refl g'
    have F₀ : KA g' u.heap := F.keep
    have hab := F.above
    replace N := news_rest N
    clear KE'
    (try simp only [List.cons_append, List.nil_append] at N)
    (try clear_value qk ek)
    k_unmd
    k_fold
    k_steps
    rename Fr _ _ _ _ => F9
    have hio : i < os.length := by rw [hos]; rw [hv, len_mkS] at hi; exact hi
    obtain ⟨to, hto⟩ := hvs.get i ⟨#[os.getD i 0]⟩ (by simp [List.getD_eq_getElem?_getD, hio])
    refine my_item (v := .str ⟨#[os.getD i 0]⟩ to) (hlo.at fun o e => F9.keep _ _ e) (by omega) (by omega) (by rw [show (0 + (i : Int) * 1).toNat = i by omega]; exact hto) ?_ (by with_unfolding_all rfl)
    k_steps
    refine' EltEnd.intro F₀ ?e1 ?e2 ?e3 ?e4 ?e5 ?e6 ?e7
    case e1 => assumption
    case e2 => assumption
    case e3 => (intro p hp; (repeat (first | exact hp | apply List.mem_cons_of_mem | apply List.mem_append_right)))
    case e4 => assumption
    case e5 => assumption
    case e6 => assumption
    case e7 =>
      exact strs_next (fun j => mkS (l.take j ++ [os.getD j 0])) hj (by rw [hv, show (0 + (i : Int) * 1) = ((i : Nat) : Int) by omega, slice_to, one_mkS, mkS_append])
  case hend =>
  clear F N K hr KE G X T I
  intro D2 ys2 nn2 h' gs dr tk' g' I F N KE G lt2 hLD2 hys2 _ hj2
  have X := I.K
  have T := I.T
  try k_lt lt2
  k_unmd
  k_steps
  refine' iadd_K (a := ys1) (b' := ys2) F N (by k_mem) ?U ?hne (by omega) ?_
  case U => k_upd
  case hne => exact Nat.ne_of_gt (by have := StrsAre.length hj2; simp at this; omega)
  clear F N
  intro h3 F N
  k_steps
  rename Fr _ _ _ _ => F
  rename News _ _ _ _ => N
  refine' Fn.use (write_fn k tkk v t l hk hv ?hw1 ?hw2) ?hA ?hd ?hu ?I ?F ?N ?KE ?G ?hp ?_
  case hA => assumption
  case hd => ((try simp only [depth_deeper, Around.in1_depth]); omega)
  case hu => ((try simp only [Around.deeper_units, Around.in1_units]); omega)
  case F => assumption
  case I => assumption
  case N => assumption
  case KE => assumption
  case G => assumption
  case hp => first | trivial | exact News.isList N (by k_mem)
  (case hw1 => (intro _; omega)); (case hw2 => omega)
  clear I F N KE G X T
  intro g' h' gs dr tk9 t9 I F N KE G kg
  have X := I.K
  have T := I.T
  (try dsimp only)
  (try k_unmd)
  have hS0 : StrsAre (ys1 ++ ys2) ((famA l os).map mkS) := by
    have e : v.length = l.length := by rw [hv, len_mkS]
    unfold famA
    rw [List.map_append, List.map_map, List.map_map]
    rw [e] at hj1 hj2
    exact hj1.append' hj2
  k_steps
  all_goals (rename Fr _ _ _ _ => F; rename News _ _ _ _ => N)
  all_goals (obtain ⟨its, hIL, hSA⟩ := fam_of (xs := (family k l os).map mkS) (News.isList N (a := D1) (by k_mem)) (by first
    | (rw [fam_lt l os (by assumption), List.map_append, List.map_append]; exact (hS0.append' (.cons _ _ .nil)).append' (.cons _ _ .nil))
    | (rw [fam_ge l os (by assumption), List.map_append]; exact (hS0.append' (.cons _ _ .nil)))))
  focus
    have hits : its.length = (family k l os).length := by have := StrsAre.length hSA; simpa using this
    have hfs := fam_size k l os
    refine it_list hA I F N hIL fun Ia h₂ K => ?_
    refine' LCstore K ?hsz ?hcell ?hkind ?hx I KE G ?hL ?hy ?hp (fun i ys h => Tups (h₂.objs.size + 1) h ys (((family k l os).take i).map fun x => (mkS x, mkS (writeL k x)))) (fun _ => true) ?hJ0 ?hJ ?hend
    case hsz => exact Nat.le_trans (m := 10) (by rw [List.size_toArray]; omega) (by decide)
    case hcell => decide
    case hkind => rfl
    case hx => rfl
    case hL => rfl
    case hy => rfl
    case hp => rfl
    case hJ0 => exact .nil
    case hJ =>
      refine ⟨fun _ _ _ _ hj hk => hj.at hk, fun i v u m₂ g' C E' _ _ _ _ _ _ _ => wpAny_pure ⟨rfl, _, rfl⟩, ?_, fun _ _ _ h => by cases h⟩
      clear F N K KE G X T hR
      intro i v' ys u m₂ g' C E' hi hP hpz hj F N I' KE' G' hm hLC hsz
      obtain ⟨x, y, ti, hx, hy, rfl⟩ := strs_at hSA hP
      have X := I'.K
      have T := I'.T
      have KE := Kp.refl g'
      have F₀ : KA g' u.heap := F.keep
      have hab := F.above
      replace N := news_rest N
      clear KE'
      (try simp only [List.cons_append, List.nil_append] at N)
      (try clear_value qk ek)
      k_unmd
      k_fold
      k_steps
      rename Fr _ _ _ _ => F
      rename News _ _ _ _ => N
      have I := I'
      have G := G'
      clear I' G'
      have hxm := List.mem_of_getElem? hx
      have hxl := fam_len hl hxm
      refine' Fn.use (write_fn k tkk y ti x hk hy ?hw1 ?hw2) ?hA ?hd ?hu ?I ?F ?N ?KE ?G ?hp ?_
      case hA => assumption
      case hd => ((try simp only [depth_deeper, Around.in1_depth]); omega)
      case hu => ((try simp only [Around.deeper_units, Around.in1_units]); omega)
      case F => assumption
      case I => assumption
      case N => assumption
      case KE => assumption
      case G => assumption
      case hp => first | trivial | exact News.isList N (by k_mem)
      (case hw1 => (intro e3; exact List.length_pos_iff.mpr (fam_ne h1 e3 hxm))); (case hw2 => omega)
      clear I F N KE G X T
      intro g' h' gs dr tk9 t9 I F N KE G kg
      have X := I.K
      have T := I.T
      (try dsimp only)
      (try k_unmd)
      k_steps
      rename Fr _ _ _ _ => F
      rename News _ _ _ _ => N
      rename C < _ => lCD
      refine' EltEnd.intro F₀ ?e1 ?e2 ?e3 ?e4 ?e5 ?e6 ?e7
      case e1 => assumption
      case e2 => assumption
      case e3 => (intro p hp; (repeat (first | exact hp | apply List.mem_cons_of_mem | apply List.mem_append_right)))
      case e4 => assumption
      case e5 => assumption
      case e6 => assumption
      case e7 =>
        (subst hy; simp only [List.take_add_one, hx, Option.toList_some, List.map_append, List.map_cons, List.map_nil]; exact (hj.at fun b o hb e => keep_rest (by intro p hp; (repeat (first | exact hp | apply List.mem_cons_of_mem | apply List.mem_append_right))) N hab b o (by rw [hsz.2]; exact hb) e).snoc (hsz.2 ▸ lCD) (N.get (by k_mem)))
    case hend =>
      clear F N K KE G X T I
      intro D3 ys3 nn3 h' gs dr tk' g' I F N KE G lt3 hLD3 hys3 hD3 hj3
      have X := I.K
      have T := I.T
      rw [List.take_of_length_le (by rw [List.size_toArray]; omega)] at hj3
      try k_lt lt3
      obtain ⟨tl, N, htl, hmem⟩ := hj3.ledger F N (Nat.lt_succ_of_lt (hD3 ▸ hLD3))
      simp only [List.cons_append, List.nil_append] at N
      have hl3 : ys3.length = (family k l os).length := by have := hj3.1; simpa using this
      clear hj3
      k_unmd
      k_steps
      rename Fr _ _ _ _ => F
      rename News _ _ _ _ => N
      refine it_list hA I F N (News.isList N (a := D3) (by k_mem)) fun Ia h₄ K => ?_
      obtain ⟨NW, hNW⟩ := news_eq N
      refine' for_block K I KE G ?hliveNW ((fun NW _ m ne => ne = NW ∧ m (Str.ofString "written") = some (.ref D3)) NW) ?hJ0NW ?hfixNW ?hoffNW ?hownNW ?turnNW ?doneNW
      case hliveNW => (intro i h hst; obtain ⟨o, e, _⟩ := hst.1; exact ⟨o, e⟩)
      case hfixNW =>
        intro b hb
        rcases List.mem_cons.mp hb with h | h
        · exact .inl h
        · refine' .inr ⟨_, fun i m ne hj => ?mmNW⟩
          case mmNW =>
            rw [List.mem_singleton.mp h, hj.1, hNW]
            k_mem
      case hoffNW => exact fun i m ne hj p hp => K.NI p (by rw [hj.1, hNW] at hp; exact hp)
      case hownNW => exact fun v s E' Q' hi h => own_tuple (l := D3) (R := fun h => h.IsList D3 ys3.toArray) v s E' Q' hi h
      case hJ0NW => exact ⟨hNW.symm, rfl⟩
      case turnNW =>
        clear F N K KE G X T I
        intro i v m' ne oI g' h gs dr tk E' hi hP hJ I F N KE G hnI hLI
        obtain ⟨hne, hmw⟩ := hJ
        rw [hne, hNW] at N
        obtain ⟨x, y1, y2, a, t1, t2, hxm, hy1, hy2, rfl, htm⟩ := tup_at hl3 hmem hP
        have hb1 : y1.length ≤ 100 := by have := fam_len hl hxm; rw [hy1, len_mkS]; omega
        have hb2 : y2.length ≤ 100 := by have := fam_len hl hxm; have := writeL_len k x; rw [hy2, len_mkS]; omega
        have ht : IsTup h a #[.str y1 t1, .str y2 t2] := ⟨_, N.get (by (repeat (first | exact htm | apply List.mem_cons_of_mem))), rfl, _, rfl⟩
        have X := I.K
        have T := I.T
        k_unmd
        k_fold
        k_steps
        rename Fr _ _ _ _ => F
        rename News _ _ _ _ => N
        refine it_list hA I F N (News.isList N (a := D3) (by k_mem)) fun Ib h₅ K => ?_
        obtain ⟨NV, hNV⟩ := news_eq N
        refine' for_block K I KE G ?hliveNV ((fun NV _ m ne => ne = NV ∧ m (Str.ofString "written") = some (.ref D3) ∧ m (Str.ofString "one") = some (.str y1 t1) ∧ m (Str.ofString "short") = some (.str y2 t2)) NV) ?hJ0NV ?hfixNV ?hoffNV ?hownNV ?turnNV ?doneNV
        case hliveNV => (intro i h hst; obtain ⟨o, e, _⟩ := hst.1; exact ⟨o, e⟩)
        case hfixNV =>
          intro b hb
          rcases List.mem_cons.mp hb with h | h
          · exact .inl h
          · refine' .inr ⟨_, fun i m ne hj => ?mmNV⟩
            case mmNV =>
              rw [List.mem_singleton.mp h, hj.1, hNV]
              k_mem
        case hoffNV => exact fun i m ne hj p hp => K.NI p (by rw [hj.1, hNV] at hp; exact hp)
        case hownNV => exact fun v s E' Q' hi h => own_tuple (l := D3) (R := fun h => h.IsList D3 ys3.toArray) v s E' Q' hi h
        case hJ0NV => exact ⟨hNV.symm, hmw, rfl, rfl⟩
        case turnNV =>
          clear F N K KE G X T I
          intro j v m2 ne2 oI2 g' h gs dr tk E2 hj hP2 hJ2 I F N KE G hnI2 hLI2
          obtain ⟨hne2, hmw2, hm1, hm2⟩ := hJ2
          rw [hne2, hNV] at N
          obtain ⟨z, z1, z2, b, u1, u2, hzm, hz1, hz2, rfl, htm2⟩ := tup_at hl3 hmem hP2
          have hc1 : z1.length ≤ 100 := by have := fam_len hl hzm; rw [hz1, len_mkS]; omega
          have hc2 : z2.length ≤ 100 := by have := fam_len hl hzm; have := writeL_len k z; rw [hz2, len_mkS]; omega
          have ht2 : IsTup h b #[.str z1 u1, .str z2 u2] := ⟨_, N.get (by (repeat (first | exact htm2 | apply List.mem_cons_of_mem))), rfl, _, rfl⟩
          have X := I.K
          have T := I.T
          have hlaw := fronts_law k hk x z (fun e3 => fam_ne h1 e3 hxm) (fun e3 => fam_ne h1 e3 hzm) hy1 hy2 hz1 hz2
          k_unmd
          k_fold
          k_steps
          all_goals first
            | (exfalso; omega)
            | (rename Fr _ _ _ _ => F; rename News _ _ _ _ => N; exact TurnEnd.intro I F N KE G ⟨hNV.symm, hmw2, hm1, hm2⟩)
            | (exfalso; simp_all; done)
            | trace_state
        case doneNV =>
          clear F N K KE G X T I
          intro m2 ne2 g' h gs dr tk hJ2 I F N KE G
          obtain ⟨hne2, hmw2, hm1, hm2⟩ := hJ2
          rw [hne2, hNV] at N
          have X := I.K
          have T := I.T
          k_unmd
          k_steps
          rename Fr _ _ _ _ => F
          rename News _ _ _ _ => N
          exact TurnEnd.intro I F N KE G ⟨hNW.symm, hmw2⟩
      case doneNW =>
        clear F N K KE G X T I
        intro m' ne g' h gs dr tk hJ I F N KE G
        have X := I.K
        have T := I.T
        k_unmd
        k_steps
        rename Fr _ _ _ _ => F
        rename News _ _ _ _ => N
        exact Ret.bool (s := s) hR rfl I F KE G
  focus
    have hits : its.length = (family k l os).length := by have := StrsAre.length hSA; simpa using this
    have hfs := fam_size k l os
    refine it_list hA I F N hIL fun Ia h₂ K => ?_
    refine' LCstore K ?hsz ?hcell ?hkind ?hx I KE G ?hL ?hy ?hp (fun i ys h => Tups (h₂.objs.size + 1) h ys (((family k l os).take i).map fun x => (mkS x, mkS (writeL k x)))) (fun _ => true) ?hJ0 ?hJ ?hend
    case hsz => exact Nat.le_trans (m := 10) (by rw [List.size_toArray]; omega) (by decide)
    case hcell => decide
    case hkind => rfl
    case hx => rfl
    case hL => rfl
    case hy => rfl
    case hp => rfl
    case hJ0 => exact .nil
    case hJ =>
      refine ⟨fun _ _ _ _ hj hk => hj.at hk, fun i v u m₂ g' C E' _ _ _ _ _ _ _ => wpAny_pure ⟨rfl, _, rfl⟩, ?_, fun _ _ _ h => by cases h⟩
      clear F N K KE G X T hR
      intro i v' ys u m₂ g' C E' hi hP hpz hj F N I' KE' G' hm hLC hsz
      obtain ⟨x, y, ti, hx, hy, rfl⟩ := strs_at hSA hP
      have X := I'.K
      have T := I'.T
      have KE := Kp.refl g'
      have F₀ : KA g' u.heap := F.keep
      have hab := F.above
      replace N := news_rest N
      clear KE'
      (try simp only [List.cons_append, List.nil_append] at N)
      (try clear_value qk ek)
      k_unmd
      k_fold
      k_steps
      rename Fr _ _ _ _ => F
      rename News _ _ _ _ => N
      have I := I'
      have G := G'
      clear I' G'
      have hxm := List.mem_of_getElem? hx
      have hxl := fam_len hl hxm
      refine' Fn.use (write_fn k tkk y ti x hk hy ?hw1 ?hw2) ?hA ?hd ?hu ?I ?F ?N ?KE ?G ?hp ?_
      case hA => assumption
      case hd => ((try simp only [depth_deeper, Around.in1_depth]); omega)
      case hu => ((try simp only [Around.deeper_units, Around.in1_units]); omega)
      case F => assumption
      case I => assumption
      case N => assumption
      case KE => assumption
      case G => assumption
      case hp => first | trivial | exact News.isList N (by k_mem)
      (case hw1 => (intro e3; exact List.length_pos_iff.mpr (fam_ne h1 e3 hxm))); (case hw2 => omega)
      clear I F N KE G X T
      intro g' h' gs dr tk9 t9 I F N KE G kg
      have X := I.K
      have T := I.T
      (try dsimp only)
      (try k_unmd)
      k_steps
      rename Fr _ _ _ _ => F
      rename News _ _ _ _ => N
      rename C < _ => lCD
      refine' EltEnd.intro F₀ ?e1 ?e2 ?e3 ?e4 ?e5 ?e6 ?e7
      case e1 => assumption
      case e2 => assumption
      case e3 => (intro p hp; (repeat (first | exact hp | apply List.mem_cons_of_mem | apply List.mem_append_right)))
      case e4 => assumption
      case e5 => assumption
      case e6 => assumption
      case e7 =>
        (subst hy; simp only [List.take_add_one, hx, Option.toList_some, List.map_append, List.map_cons, List.map_nil]; exact (hj.at fun b o hb e => keep_rest (by intro p hp; (repeat (first | exact hp | apply List.mem_cons_of_mem | apply List.mem_append_right))) N hab b o (by rw [hsz.2]; exact hb) e).snoc (hsz.2 ▸ lCD) (N.get (by k_mem)))
    case hend =>
      clear F N K KE G X T I
      intro D3 ys3 nn3 h' gs dr tk' g' I F N KE G lt3 hLD3 hys3 hD3 hj3
      have X := I.K
      have T := I.T
      rw [List.take_of_length_le (by rw [List.size_toArray]; omega)] at hj3
      try k_lt lt3
      obtain ⟨tl, N, htl, hmem⟩ := hj3.ledger F N (Nat.lt_succ_of_lt (hD3 ▸ hLD3))
      simp only [List.cons_append, List.nil_append] at N
      have hl3 : ys3.length = (family k l os).length := by have := hj3.1; simpa using this
      clear hj3
      k_unmd
      k_steps
      rename Fr _ _ _ _ => F
      rename News _ _ _ _ => N
      refine it_list hA I F N (News.isList N (a := D3) (by k_mem)) fun Ia h₄ K => ?_
      obtain ⟨NW, hNW⟩ := news_eq N
      refine' for_block K I KE G ?hliveNW ((fun NW _ m ne => ne = NW ∧ m (Str.ofString "written") = some (.ref D3)) NW) ?hJ0NW ?hfixNW ?hoffNW ?hownNW ?turnNW ?doneNW
      case hliveNW => (intro i h hst; obtain ⟨o, e, _⟩ := hst.1; exact ⟨o, e⟩)
      case hfixNW =>
        intro b hb
        rcases List.mem_cons.mp hb with h | h
        · exact .inl h
        · refine' .inr ⟨_, fun i m ne hj => ?mmNW⟩
          case mmNW =>
            rw [List.mem_singleton.mp h, hj.1, hNW]
            k_mem
      case hoffNW => exact fun i m ne hj p hp => K.NI p (by rw [hj.1, hNW] at hp; exact hp)
      case hownNW => exact fun v s E' Q' hi h => own_tuple (l := D3) (R := fun h => h.IsList D3 ys3.toArray) v s E' Q' hi h
      case hJ0NW => exact ⟨hNW.symm, rfl⟩
      case turnNW =>
        clear F N K KE G X T I
        intro i v m' ne oI g' h gs dr tk E' hi hP hJ I F N KE G hnI hLI
        obtain ⟨hne, hmw⟩ := hJ
        rw [hne, hNW] at N
        obtain ⟨x, y1, y2, a, t1, t2, hxm, hy1, hy2, rfl, htm⟩ := tup_at hl3 hmem hP
        have hb1 : y1.length ≤ 100 := by have := fam_len hl hxm; rw [hy1, len_mkS]; omega
        have hb2 : y2.length ≤ 100 := by have := fam_len hl hxm; have := writeL_len k x; rw [hy2, len_mkS]; omega
        have ht : IsTup h a #[.str y1 t1, .str y2 t2] := ⟨_, N.get (by (repeat (first | exact htm | apply List.mem_cons_of_mem))), rfl, _, rfl⟩
        have X := I.K
        have T := I.T
        k_unmd
        k_fold
        k_steps
        rename Fr _ _ _ _ => F
        rename News _ _ _ _ => N
        refine it_list hA I F N (News.isList N (a := D3) (by k_mem)) fun Ib h₅ K => ?_
        obtain ⟨NV, hNV⟩ := news_eq N
        refine' for_block K I KE G ?hliveNV ((fun NV _ m ne => ne = NV ∧ m (Str.ofString "written") = some (.ref D3) ∧ m (Str.ofString "one") = some (.str y1 t1) ∧ m (Str.ofString "short") = some (.str y2 t2)) NV) ?hJ0NV ?hfixNV ?hoffNV ?hownNV ?turnNV ?doneNV
        case hliveNV => (intro i h hst; obtain ⟨o, e, _⟩ := hst.1; exact ⟨o, e⟩)
        case hfixNV =>
          intro b hb
          rcases List.mem_cons.mp hb with h | h
          · exact .inl h
          · refine' .inr ⟨_, fun i m ne hj => ?mmNV⟩
            case mmNV =>
              rw [List.mem_singleton.mp h, hj.1, hNV]
              k_mem
        case hoffNV => exact fun i m ne hj p hp => K.NI p (by rw [hj.1, hNV] at hp; exact hp)
        case hownNV => exact fun v s E' Q' hi h => own_tuple (l := D3) (R := fun h => h.IsList D3 ys3.toArray) v s E' Q' hi h
        case hJ0NV => exact ⟨hNV.symm, hmw, rfl, rfl⟩
        case turnNV =>
          clear F N K KE G X T I
          intro j v m2 ne2 oI2 g' h gs dr tk E2 hj hP2 hJ2 I F N KE G hnI2 hLI2
          obtain ⟨hne2, hmw2, hm1, hm2⟩ := hJ2
          rw [hne2, hNV] at N
          obtain ⟨z, z1, z2, b, u1, u2, hzm, hz1, hz2, rfl, htm2⟩ := tup_at hl3 hmem hP2
          have hc1 : z1.length ≤ 100 := by have := fam_len hl hzm; rw [hz1, len_mkS]; omega
          have hc2 : z2.length ≤ 100 := by have := fam_len hl hzm; have := writeL_len k z; rw [hz2, len_mkS]; omega
          have ht2 : IsTup h b #[.str z1 u1, .str z2 u2] := ⟨_, N.get (by (repeat (first | exact htm2 | apply List.mem_cons_of_mem))), rfl, _, rfl⟩
          have X := I.K
          have T := I.T
          have hlaw := fronts_law k hk x z (fun e3 => fam_ne h1 e3 hxm) (fun e3 => fam_ne h1 e3 hzm) hy1 hy2 hz1 hz2
          k_unmd
          k_fold
          k_steps
          all_goals first
            | (exfalso; omega)
            | (rename Fr _ _ _ _ => F; rename News _ _ _ _ => N; exact TurnEnd.intro I F N KE G ⟨hNV.symm, hmw2, hm1, hm2⟩)
            | (exfalso; simp_all; done)
            | trace_state
        case doneNV =>
          clear F N K KE G X T I
          intro m2 ne2 g' h gs dr tk hJ2 I F N KE G
          obtain ⟨hne2, hmw2, hm1, hm2⟩ := hJ2
          rw [hne2, hNV] at N
          have X := I.K
          have T := I.T
          k_unmd
          k_steps
          rename Fr _ _ _ _ => F
          rename News _ _ _ _ => N
          exact TurnEnd.intro I F N KE G ⟨hNW.symm, hmw2⟩
      case doneNW =>
        clear F N K KE G X T I
        intro m' ne g' h gs dr tk hJ I F N KE G
        have X := I.K
        have T := I.T
        k_unmd
        k_steps
        rename Fr _ _ _ _ => F
        rename News _ _ _ _ => N
        exact Ret.bool (s := s) hR rfl I F KE G
end
end Mine
namespace Mine
open PySem PySem.W PyProof.Rows
set_option maxHeartbeats 4000000
def alpha (l : List Nat) : List Nat := List.range 128 ++ l.filter fun c => decide (127 < c)
theorem alpha_len (l : List Nat) : (alpha l).length ≤ 128 + l.length := by
  unfold alpha
  rw [List.length_append, List.length_range]
  have := List.length_filter_le (fun c => decide (127 < c)) l
  omega
def digs : List Nat := [45, 48, 49, 50, 51, 52, 53, 54, 55, 56, 57]
def words (k : Int) (l : List Nat) : List (List Nat × Nat) := (alpha l).map fun c => (writeL (k % 3) [c], c)
def words3 : List (List Nat × Nat) := digs.map fun c => (identL [c], c)
theorem lit_digs : Str.ofString "-0123456789" = mkS digs := by decide +kernel
def wpair (p : List Nat × Nat) : Str × Str := (mkS p.1, mkS [p.2])

/-! ### the words of a writing -/
def wall (k : Int) (l : List Nat) : List (List Nat × Nat) := words k l ++ (if k = 3 then words3 else [])
def oneW (k : Int) (c : Nat) : List Nat := if k = 1 then strW c else if k = 2 then urlW c else nameW c
theorem writeL_one (k : Int) (hk : 0 ≤ k ∧ k ≤ 3) (c : Nat) : writeL (k % 3) [c] = oneW k c := by
  have key : k = 0 ∨ k = 1 ∨ k = 2 ∨ k = 3 := by omega
  rcases key with rfl | rfl | rfl | rfl <;> simp [writeL, oneW]
theorem oneW_pc (k : Int) : PC (oneW k) := by
  intro c d a b h
  unfold oneW at h
  (repeat' split at h)
  · exact strW_pc _ _ _ _ h
  · exact urlW_pc _ _ _ _ h
  · exact nameW_pc _ _ _ _ h
theorem oneW_ne (k : Int) (c : Nat) : oneW k c ≠ [] := by
  unfold oneW
  (repeat' split)
  · exact strW_ne c
  · exact urlW_ne c
  · exact nameW_ne c
theorem oneW_len (k : Int) (c : Nat) : (oneW k c).length ≤ 3 := by
  unfold oneW
  (repeat' split)
  · exact strW_len c
  · exact urlW_len c
  · exact nameW_len c
theorem digs_start : ∀ d ∈ digs, identL [d] = startW d := by decide
theorem name_dig (c d : Nat) (hd : d ∈ digs) (a b : List Nat) : nameW c ++ a ≠ startW d ++ b := by
  have key : ∃ x r, startW d = 92 :: x :: r ∧ isNm x = true ∧ x ≠ 65 ∧ x ≠ 68 ∧ x ≠ 67 := by
    simp only [digs, List.mem_cons, List.not_mem_nil, or_false] at hd
    rcases hd with rfl | rfl | rfl | rfl | rfl | rfl | rfl | rfl | rfl | rfl | rfl <;> exact ⟨_, _, rfl, by decide, by decide, by decide, by decide⟩
  obtain ⟨x, r, e, h1, h2, h3, h4⟩ := key
  rw [e]
  unfold nameW
  intro h
  (repeat' split at h)
  · rename_i hc
    simp only [List.cons_append, List.nil_append, List.cons.injEq] at h
    rw [h.1] at hc
    revert hc
    decide
  · simp only [List.cons_append, List.cons.injEq] at h
    exact h2 h.2.1.symm
  · simp only [List.cons_append, List.cons.injEq] at h
    exact h3 h.2.1.symm
  · simp only [List.cons_append, List.cons.injEq] at h
    exact h4 h.2.1.symm
  · rename_i hc _ _ _
    simp only [List.cons_append, List.cons.injEq] at h
    exact hc (.inl (h.2.1 ▸ h1))
theorem wall_mem {k : Int} (hk : 0 ≤ k ∧ k ≤ 3) {l : List Nat} {p : List Nat × Nat} (h : p ∈ wall k l) : (p.1 = oneW k p.2 ∧ (p.2 < 128 ∨ p.2 ∈ l)) ∨ (k = 3 ∧ p.2 ∈ digs ∧ p.1 = startW p.2) := by
  unfold wall words words3 alpha at h
  simp only [List.mem_append, List.mem_map, List.mem_range, List.mem_filter] at h
  rcases h with ⟨c, hc, rfl⟩ | h
  · refine .inl ⟨writeL_one k hk c, ?_⟩
    rcases hc with h | h
    · exact .inl h
    · exact .inr h.1
  · split at h
    · rename_i h3
      obtain ⟨c, hc, rfl⟩ := List.mem_map.mp h
      exact .inr ⟨h3, hc, digs_start c hc⟩
    · cases h
theorem mem_wall {k : Int} (hk : 0 ≤ k ∧ k ≤ 3) {l : List Nat} {c : Nat} (h : c ∈ l) : (oneW k c, c) ∈ wall k l := by
  unfold wall words alpha
  refine List.mem_append_left _ (List.mem_map.mpr ⟨c, ?_, by rw [writeL_one k hk]⟩)
  by_cases hc : c < 128
  · exact List.mem_append_left _ (List.mem_range.mpr hc)
  · exact List.mem_append_right _ (List.mem_filter.mpr ⟨h, by simpa using Nat.lt_of_lt_of_le (by decide) (Nat.le_of_not_lt hc)⟩)
theorem mem_wall3 {l : List Nat} {c : Nat} (h : c ∈ digs) : (startW c, c) ∈ wall 3 l := by
  unfold wall words3
  exact List.mem_append_right _ (by rw [if_pos rfl]; exact List.mem_map.mpr ⟨c, h, by rw [digs_start c h]⟩)
theorem wall_pc {k : Int} (hk : 0 ≤ k ∧ k ≤ 3) {l : List Nat} {p q : List Nat × Nat} (hp : p ∈ wall k l) (hq : q ∈ wall k l) (a b : List Nat) (h : p.1 ++ a = q.1 ++ b) : p = q := by
  rcases wall_mem hk hp with ⟨e1, _⟩ | ⟨k1, d1, e1⟩ <;> rcases wall_mem hk hq with ⟨e2, _⟩ | ⟨k2, d2, e2⟩
  · rw [e1, e2] at h
    have := oneW_pc k _ _ _ _ h
    exact Prod.ext (by rw [e1, e2, this]) this
  · subst k2
    rw [e1, e2] at h
    exact absurd h (name_dig _ _ d2 _ _)
  · subst k1
    rw [e1, e2] at h
    exact absurd h.symm (name_dig _ _ d1 _ _)
  · rw [e1, e2] at h
    have := startW_pc _ _ _ _ h
    exact Prod.ext (by rw [e1, e2, this]) this
theorem wall_fun {k : Int} (hk : 0 ≤ k ∧ k ≤ 3) {l : List Nat} {p q : List Nat × Nat} (hp : p ∈ wall k l) (hq : q ∈ wall k l) (h : p.1 = q.1) : p.2 = q.2 := by
  rw [wall_pc hk hp hq [] [] (by rw [h])]
theorem wall_pre {k : Int} (hk : 0 ≤ k ∧ k ≤ 3) {l : List Nat} {p q : List Nat × Nat} (hp : p ∈ wall k l) (hq : q ∈ wall k l) (h : p.1 <+: q.1) : p.1 = q.1 := by
  obtain ⟨t, h⟩ := h
  rw [wall_pc hk hp hq t [] (by rw [h, List.append_nil])]
theorem wall_ne {k : Int} (hk : 0 ≤ k ∧ k ≤ 3) {l : List Nat} {p : List Nat × Nat} (hp : p ∈ wall k l) : p.1 ≠ [] := by
  rcases wall_mem hk hp with ⟨e1, _⟩ | ⟨k1, d1, e1⟩
  · rw [e1]; exact oneW_ne _ _
  · rw [e1]; exact startW_ne _
theorem wall_len {k : Int} (hk : 0 ≤ k ∧ k ≤ 3) {l : List Nat} {p : List Nat × Nat} (hp : p ∈ wall k l) : p.1.length ≤ 4 := by
  rcases wall_mem hk hp with ⟨e1, _⟩ | ⟨k1, d1, e1⟩
  · rw [e1]; exact Nat.le_trans (oneW_len _ _) (by decide)
  · rw [e1]; exact startW_len _

/-! ### the text is made of words -/
def Pieces (k : Int) (l0 : List Nat) (l : List Nat) (t : List Nat) : Prop := ∃ ws : List (List Nat × Nat), (∀ p ∈ ws, p ∈ wall k l0) ∧ ws.map (·.2) = l ∧ (ws.map (·.1)).flatten = t
theorem Pieces.nil {k : Int} {l0 : List Nat} : Pieces k l0 [] [] := ⟨[], (fun _ h => nomatch h), rfl, rfl⟩
theorem Pieces.cons {k : Int} {l0 l t : List Nat} {p : List Nat × Nat} (hp : p ∈ wall k l0) (h : Pieces k l0 l t) : Pieces k l0 (p.2 :: l) (p.1 ++ t) := by
  obtain ⟨ws, h1, h2, h3⟩ := h
  refine ⟨p :: ws, fun q hq => ?_, by rw [List.map_cons, h2], by rw [List.map_cons, List.flatten_cons, h3]⟩
  rcases List.mem_cons.mp hq with rfl | hq
  · exact hp
  · exact h1 q hq
theorem pieces_flat {k : Int} (hk : 0 ≤ k ∧ k ≤ 3) {l0 : List Nat} : ∀ l : List Nat, (∀ c ∈ l, c ∈ l0) → Pieces k l0 l (l.flatMap (oneW k))
  | [], _ => .nil
  | c :: r, h => by
    rw [List.flatMap_cons]
    exact Pieces.cons (p := (oneW k c, c)) (mem_wall hk (h c (List.mem_cons_self ..))) (pieces_flat hk r fun d hd => h d (List.mem_cons_of_mem _ hd))
theorem start_word {l0 : List Nat} {c : Nat} (h : c ∈ l0) : (startW c, c) ∈ wall 3 l0 := by
  by_cases hd : c ∈ digs
  · exact mem_wall3 hd
  · have hdg : isDg c = false := by
      cases h' : isDg c with
      | false => rfl
      | true =>
        unfold isDg at h'
        simp only [Bool.and_eq_true, decide_eq_true_eq] at h'
        refine absurd ?_ hd
        have : c = 48 ∨ c = 49 ∨ c = 50 ∨ c = 51 ∨ c = 52 ∨ c = 53 ∨ c = 54 ∨ c = 55 ∨ c = 56 ∨ c = 57 := by omega
        unfold digs
        simp only [List.mem_cons, List.not_mem_nil, or_false]
        omega
    have h45 : c ≠ 45 := fun e => hd (by rw [e]; decide)
    have e : startW c = oneW 3 c := by
      have hn : isNm c = isSt c := by
        unfold isNm isSt
        have : (48 ≤ c && c ≤ 57) = false := hdg
        rw [Bool.eq_iff_iff]
        simp only [Bool.or_eq_true, Bool.and_eq_true, decide_eq_true_eq, beq_iff_eq]
        simp only [Bool.and_eq_false_iff, decide_eq_false_iff_not] at this
        omega
      unfold oneW
      rw [if_neg (by decide), if_neg (by decide)]
      unfold startW nameW
      rw [hn, hdg]
      simp
    rw [e]
    exact mem_wall (by decide) h
theorem oneW_fun : oneW 0 = nameW ∧ oneW 1 = strW ∧ oneW 2 = urlW := ⟨funext fun _ => rfl, funext fun _ => rfl, funext fun _ => rfl⟩
theorem pieces_text (k : Int) (hk : 0 ≤ k ∧ k ≤ 3) (l : List Nat) : Pieces k l l (writeL k l) := by
  have key : k = 0 ∨ k = 1 ∨ k = 2 ∨ k = 3 := by omega
  rcases key with rfl | rfl | rfl | rfl
  · have := pieces_flat hk l fun c h => h
    have e := oneW_fun
    simpa [writeL, e] using this
  · have := pieces_flat hk l fun c h => h
    have e := oneW_fun
    simpa [writeL, e] using this
  · have := pieces_flat hk l fun c h => h
    have e := oneW_fun
    simpa [writeL, e] using this
  · have hn : ∀ c, oneW 3 c = nameW c := fun c => by unfold oneW; rw [if_neg (by decide), if_neg (by decide)]
    have hn' : oneW 3 = nameW := funext hn
    show Pieces 3 l l (identL l)
    match l with
    | [] => exact .nil
    | [c] =>
      have h1 := start_word (l0 := [c]) (List.mem_singleton_self c)
      have := Pieces.cons h1 Pieces.nil
      rw [List.append_nil] at this
      by_cases hc : c = 45
      · subst hc; exact this
      · simpa [identL, hc] using this
    | c :: d :: r =>
      have hr := pieces_flat (k := 3) (l0 := c :: d :: r) hk r fun x hx => List.mem_cons_of_mem _ (List.mem_cons_of_mem _ hx)
      have hr' := pieces_flat (k := 3) (l0 := c :: d :: r) hk (d :: r) fun x hx => List.mem_cons_of_mem _ hx
      rw [hn'] at hr hr'
      have hc := start_word (l0 := c :: d :: r) (List.mem_cons_self ..)
      have hd := start_word (l0 := c :: d :: r) (List.mem_cons_of_mem _ (List.mem_cons_self ..))
      have h45 : ∀ x, x = 45 → x ∈ c :: d :: r → ([45], 45) ∈ wall 3 (c :: d :: r) := fun x e h => by
        subst e
        have := mem_wall hk h
        simpa [oneW, nameW, isNm] using this
      by_cases e : c = 45
      · have h1 := h45 c e (List.mem_cons_self ..)
        by_cases e2 : d = 45
        · have := Pieces.cons h1 (Pieces.cons h1 hr)
          simpa [identL, e, e2] using this
        · have := Pieces.cons h1 (Pieces.cons hd hr)
          simpa [identL, e, e2] using this
      · have := Pieces.cons hc hr'
        simpa [identL, e] using this

/-! ### how many ways to cut -/
def cut (isW : List Nat → Bool) : List Nat → Nat
  | [] => 1
  | c :: r => ((List.range (min 4 (r.length + 1))).map fun j => if isW ((c :: r).take (j + 1)) = true then cut isW ((c :: r).drop (j + 1)) else 0).sum
termination_by t => t.length
decreasing_by simp; omega
def isWord (k : Int) (l : List Nat) (w : List Nat) : Bool := decide (∃ p ∈ wall k l, p.1 = w)
theorem isWord_iff {k : Int} {l w : List Nat} : isWord k l w = true ↔ ∃ p ∈ wall k l, p.1 = w := by unfold isWord; rw [decide_eq_true_eq]
theorem sum_one (f : Nat → Nat) : ∀ (m j : Nat), j < m → (∀ i, i < m → i ≠ j → f i = 0) → ((List.range m).map f).sum = f j
  | 0, j, h, _ => absurd h (Nat.not_lt_zero _)
  | m + 1, j, h, z => by
    rw [List.range_succ, List.map_append, List.sum_append]
    simp only [List.map_cons, List.map_nil, List.sum_cons, List.sum_nil, Nat.add_zero]
    by_cases e : j = m
    · subst e
      have : ((List.range j).map f).sum = 0 := by
        rw [List.map_congr_left (g := fun _ => 0) fun i hi => z i (Nat.lt_succ_of_lt (List.mem_range.mp hi)) (Nat.ne_of_lt (List.mem_range.mp hi))]
        clear h z
        induction j with
        | zero => rfl
        | succ j ih => rw [List.range_succ, List.map_append, List.sum_append, ih]; rfl
      rw [this, Nat.zero_add]
    · rw [sum_one f m j (by omega) (fun i hi => z i (Nat.lt_succ_of_lt hi)), z m (Nat.lt_succ_self m) (fun h => e h.symm), Nat.add_zero]
/-- where a word starts the text, no other does -/
theorem word_at {k : Int} (hk : 0 ≤ k ∧ k ≤ 3) {l : List Nat} {p : List Nat × Nat} (hp : p ∈ wall k l) (t : List Nat) (s : Nat) (hs : s ≤ (p.1 ++ t).length) (h : isWord k l ((p.1 ++ t).take s) = true) : s = p.1.length := by
  obtain ⟨q, hq, e⟩ := isWord_iff.mp h
  have e2 : q = p := wall_pc hk hq hp ((p.1 ++ t).drop s) t (by rw [e, List.take_append_drop])
  have := congrArg List.length e
  rw [e2, List.length_take] at this
  omega
theorem cut_word {k : Int} (hk : 0 ≤ k ∧ k ≤ 3) {l : List Nat} {p : List Nat × Nat} (hp : p ∈ wall k l) (t : List Nat) : cut (isWord k l) (p.1 ++ t) = cut (isWord k l) t := by
  have hne := wall_ne hk hp
  have hlen := wall_len hk hp
  have hpos := List.length_pos_iff.mpr hne
  cases hT : p.1 ++ t with
  | nil => exact absurd (List.append_eq_nil_iff.mp hT).1 hne
  | cons c r =>
    rw [cut]
    have hl : (p.1 ++ t).length = r.length + 1 := by rw [hT]; rfl
    have hl' : p.1.length ≤ r.length + 1 := by rw [← hl, List.length_append]; omega
    rw [sum_one _ _ (p.1.length - 1) (by omega) ?_]
    · rw [show p.1.length - 1 + 1 = p.1.length by omega, ← hT, List.take_left', List.drop_left']
      · rw [if_pos (isWord_iff.mpr ⟨p, hp, rfl⟩)]
      · rfl
      · rfl
    · intro i him hi
      rw [if_neg]
      intro h
      rw [← hT] at h
      have := word_at hk hp t (i + 1) (by omega) h
      omega
theorem cut_pieces {k : Int} (hk : 0 ≤ k ∧ k ≤ 3) {l0 : List Nat} : ∀ ws : List (List Nat × Nat), (∀ p ∈ ws, p ∈ wall k l0) → cut (isWord k l0) (ws.map (·.1)).flatten = 1
  | [], _ => by rw [List.map_nil, List.flatten_nil, cut]
  | p :: ws, h => by
    rw [List.map_cons, List.flatten_cons, cut_word hk (h p (List.mem_cons_self ..))]
    exact cut_pieces hk ws fun q hq => h q (List.mem_cons_of_mem _ hq)
end Mine
namespace Mine
open PySem PySem.W PyProof.Rows
set_option maxHeartbeats 4000000

/-! ### the book -/
theorem find_none_any {K : Type} [DecidableEq K] (y : K) : ∀ kvs : List (K × Value), kvs.any (fun kv => kv.1 = y) = false → kvs.find? (fun kv => kv.1 = y) = none := by
  intro kvs h
  rw [List.find?_eq_none]
  intro x hx hc
  rw [List.any_eq_false] at h
  exact h x hx hc
theorem find_map_store {K : Type} [DecidableEq K] (k y : K) (v : Value) : ∀ kvs : List (K × Value), kvs.any (fun kv => kv.1 = k) = true →
    ((kvs.map fun kv => if kv.1 = k then (kv.1, v) else kv).find? fun kv => kv.1 = y).map (·.2) = if y = k then some v else (kvs.find? fun kv => kv.1 = y).map (·.2)
  | [], h => by simp at h
  | (a, b) :: r, h => by
    by_cases ha : a = k
    · subst ha
      by_cases hy : y = a
      · subst hy; simp
      · have hy' : ¬ a = y := fun e => hy e.symm
        simp only [List.map_cons, if_true, List.find?_cons, hy', decide_false, hy, if_false]
        cases hr : r.any (fun kv => kv.1 = a) with
        | true => have := find_map_store a y v r hr; rw [if_neg hy] at this; exact this
        | false =>
          have : (r.map fun kv => if kv.1 = a then (kv.1, v) else kv) = r := by
            rw [List.any_eq_false] at hr
            rw [List.map_congr_left (g := id) fun x hx => by have := hr x hx; simp only [decide_eq_true_eq] at this; rw [if_neg this]; rfl]
            simp
          rw [this]
    · have hr : r.any (fun kv => kv.1 = k) = true := by simpa [ha] using h
      have ih := find_map_store k y v r hr
      by_cases hy : a = y
      · subst hy
        simp [ha]
      · simp only [List.map_cons, if_neg ha, List.find?_cons, hy, decide_false]
        exact ih
theorem valueAt_stored {K : Type} [DecidableEq K] (kvs : List (K × Value)) (k y : K) (v : Value) : valueAt (stored kvs k v) y = if y = k then some v else valueAt kvs y := by
  unfold valueAt stored
  split
  · rename_i h
    exact find_map_store k y v kvs h
  · rename_i h
    have h := Bool.eq_false_iff.mpr h
    rw [List.find?_append]
    by_cases hy : y = k
    · subst hy
      rw [find_none_any y kvs h]
      simp
    · have : ¬ k = y := fun e => hy e.symm
      simp [hy, this]
structure BookIs (kvs : List (Str × Value)) (ps : List (List Nat × Nat)) : Prop where
  len : kvs.length ≤ ps.length
  no : ∀ y vv, valueAt kvs y = some vv → ∃ p ∈ ps, y = mkS p.1 ∧ ∃ t, vv = .str (mkS [p.2]) t
  yes : ∀ p ∈ ps, ∃ vv, valueAt kvs (mkS p.1) = some vv
theorem BookIs.nil : BookIs [] [] := ⟨Nat.le_refl _, fun y vv h => by simp [valueAt] at h, fun p h => nomatch h⟩
theorem BookIs.store {kvs : List (Str × Value)} {ps : List (List Nat × Nat)} (B : BookIs kvs ps) (p : List Nat × Nat) (t : Tok) : BookIs (stored kvs (mkS p.1) (.str (mkS [p.2]) t)) (ps ++ [p]) where
  len := by
    have := stored_length_le kvs (mkS p.1) (.str (mkS [p.2]) t)
    have := B.len
    rw [List.length_append, List.length_singleton]
    omega
  no := fun y vv h => by
    rw [valueAt_stored] at h
    split at h
    · rename_i e
      exact ⟨p, List.mem_append_right _ (List.mem_singleton_self _), e, t, (Option.some.inj h).symm⟩
    · obtain ⟨q, hq, e⟩ := B.no y vv h
      exact ⟨q, List.mem_append_left _ hq, e⟩
  yes := fun q hq => by
    rw [valueAt_stored]
    split
    · exact ⟨_, rfl⟩
    · rename_i e
      rcases List.mem_append.mp hq with h | h
      · exact B.yes q h
      · rw [List.mem_singleton.mp h] at e
        exact absurd rfl e
theorem BookIs.isSome {kvs : List (Str × Value)} {k : Int} {l : List Nat} (B : BookIs kvs (wall k l)) (u : List Nat) : (valueAt kvs (mkS u)).isSome = isWord k l u := by
  cases h : valueAt kvs (mkS u) with
  | some vv =>
    obtain ⟨p, hp, e, _⟩ := B.no _ _ h
    exact (isWord_iff.mpr ⟨p, hp, (mkS_inj.mp e).symm⟩).symm
  | none =>
    cases h2 : isWord k l u with
    | false => rfl
    | true =>
      obtain ⟨p, hp, e⟩ := isWord_iff.mp h2
      obtain ⟨vv, e2⟩ := B.yes p hp
      rw [e, h] at e2
      cases e2
theorem BookIs.value {kvs : List (Str × Value)} {k : Int} (hk : 0 ≤ k ∧ k ≤ 3) {l : List Nat} {ps : List (List Nat × Nat)} (B : BookIs kvs ps) (hps : ∀ p ∈ ps, p ∈ wall k l) {p : List Nat × Nat} (hp : p ∈ wall k l) {vv : Value} (h : valueAt kvs (mkS p.1) = some vv) : ∃ t, vv = .str (mkS [p.2]) t := by
  obtain ⟨q, hq, e, t, e2⟩ := B.no _ _ h
  exact ⟨t, by rw [e2, wall_fun hk (hps q hq) hp (mkS_inj.mp e).symm]⟩

/-! ### the counts -/
def Cnts (vs : List Value) (f : Nat → Nat) (n : Nat) : Prop := vs.length = n + 1 ∧ ∀ p, p ≤ n → ∃ t, vs[p]? = some (.int (f p) t)
theorem Cnts.set {vs : List Value} {f : Nat → Nat} {n : Nat} (C : Cnts vs f n) {p x : Nat} (hp : p ≤ n) (t : Tok) : Cnts (vs.set p (.int x t)) (fun q => if q = p then x else f q) n := by
  refine ⟨by rw [List.length_set]; exact C.1, fun q hq => ?_⟩
  have h1 := C.1
  by_cases e : q = p
  · subst e
    refine ⟨t, ?_⟩
    rw [List.getElem?_set_self (by omega)]; simp
  · obtain ⟨t', e'⟩ := C.2 q hq
    refine ⟨t', ?_⟩
    rw [List.getElem?_set_ne (fun h => e h.symm), e']; simp [e]
theorem Cnts.congr {vs : List Value} {f g : Nat → Nat} {n : Nat} (C : Cnts vs f n) (h : ∀ p, p ≤ n → f p = g p) : Cnts vs g n := ⟨C.1, fun p hp => by rw [← h p hp]; exact C.2 p hp⟩
theorem cnts_new (n : Nat) (t1 t2 : Tok) : Cnts (List.replicate n (.int 0 t1) ++ [.int 1 t2]) (fun p => if p = n then 1 else 0) n := by
  refine ⟨by simp, fun p hp => ?_⟩
  by_cases e : p = n
  · subst e
    exact ⟨t2, by simp⟩
  · refine ⟨t1, ?_⟩
    rw [List.getElem?_append_left (by simp; omega), List.getElem?_replicate, if_pos (by omega)]
    simp [e]
theorem ints_get : ∀ {vs : List Value} {ns : List Int}, IntsAre vs ns → vs.length = ns.length ∧ ∀ (p : Nat) (x : Int), ns[p]? = some x → ∃ t, vs[p]? = some (.int x t)
  | _, _, .nil => ⟨rfl, fun p x h => by cases h⟩
  | _, _, .cons n t h => by
    have ih := ints_get h
    refine ⟨by rw [List.length_cons, List.length_cons, ih.1], fun p x e => ?_⟩
    cases p with
    | zero => exact ⟨t, by simpa using e⟩
    | succ p => exact ih.2 p x (by simpa using e)
theorem cnts_ints {ws : List Value} {n : Nat} (h : IntsAre ws ((List.replicate (n : Int).toNat [(0 : Int)]).flatten ++ [1])) : Cnts ws (fun p => if p = n then 1 else 0) n := by
  have e : (List.replicate (n : Int).toNat [(0 : Int)]).flatten = List.replicate n 0 := by rw [Int.toNat_natCast, List.flatten_replicate_singleton]
  rw [e] at h
  have ih := ints_get h
  refine ⟨by rw [ih.1]; simp, fun p hp => ?_⟩
  by_cases e : p = n
  · subst e
    exact ih.2 p _ (by simp)
  · refine ih.2 p _ ?_
    rw [List.getElem?_append_left (by simp; omega), List.getElem?_replicate, if_pos (by omega)]
    simp [e]
/-- the counts, done from place a on -/
def goal (k : Int) (l T : List Nat) (a : Nat) (p : Nat) : Nat := if a ≤ p then cut (isWord k l) (T.drop p) else 0
/-- the counts, in the midst of place a: j sizes done -/
def mid (k : Int) (l T : List Nat) (a j : Nat) (p : Nat) : Nat :=
  if a < p then cut (isWord k l) (T.drop p) else if p = a then ((List.range j).map fun i => if isWord k l ((T.drop a).take (i + 1)) = true then cut (isWord k l) (T.drop (a + (i + 1))) else 0).sum else 0
theorem goal_start (k : Int) (l T : List Nat) (p : Nat) (hp : p ≤ T.length) : (if p = T.length then 1 else 0) = goal k l T T.length p := by
  unfold goal
  by_cases e : p = T.length
  · subst e
    rw [if_pos rfl, if_pos (Nat.le_refl _), List.drop_length, cut]
  · rw [if_neg e, if_neg (by omega)]
theorem mid_start (k : Int) (l T : List Nat) (a p : Nat) : goal k l T (a + 1) p = mid k l T a 0 p := by
  unfold goal mid
  by_cases e : a + 1 ≤ p
  · rw [if_pos e, if_pos (by omega)]
  · rw [if_neg e, if_neg (by omega)]
    simp
theorem mid_end (k : Int) (l T : List Nat) (a p : Nat) (ha : a < T.length) : mid k l T a (min 4 (T.length - a)) p = goal k l T a p := by
  unfold goal mid
  by_cases e : a < p
  · rw [if_pos e, if_pos (by omega)]
  · rw [if_neg e]
    by_cases e2 : p = a
    · subst e2
      rw [if_pos rfl, if_pos (Nat.le_refl _)]
      cases hd : T.drop p with
      | nil => have := congrArg List.length hd; simp at this; omega
      | cons c r =>
        have hl : r.length + 1 = T.length - p := by have := congrArg List.length hd; simp at this; omega
        rw [cut, hl]
        congr 1
        apply List.map_congr_left
        intro i _
        rw [← hd, List.drop_drop]
    · rw [if_neg e2, if_neg (by omega)]
theorem mid_step_no (k : Int) (l T : List Nat) (a j p : Nat) (h : isWord k l ((T.drop a).take (j + 1)) = false) : mid k l T a j p = mid k l T a (j + 1) p := by
  unfold mid
  rw [List.range_succ, List.map_append, List.sum_append]
  simp [h]
theorem mid_step_yes (k : Int) (l T : List Nat) (a j p : Nat) (h : isWord k l ((T.drop a).take (j + 1)) = true) :
    (if p = a then mid k l T a j a + mid k l T a j (a + (j + 1)) else mid k l T a j p) = mid k l T a (j + 1) p := by
  unfold mid
  rw [List.range_succ, List.map_append, List.sum_append]
  by_cases e : p = a
  · subst e
    simp [h]
  · simp [e]

/-! ### the way through the text -/
/-- a boundary: the text up to here is the words of the first i signs -/
structure At (k : Int) (l T : List Nat) (i a : Nat) : Prop where
  ha : a ≤ T.length
  rest : Pieces k l (l.drop i) (T.drop a)
  hi : i ≤ l.length
theorem at_start (k : Int) (hk : 0 ≤ k ∧ k ≤ 3) (l : List Nat) : At k l (writeL k l) 0 0 := ⟨Nat.zero_le _, pieces_text k hk l, Nat.zero_le _⟩
theorem At.cut {k : Int} (hk : 0 ≤ k ∧ k ≤ 3) {l T : List Nat} {i a : Nat} (x : At k l T i a) : cut (isWord k l) (T.drop a) = 1 := by
  obtain ⟨ws, h1, h2, h3⟩ := x.rest
  rw [← h3]
  exact cut_pieces hk ws h1
theorem At.fin {k : Int} {l T : List Nat} {i a : Nat} (x : At k l T i a) (h : T.length ≤ a) (hk : 0 ≤ k ∧ k ≤ 3) : i = l.length := by
  obtain ⟨ws, h1, h2, h3⟩ := x.rest
  rw [List.drop_of_length_le h] at h3
  cases ws with
  | nil => have := congrArg List.length h2; simp at this; have := x.hi; omega
  | cons p ws =>
    rw [List.map_cons, List.flatten_cons] at h3
    exact absurd (List.append_eq_nil_iff.mp h3).1 (wall_ne hk (h1 p (List.mem_cons_self ..)))
/-- the next word -/
theorem At.next {k : Int} (hk : 0 ≤ k ∧ k ≤ 3) {l T : List Nat} {i a : Nat} (x : At k l T i a) (h : a < T.length) :
    ∃ (p : List Nat × Nat), p ∈ wall k l ∧ l[i]? = some p.2 ∧ (T.drop a).take p.1.length = p.1 ∧ 1 ≤ p.1.length ∧ p.1.length ≤ 4 ∧ a + p.1.length ≤ T.length ∧ At k l T (i + 1) (a + p.1.length) ∧
      (∀ s, s ≤ p.1.length → isWord k l ((T.drop a).take s) = true → s = p.1.length) := by
  obtain ⟨ws, h1, h2, h3⟩ := x.rest
  cases ws with
  | nil => have := congrArg List.length h3; simp at this; omega
  | cons p ws =>
    rw [List.map_cons, List.flatten_cons] at h3
    rw [List.map_cons] at h2
    have hp := h1 p (List.mem_cons_self ..)
    have hlen : p.1.length + ((ws.map (·.1)).flatten).length = T.length - a := by have := congrArg List.length h3; simpa using this
    have hi : i < l.length := by have := congrArg List.length h2; simp at this; omega
    have hli : l[i]? = some p.2 := by
      have := congrArg (fun z : List Nat => z[0]?) h2
      simpa using this.symm
    refine ⟨p, hp, hli, by rw [← h3, List.take_left' rfl], List.length_pos_iff.mpr (wall_ne hk hp), wall_len hk hp, by omega, ⟨by omega, ⟨ws, fun q hq => h1 q (List.mem_cons_of_mem _ hq), ?_, ?_⟩, by omega⟩, fun s hs hw => ?_⟩
    · have := congrArg (fun z : List Nat => z.drop 1) h2
      simpa using this
    · rw [← List.drop_drop, ← h3, List.drop_left' rfl]
    · rw [← h3] at hw
      exact word_at hk hp _ s (by rw [List.length_append]; omega) hw
end Mine
namespace Mine
open PySem PySem.W PyProof.Rows
set_option maxHeartbeats 4000000
section
variable {w : World} {mg mb : Str → Option Value} {bm : Addr} {ob : Obj} {g h₀ : Heap} {L : Addr} {m : Str → Option Value} {news : List (Addr × Obj)} {A : Around} {s : Shared} {E : Value → Shared → Prop}
def WhilePost (w : World) (A : Around) (E : Value → Shared → Prop) (env : Env) (test : Expr) (body : List Stmt) (Q : Flow → Shared → Prop) (s : Shared) : Prop :=
  codeAny (model pr w) A (.whileLoop test body [] env) (fun r s' => match r with | .ok f => Q f s' | .error e => cameBackBy (model pr w) A env E e s') s
theorem While_run {env : Env} {test : Expr} {body : List Stmt} {pos : Pos} {Q : Flow → Shared → Prop} (h : WhilePost w A E env test body Q s) : wpAny (model pr w) A (exec (.While test body [] pos) env) Q E s := wpAny_While h
/-- the end of a turn: fewer turns left -/
def WEnd (w : World) (mg mb : Str → Option Value) (bm : Addr) (ob : Obj) (h₀ : Heap) (L : Addr) (os : OsState) (J : Nat → (Str → Option Value) → List (Addr × Obj) → Prop) (k : Nat) (s : Shared) : Prop :=
  ∃ i, i < k ∧ ∃ g m news, Inv w mg mb bm ob g ∧ Fr g L s.heap m ∧ News g L s.heap news ∧ Kp h₀ g ∧ AllBare s.gens ∧ s.os = os ∧ J i m news
def WBodyPost (w : World) (mg mb : Str → Option Value) (bm : Addr) (ob : Obj) (h₀ : Heap) (L : Addr) (os : OsState) (J : Nat → (Str → Option Value) → List (Addr × Obj) → Prop) (k : Nat) (Q : Flow → Shared → Prop) (f : Flow) (s : Shared) : Prop :=
  match f with
  | .next => WEnd w mg mb bm ob h₀ L os J k s
  | .cont => WEnd w mg mb bm ob h₀ L os J k s
  | .brk => Q .next s
  | .ret v => Q (.ret v) s
theorem WEnd.intro {os : OsState} {J : Nat → (Str → Option Value) → List (Addr × Obj) → Prop} {k i : Nat} {gs : Array GenState} {h : Heap} {dr : Drawn} {tk : Nat} (I : Inv w mg mb bm ob g) (F : Fr g L h m) (N : News g L h news) (KE : Kp h₀ g) (G : AllBare gs) (hi : i < k) (j : J i m news) :
    WEnd w mg mb bm ob h₀ L os J k { heap := h, gens := gs, drawn := dr, toks := tk, os := os } := ⟨i, hi, g, m, news, I, F, N, KE, G, rfl, j⟩
theorem while_block {env : Env} {test : Expr} {body : List Stmt} {Q : Flow → Shared → Prop} {h₂ : Heap} {gs₂ : Array GenState} {dr₂ : Drawn} {tk₂ : Nat} {os₂ : OsState} (I : Inv w mg mb bm ob g) (F : Fr g L h₂ m) (N : News g L h₂ news) (KE : Kp h₀ g) (G : AllBare gs₂)
    (J : Nat → (Str → Option Value) → List (Addr × Obj) → Prop) (n : Nat) (hJ0 : J n m news)
    (turn : ∀ k m news g' h gs dr tk E', J k m news → Inv w mg mb bm ob g' → Fr g' L h m → News g' L h news → Kp h₀ g' → AllBare gs →
      wpAny (model pr w) A (isTrue test env (eval test env)) (fun b s₂ => if b = true then wpAny (model pr w) A (execs body env) (fun f s₃ => WBodyPost w mg mb bm ob h₀ L os₂ J k Q f s₃) E' s₂ else Q .next s₂) E' { heap := h, gens := gs, drawn := dr, toks := tk, os := os₂ }) :
    WhilePost w A E env test body Q { heap := h₂, gens := gs₂, drawn := dr₂, toks := tk₂, os := os₂ } := by
  refine codeAny_whileLoop (fun k s' => ∃ m news g' h gs dr tk, s' = { heap := h, gens := gs, drawn := dr, toks := tk, os := os₂ } ∧ Inv w mg mb bm ob g' ∧ Fr g' L h m ∧ News g' L h news ∧ Kp h₀ g' ∧ AllBare gs ∧ J k m news) ?_ n
    ⟨m, news, g, h₂, gs₂, dr₂, tk₂, rfl, I, F, N, KE, G, hJ0⟩
  rintro k s' ⟨m, news, g', h, gs, dr, tk, rfl, I, F, N, KE, G, j⟩
  refine wpAny_mono (turn k m news g' h gs dr tk _ j I F N KE G) (fun b s₂ h₂ => ?_) fun _ _ e => e
  cases b with
  | false => exact wpAny_execs_nil h₂
  | true =>
    refine wpAny_mono h₂ (fun f s₃ h₃ => ?_) fun _ _ e => e
    have fin : WEnd w mg mb bm ob h₀ L os₂ J k s₃ → ∃ i, i < k ∧ ∃ m news g' h gs dr tk, s₃ = { heap := h, gens := gs, drawn := dr, toks := tk, os := os₂ } ∧ Inv w mg mb bm ob g' ∧ Fr g' L h m ∧ News g' L h news ∧ Kp h₀ g' ∧ AllBare gs ∧ J i m news := by
      rintro ⟨i, hi, g4, m4, news4, I4, F4, N4, KE4, G4, os4, j4⟩
      obtain ⟨h4, gs4, dr4, tk4, os4'⟩ := s₃
      dsimp only at os4 F4 N4 G4
      subst os4
      exact ⟨i, hi, m4, news4, g4, h4, gs4, dr4, tk4, rfl, I4, F4, N4, KE4, G4, j4⟩
    cases f with
    | next => exact fin h₃
    | cont => exact fin h₃
    | brk => exact h₃
    | ret v => exact h₃
theorem loadN_L {M : Model} {env : Env} {x : Str} {v : Value} {Q : Value → Shared → Prop} (F : Fr g L s.heap m) (hL : env.locals = L) (hv : m x = some v) (h : Q v s) (hk : env.scope.kind = .function) (hx : env.kindOf x = some .local) : wpAny M A (loadName env x) Q E s := by
  subst hL
  exact wpAny_loadName_local hk hx F.ns hv h
theorem setL_some : ∀ {vs : List Value} {i : Nat} (v : Value), i < vs.length → ki_setL vs i v = some (vs.set i v)
  | [], i, v, h => absurd h (Nat.not_lt_zero _)
  | x :: r, 0, v, _ => rfl
  | x :: r, i + 1, v, h => by
    unfold ki_setL
    rw [setL_some v (Nat.lt_of_succ_lt_succ h)]
    rfl
theorem set_K {prog : Program} {D : Addr} {vs : List Value} {n i : Nat} {t : Tok} {v : Value} {news' : List (Addr × Obj)} {Q : Unit → Shared → Prop} (F : Fr g L s.heap m) (N : News g L s.heap news) (hi : i < vs.length) (hs : i < 1000) (U : Upd D (listOf vs.toArray n) (listOf (vs.set i v).toArray n) news news')
    (h : ∀ h', Fr g L h' m → News g L h' news' → Q () { heap := h', gens := s.gens, drawn := s.drawn, toks := s.toks, os := s.os }) : wpAny (model prog w) A (setItem (.ref D) (.int (i : Int) t) v) Q E s :=
  ki_set F N (by omega) (by omega) (by simpa using setL_some v hi) U h
end
end Mine
namespace Mine
open PySem PySem.W PyProof.Rows
set_option maxHeartbeats 4000000

theorem strs_atF {α : Type} {its : List Value} {f : α → Str} {xs : List α} (h : StrsAre its (xs.map f)) {i : Nat} {v : Value} (e : its.toArray[i]? = some v) : ∃ x y t, xs[i]? = some x ∧ y = f x ∧ v = .str y t := by
  have hi : i < xs.length := by
    have h1 := StrsAre.length h
    have h2 := (Array.getElem?_eq_some_iff.mp e).1
    simp at h1 h2
    omega
  obtain ⟨t, ht⟩ := h.get i (f xs[i]) (by simp [hi])
  rw [List.getElem?_toArray, ht] at e
  exact ⟨xs[i], _, t, by simp [hi], rfl, (Option.some.inj e).symm⟩
/-- which tuples of the ledger the list holds -/
def Holds (tl : List (Addr × Obj)) (ys : List Value) (ps : List (Str × Str)) : Prop :=
  ys.length = ps.length ∧ ∀ (j : Nat) (p : Str × Str), ps[j]? = some p → ∃ (a : Addr) (t1 t2 : Tok), ys[j]? = some (Value.ref a) ∧ (a, pairObj p t1 t2) ∈ tl
theorem Holds.append {tl tl' : List (Addr × Obj)} {ys zs : List Value} {ps qs : List (Str × Str)} (x : Holds tl ys ps) (y : Holds tl' zs qs) : Holds (tl ++ tl') (ys ++ zs) (ps ++ qs) := by
  refine ⟨by rw [List.length_append, List.length_append, x.1, y.1], fun j q hq => ?_⟩
  by_cases hj : j < ps.length
  · rw [List.getElem?_append_left hj] at hq
    obtain ⟨b, s1, s2, e1, e2⟩ := x.2 j q hq
    exact ⟨b, s1, s2, by rw [List.getElem?_append_left (by rw [x.1]; exact hj)]; exact e1, List.mem_append_left _ e2⟩
  · rw [List.getElem?_append_right (by omega)] at hq
    obtain ⟨b, s1, s2, e1, e2⟩ := y.2 _ q hq
    exact ⟨b, s1, s2, by rw [List.getElem?_append_right (by rw [x.1]; omega), x.1]; exact e1, List.mem_append_right _ e2⟩
theorem Holds.at {α : Type} {tl : List (Addr × Obj)} {ys : List Value} {f : α → Str × Str} {xs : List α} (h : Holds tl ys (xs.map f)) {i : Nat} {v : Value} (e : ys.toArray[i]? = some v) :
    ∃ (x : α) (y1 y2 : Str) (a : Addr) (t1 t2 : Tok), xs[i]? = some x ∧ y1 = (f x).1 ∧ y2 = (f x).2 ∧ v = .ref a ∧ (a, pairObj (y1, y2) t1 t2) ∈ tl := by
  have hi : i < xs.length := by
    have h1 := h.1
    have h2 := (Array.getElem?_eq_some_iff.mp e).1
    simp at h1 h2
    omega
  obtain ⟨a, t1, t2, e1, e2⟩ := h.2 i (f xs[i]) (by simp [hi])
  rw [List.getElem?_toArray, e1] at e
  exact ⟨xs[i], _, _, a, t1, t2, by simp [hi], rfl, rfl, (Option.some.inj e).symm, e2⟩
section
variable {w : World} {M : Model} {A : Around} {E : Value → Shared → Prop} {s : Shared} {g : Heap} {L : Addr} {m : Str → Option Value} {news : List (Addr × Obj)}
theorem add_K {prog : Program} {l b : Addr} {vs ws : List Value} {n n2 : Nat} {Q : Value → Shared → Prop} (F : Fr g L s.heap m) (N : News g L s.heap news) (hl : (l, listOf vs.toArray n) ∈ news) (hb : (b, listOf ws.toArray n2) ∈ news)
    (hsz : vs.length + ws.length ≤ 1000)
    (h : ∀ D h', Fr g L h' m → News g L h' ((D, listOf (vs ++ ws).toArray 0) :: news) → (∀ p ∈ news, p.1 < D) → L < D → Q (.ref D) { heap := h', gens := s.gens, drawn := s.drawn, toks := s.toks, os := s.os }) :
    wpAny (model prog w) A (binaryOp .Add (.ref l) (.ref b)) Q E s :=
  add_lists F N (N.isList hl) (N.isList hb) (fun h' F' N' => h _ h' F' N' (fun p hp => Heap.lt_size (N p hp).1) F.ns.lt) (Nat.le_trans hsz (by decide))
theorem test_one {c : Expr} {env : Env} {Q : Bool → Shared → Prop} (h : wpAny M A (isTrue c env (eval c env)) Q E s) :
    wpAny M A (forIn [c] true fun c r => if r = true then do let ok ← isTrue c env (eval c env); pure (ForInStep.yield ok) else pure (ForInStep.yield r)) Q E s := by
  refine wpAny_bind ?_
  show wpAny M A (do let ok ← isTrue c env (eval c env); pure (ForInStep.yield ok)) _ E s
  refine wpAny_bind (wpAny_mono h (fun b s' h' => wpAny_pure ?_) fun _ _ e => e)
  exact wpAny_pure h'
/-- an if without else, at the head of a block: both roads meet -/
theorem if_join {test : Expr} {body rest : List Stmt} {pos : Pos} {env : Env} {Q : Flow → Shared → Prop} (Mid : Shared → Prop)
    (h1 : wpAny M A (isTrue test env (eval test env)) (fun b s₂ => if b = true then wpAny M A (execs body env) (fun f s' => f = .next ∧ Mid s') E s₂ else Mid s₂) E s)
    (h2 : ∀ s', Mid s' → wpAny M A (execs rest env) Q E s') : wpAny M A (execs (.If test body [] pos :: rest) env) Q E s := by
  refine wpAny_execs_cons (wpAny_If (wpAny_mono h1 (fun b s₂ h => ?_) fun _ _ e => e))
  cases b with
  | true =>
    refine wpAny_mono h (fun f s' h' => ?_) fun _ _ e => e
    obtain ⟨rfl, h'⟩ := h'
    exact h2 s' h'
  | false => exact wpAny_execs_nil (h2 _ h)
end
theorem allLt_mem {d : Addr} : ∀ {l : List (Addr × Obj)}, AllLt d l → ∀ p ∈ l, p.1 < d
  | [], _, _, h => nomatch h
  | q :: r, x, p, h => by
    rcases List.mem_cons.mp h with rfl | h
    · exact x.1
    · exact allLt_mem x.2 p h
theorem wall_size (k : Int) (l : List Nat) (hl : l.length ≤ 4) : (wall k l).length ≤ 200 := by
  have := alpha_len l
  have e3 : words3.length = 11 := by decide
  unfold wall words
  rw [List.length_append, List.length_map]
  split
  · rw [e3]; omega
  · simp; omega
section
local macro_rules | `(tactic| walk_at "exec Assign cons ListComp") => `(tactic| (k_here; k_dflt (refine' LC_assign ?hsw ?hclos ?hkind ?hnames ?hs ?_; (case hclos => with_unfolding_all rfl); (case hsw => with_unfolding_all rfl); (case hkind => rfl); (case hnames => decide); (case hs => intro _; with_unfolding_all rfl))))
local macro_rules | `(tactic| walk_at "eval ListComp") => `(tactic| (k_here; k_dflt (refine' LC_eval ?hclos ?hkind ?hnames ?hs ?_; (case hclos => with_unfolding_all rfl); (case hkind => rfl); (case hnames => decide); (case hs => intro _; with_unfolding_all rfl))))
local macro_rules | `(tactic| walk_at "pyIter ref") => `(tactic| ((with_reducible show wpAny _ _ (pyIter _) (fun it s₂ => LCPost _ _ _ _ _ _ _ _ _ _ _ _ _ _ it s₂) _ _); fail "mine"))
local macro_rules | `(tactic| walk_at "eval Name") => `(tactic| (k_here; k_dflt (first
  | (refine' nameE_L ?F ?L ?v ?_ ?a ?b ?d; (case F => assumption); (case L => rfl); (case a => rfl); (case b => rfl); (case d => decide); (case v => first | assumption | rfl); k_whole)
  | (refine' nameE_F ?N ?c ?m ?dd ?_ ?a ?b ?d ?e; (case a => rfl); (case b => rfl); (case c => rfl); (case d => decide); (case e => decide); (case N => assumption); (case m => k_mem); (case dd => first | assumption | k_asm); k_whole)
  | (refine' nameE_C ?N ?c ?m ?dd ?_ ?a ?b ?d; (case a => rfl); (case b => rfl); (case c => rfl); (case d => decide); (case N => assumption); (case m => k_mem); (case dd => first | assumption | k_asm); k_whole)
  | (refine' nameE_K ?F ?X ?T ?G ?e ?_ ?a ?b ?d; (case F => assumption); (case X => assumption); (case T => assumption); (case G => rfl); (case a => rfl); (case b => rfl); (case d => decide); (case e => k_is); k_whole)
  | (refine' nameE_B ?F ?X ?T ?G ?B ?e ?v ?n ?_ ?a ?b ?d; (case F => assumption); (case X => assumption); (case T => assumption); (case G => rfl); (case B => rfl); (case a => rfl); (case b => rfl); (case d => decide); (case e => k_is); (case v => boot_fast); (case n => decide); k_whole))))
local macro_rules | `(tactic| walk_at "newTuple") => `(tactic| (k_here; k_dflt (refine' newTup ?F ?N ?_ ?z; (case F => k_asm); (case N => k_asm); (case z => kmk_size)); intro D' h' F' N' l1 lL; (try k_lt l1); (try k_sweep)))
local macro_rules | `(tactic| walk_at "assign Tuple") => `(tactic| (k_here; k_dflt (refine' unpackN_ ?F ?N ?T ?k1 ?k2 ?k3 ?_; (case F => k_asm); (case N => k_asm); (case T => with_reducible assumption); (case k1 => assumption); (case k2 => exact rfl); (case k3 => exact rfl)); intro h' F' N'; (try k_sweep)))
local macro_rules | `(tactic| walk_at "exec For") => `(tactic| (k_here; k_dflt (refine' For_run ?hs ?_; (case hs => intro _; with_unfolding_all rfl))))
local macro_rules | `(tactic| walk_at "exec For Name Call cons nil") => `(tactic| (k_here; k_dflt (refine' For_run ?hs ?_; (case hs => intro _; with_unfolding_all rfl))))
local macro_rules | `(tactic| walk_at "exec For Tuple Name cons nil") => `(tactic| (k_here; k_dflt (refine' For_run ?hs ?_; (case hs => intro _; with_unfolding_all rfl))))
local macro_rules | `(tactic| walk_at "pyIter ref") => `(tactic| ((with_reducible show wpAny _ _ (pyIter _) (fun it s₂ => ForPost _ _ _ _ _ _ _ it s₂) _ _); fail "mine"))
local macro_rules | `(tactic| walk_at "loadName") => `(tactic| (k_here; k_dflt (refine' loadN_L ?F ?L ?v ?_ ?a ?b; (case F => assumption); (case L => rfl); (case a => rfl); (case b => rfl); (case v => first | assumption | rfl); k_whole)))
local macro_rules | `(tactic| walk_at "exec While") => `(tactic| (k_here; k_dflt (refine' While_run ?_)))
local macro_rules | `(tactic| walk_at "exec While Compare") => `(tactic| (k_here; k_dflt (refine' While_run ?_)))
local macro_rules | `(tactic| walk_at "exec While BoolOp") => `(tactic| (k_here; k_dflt (refine' While_run ?_)))
local macro_rules | `(tactic| walk_at "compareOp In str ref") => `(tactic| (k_here; k_dflt (refine' kda_in (knd := PySem.strKind _ _) ?N ?m ?d ?lo (strKind_is _ _ _ _) _ ?hb ?_; (case N => assumption); (case m => k_mem); (case d => assumption); (case lo => assumption); (case hb => assumption))))
local macro_rules | `(tactic| walk_at "compareOp NotIn str ref") => `(tactic| (k_here; k_dflt (refine' kdg_notin (knd := PySem.strKind _ _) ?N ?m ?d ?lo (strKind_is _ _ _ _) _ ?hb ?_; (case N => assumption); (case m => k_mem); (case d => assumption); (case lo => assumption); (case hb => assumption))))
local macro_rules | `(tactic| walk_at "subscriptTail") => `(tactic| (k_here; (with_reducible show wpAny _ _ (subscriptTail _ _ (Value.ref _) (Value.str _ _)) _ _ _); k_dflt (refine' kda_item (knd := PySem.strKind _ _) ?N ?m ?d (strKind_is _ _ _ _) ?hl ?_; (case N => assumption); (case m => k_mem); (case d => assumption); (case hl => assumption))))
local macro_rules | `(tactic| walk_at "setItem ref str") => `(tactic| (k_here; k_dflt (refine' kda_set (knd := PySem.strKind _ _) ?F ?N ?U ?d (strKind_is _ _ _ _) ?z ?_; (case F => assumption); (case N => assumption); (case U => (refine UpdF.tail ?_ (UpdF.head ?_) <;> assumption)); (case d => assumption); (case z => assumption)); intro h' o' F' N' hd'; (try dsimp only at N')))
local macro_rules | `(tactic| walk_at "subscriptTail") => `(tactic| (k_here; (with_reducible show wpAny _ _ (subscriptTail _ _ (Value.ref _) (Value.int _ _)) _ _ _); k_dflt (refine' my_item ?l ?h0 ?hh ?hx ?_ ?hs; (case l => exact News.isList (by assumption) (by k_mem)); (case h0 => omega); (case hh => omega); (case hx => assumption); (case hs => with_unfolding_all rfl))))
local macro_rules | `(tactic| walk_at "getItem ref int") => `(tactic| (k_here; k_dflt (refine' wpAny_getItem_list ?l ?h0 ?hh ?hx ?_; (case l => exact News.isList (by assumption) (by k_mem)); (case h0 => omega); (case hh => omega); (case hx => assumption))))
theorem cut_fn {w : World} {mg mb : Str → Option Value} {bm : Addr} {ob : Obj} (k : Int) (tkk : Tok) (v : Str) (t : Tok) (l : List Nat) (hk : 0 ≤ k ∧ k ≤ 3) (hv : v = mkS l) (h1 : 1 ≤ l.length) (hl : l.length ≤ 4) :
    Fn w mg mb bm ob 80 67 [.int k tkk, .str v t] (fun _ => True) (fun t => .bool true) := by
  intro A s Q E hA hD hU I G hp hR
  have X := I.K
  have T := I.T
  have KE := Kp.refl s.heap
  have I₀ := I
  have hvl : v.length ≤ 4 := by rw [hv, len_mkS]; exact hl
  have hvl1 : 1 ≤ v.length := by rw [hv, len_mkS]; exact h1
  have hfill9 : PySem.Challenge.rw_qv0001_01.prog = PySem.Challenge.rw_qv0001_01.prog ∧ (∀ P, _root_.Mine.hd.heap_39 P = _root_.Mine.hd.heap_39 P) := by
    k_fill
    exact ⟨rfl, fun _ => rfl⟩
  clear hfill9
  k_dflt (refine' enterC (args := ⟨[.int k tkk, .str v t], []⟩) (binds := [(Str.ofString "kind", .int k tkk), (Str.ofString "value", .str v t)]) X T.nolimit ?ho ?hcd ?hroom ?hbind ?hkind ?hnd ?_ ?hco ?hgen ?hk; (case ho => k_is); (case hcd => k_is); (case hroom => (simp only [recursionLimit]; omega)); (case hbind => rfl); (case hkind => rfl); (case hnd => decide +kernel); (case hco => rfl); (case hgen => rfl); (case hk => rfl))
  intro h₁ tk₁ cells₁ F N Y
  k_cells Y
  (try simp only [List.cons_append, List.nil_append] at N)
  (try dsimp only)
  (try k_unmd)
  k_fold
  rename_i oc1 dc1
  have dc1 : oc1.data = .cell (some (.int k tkk)) := dc1
  k_steps
  rename IsRange _ _ _ _ _ _ _ _ => hr
  rename Fr _ _ _ _ => F
  rename News _ _ _ _ => N
  refine it_range (n := 128) hA I F N hr (by decide) (by decide) fun Ia h₂ K => ?_
  refine' LCnone K (by decide) ?hcell ?hkind ?hx I KE G (fun i ys h => StrsAre ys ((List.range i).map fun j => mkS [j])) (fun _ => true) ?hJ0 ?hJ ?hend
  case hcell => decide
  case hkind => rfl
  case hx => rfl
  case hJ0 => exact .nil
  case hJ =>
    refine ⟨fun _ _ _ _ h _ => h, fun i v u m₂ g' C E' _ _ _ _ _ _ _ => wpAny_pure ⟨rfl, _, rfl⟩, ?_, fun _ _ _ h => by cases h⟩
    clear F N K hr KE G X T hR
    intro i v' ys u m₂ g' C E' hi hP hpz hj F N I' KE' G' hm hLC hsz
    obtain ⟨ti, rfl⟩ := hP
    have X := I'.K
    have T := I'.T
    have KE := Kp.refl g'
    have F₀ : KA g' u.heap := F.keep
    have hab := F.above
    replace N := news_rest N
    clear KE'
    (try simp only [List.cons_append, List.nil_append] at N)
    (try clear_value qk ek)
    k_unmd
    k_fold
    k_steps
    refine' EltEnd.intro F₀ ?e1 ?e2 ?e3 ?e4 ?e5 ?e6 ?e7
    case e1 => assumption
    case e2 => assumption
    case e3 => (intro p hp; (repeat (first | exact hp | apply List.mem_cons_of_mem | apply List.mem_append_right)))
    case e4 => assumption
    case e5 => assumption
    case e6 => assumption
    case e7 =>
      exact strs_next (fun j => mkS [j]) hj (by rw [show (0 + (i : Int) * 1).toNat = i by omega]; rfl)
  case hend =>
  clear F N K hr KE G X T I
  intro D1 ys1 nn1 h' gs dr tk' g' I F N KE G lt1 hLD1 hys1 _ hj1
  have X := I.K
  have T := I.T
  try k_lt lt1
  k_unmd
  k_steps
  rename Fr _ _ _ _ => F
  rename News _ _ _ _ => N
  refine it_str hA I F N fun Ia h₂ St K => ?_
  refine' LCnone K (Nat.le_trans hvl (by decide)) ?hcell ?hkind ?hx I KE G (fun i ys h => StrsAre ys (((l.take i).filter fun c => decide (127 < c)).map fun c => mkS [c])) (fun i => decide (127 < l.getD i 0)) ?hJ0 ?hJ ?hend
  case hcell => decide
  case hkind => rfl
  case hx => rfl
  case hJ0 => exact .nil
  case hJ =>
    refine ⟨fun _ _ _ _ h _ => h, ?_, ?_, ?_⟩
    · clear F N K KE G X T hR
      intro i v' u m₂ g' C E' hi hP F N I' hm hLC
      obtain ⟨c, ti, hc, rfl⟩ := hP
      have X := I'.K
      have T := I'.T
      k_unmd
      refine test_one ?_
      k_fold
      k_steps
      have hlc : l[i]? = some c := by rw [hv] at hc; simpa [mkS] using hc
      rw [decide_eq_decide, List.getD_eq_getElem?_getD, hlc, c127]
      rfl
    · clear F N K KE G X T hR
      intro i v' ys u m₂ g' C E' hi hP hpz hj F N I' KE' G' hm hLC hsz
      obtain ⟨c, ti, hc, rfl⟩ := hP
      have X := I'.K
      have T := I'.T
      have KE := Kp.refl g'
      have F₀ : KA g' u.heap := F.keep
      have hab := F.above
      replace N := news_rest N
      clear KE'
      (try simp only [List.cons_append, List.nil_append] at N)
      (try clear_value qk ek)
      k_unmd
      k_fold
      k_steps
      have hlc : l[i]? = some c := by rw [hv] at hc; simpa [mkS] using hc
      refine' EltEnd.intro F₀ ?e1 ?e2 ?e3 ?e4 ?e5 ?e6 ?e7
      case e1 => assumption
      case e2 => assumption
      case e3 => (intro p hp; (repeat (first | exact hp | apply List.mem_cons_of_mem | apply List.mem_append_right)))
      case e4 => assumption
      case e5 => assumption
      case e6 => assumption
      case e7 =>
        (have hg : 127 < c := by (have := of_decide_eq_true hpz; simpa [List.getD_eq_getElem?_getD, hlc] using this)); simp only [List.take_add_one, hlc, Option.toList_some, List.filter_append, List.map_append]; rw [List.filter_cons_of_pos (by simpa using hg)]; exact KStt.strs_snoc hj
    · intro i ys h hz hj
      have hz := of_decide_eq_false hz
      cases hlc : l[i]? with
      | none => simpa only [List.take_add_one, hlc, Option.toList_none, List.append_nil] using hj
      | some c =>
        rw [List.getD_eq_getElem?_getD, hlc] at hz
        simp only [List.take_add_one, hlc, Option.toList_some, List.filter_append, List.map_append]
        rw [List.filter_cons_of_neg (by simpa using hz)]
        simpa using hj
  case hend =>
  clear F N K KE G X T I
  intro D2 ys2 nn2 h' gs dr tk' g' I F N KE G lt2 hLD2 hys2 _ hj2
  have X := I.K
  have T := I.T
  try k_lt lt2
  k_unmd
  k_steps
  rename Fr _ _ _ _ => F
  rename News _ _ _ _ => N
  have hS : StrsAre (ys1 ++ ys2) ((alpha l).map fun c => mkS [c]) := by
    have e : v.cps.size = l.length := by rw [hv]; simp [mkS]
    rw [e, List.take_length] at hj2
    unfold alpha
    rw [List.map_append]
    exact hj1.append' hj2
  have hSl : (ys1 ++ ys2).length = (alpha l).length := by have := StrsAre.length hS; simpa using this
  have hal := alpha_len l
  refine' add_K F N (by k_mem) (by k_mem) (by rw [← List.length_append]; omega) ?_
  clear F N
  intro D3 h3 F N lt3 hLD3
  k_lt lt3
  k_unmd
  k_steps
  refine it_list hA I F N (News.isList N (a := D3) (by k_mem)) fun Ia h₂ K => ?_
  refine' LCstore K ?hsz ?hcell ?hkind ?hx I KE G ?hL ?hy ?hp (fun i ys h => Tups (h₂.objs.size + 1) h ys ((((alpha l).take i).map fun c => (writeL (k % 3) [c], c)).map wpair)) (fun _ => true) ?hJ0 ?hJ ?hend
  case hsz => exact Nat.le_trans (m := 140) (by rw [List.size_toArray]; omega) (by decide)
  case hcell => decide
  case hkind => rfl
  case hx => rfl
  case hL => rfl
  case hy => rfl
  case hp => rfl
  case hJ0 => exact .nil
  case hJ =>
    refine ⟨fun _ _ _ _ hj hk => hj.at hk, fun i v u m₂ g' C E' _ _ _ _ _ _ _ => wpAny_pure ⟨rfl, _, rfl⟩, ?_, fun _ _ _ h => by cases h⟩
    clear F N K KE G X T hR
    intro i v' ys u m₂ g' C E' hi hP hpz hj F N I' KE' G' hm hLC hsz
    obtain ⟨x, y, ti, hx, hy, rfl⟩ := strs_atF hS hP
    have X := I'.K
    have T := I'.T
    have KE := Kp.refl g'
    have F₀ : KA g' u.heap := F.keep
    have hab := F.above
    replace N := news_rest N
    clear KE'
    (try simp only [List.cons_append, List.nil_append] at N)
    (try clear_value qk ek)
    k_unmd
    k_fold
    k_steps
    rename Fr _ _ _ _ => F
    rename News _ _ _ _ => N
    have I := I'
    have G := G'
    clear I' G'
    have hkm : k.fmod 3 = k % 3 := Int.fmod_eq_emod_of_nonneg k (by decide)
    refine' Fn.use (write_fn (k.fmod 3) _ y ti [x] ?hw0 hy ?hw1 ?hw2) ?hA ?hd ?hu ?I ?F ?N ?KE ?G ?hp ?_
    case hA => assumption
    case hd => ((try simp only [depth_deeper, Around.in1_depth]); omega)
    case hu => ((try simp only [Around.deeper_units, Around.in1_units]); omega)
    case F => assumption
    case I => assumption
    case N => assumption
    case KE => assumption
    case G => assumption
    case hp => first | trivial | exact News.isList N (by k_mem)
    (case hw0 => (rw [hkm]; omega)); (case hw1 => (intro e3; exact Nat.le_refl 1)); (case hw2 => exact Nat.le_of_ble_eq_true rfl)
    clear I F N KE G X T
    intro g' h' gs dr tk9 t9 I F N KE G kg
    have X := I.K
    have T := I.T
    (try dsimp only)
    (try k_unmd)
    k_steps
    rename Fr _ _ _ _ => F
    rename News _ _ _ _ => N
    rename C < _ => lCD
    refine' EltEnd.intro F₀ ?e1 ?e2 ?e3 ?e4 ?e5 ?e6 ?e7
    case e1 => assumption
    case e2 => assumption
    case e3 => (intro p hp; (repeat (first | exact hp | apply List.mem_cons_of_mem | apply List.mem_append_right)))
    case e4 => assumption
    case e5 => assumption
    case e6 => assumption
    case e7 =>
      (subst hy; simp only [List.take_add_one, hx, Option.toList_some, List.map_append, List.map_cons, List.map_nil]; rw [hkm] at N; exact (hj.at fun b o hb e => keep_rest (by intro p hp; (repeat (first | exact hp | apply List.mem_cons_of_mem | apply List.mem_append_right))) N hab b o (by rw [hsz.2]; exact hb) e).snoc (hsz.2 ▸ lCD) (N.get (by k_mem)))
  case hend =>
  clear F N K KE G X T I
  intro D4 ys4 nn4 h' gs dr tk' g' I F N KE G lt4 hLD4 hys4 hD4 hj4
  have X := I.K
  have T := I.T
  try k_lt lt4
  rw [List.take_of_length_le (by rw [List.size_toArray]; omega)] at hj4
  obtain ⟨tl4, N, htl4, hmem4⟩ := hj4.ledger F N (Nat.lt_succ_of_lt (hD4 ▸ hLD4))
  have hq4 : ∀ p ∈ tl4, D4 < p.1 := fun p hp => Nat.lt_of_succ_lt (hD4 ▸ htl4 p hp)
  have H4 : Holds tl4 ys4 ((words k l).map wpair) := ⟨hj4.1, hmem4⟩
  simp only [List.cons_append, List.nil_append] at N
  clear hj4 hmem4
  k_unmd
  refine' if_join (TurnEnd w mg mb bm ob s.heap s.heap.objs.size (D1, listOf ys1.toArray nn1) s.os fun m ne => m (Str.ofString "value") = some (.str v t) ∧ m (Str.ofString "words") = some (.ref D4) ∧
    ∃ nn tl ys, ne = [(D4, listOf ys.toArray nn), (s.heap.objs.size + 1, oc1)] ++ tl ∧ Holds tl ys ((wall k l).map wpair)) ?_ ?_
  ·
    k_fold
    k_steps
    · rename Fr _ _ _ _ => F
      rename News _ _ _ _ => N
      have hk3 : k = 3 := by assumption
      refine it_str hA I F N fun Ia h₂ St K => ?_
      refine' LCnone K ?hsz3 ?hcell3 ?hkind3 ?hx3 I KE G (fun i ys h => Tups (h₂.objs.size + 1) h ys (((digs.take i).map fun c => (identL [c], c)).map wpair)) (fun _ => true) ?hJ03 ?hJ3 ?hend3
      case hsz3 => decide
      case hcell3 => decide
      case hkind3 => rfl
      case hx3 => rfl
      case hJ03 => exact .nil
      case hJ3 =>
        refine ⟨fun _ _ _ _ hj hk => hj.at hk, fun i v u m₂ g' C E' _ _ _ _ _ _ _ => wpAny_pure ⟨rfl, _, rfl⟩, ?_, fun _ _ _ h => by cases h⟩
        clear F N K KE G X T hR I
        intro i v' ys u m₂ g' C E' hi hP hpz hj F N I' KE' G' hm hLC hsz
        obtain ⟨x, ti, hx, rfl⟩ := hP
        have X := I'.K
        have T := I'.T
        have KE := Kp.refl g'
        have F₀ : KA g' u.heap := F.keep
        have hab := F.above
        replace N := news_rest N
        clear KE'
        (try simp only [List.cons_append, List.nil_append] at N)
        (try clear_value qk ek)
        k_unmd
        k_fold
        k_steps
        rename Fr _ _ _ _ => F
        rename News _ _ _ _ => N
        have I := I'
        have G := G'
        clear I' G'
        rw [lit_digs] at hx
        replace hx : digs[i]? = some x := by simpa [mkS] using hx
        refine' Fn.use (ident_fnM _ ti [x] rfl (Nat.le_refl 1) (Nat.le_of_ble_eq_true rfl)) ?hA ?hd ?hu ?I ?F ?N ?KE ?G ?hp ?_
        case hA => assumption
        case hd => ((try simp only [depth_deeper, Around.in1_depth]); omega)
        case hu => ((try simp only [Around.deeper_units, Around.in1_units]); omega)
        case F => assumption
        case I => assumption
        case N => assumption
        case KE => assumption
        case G => assumption
        case hp => first | trivial | exact News.isList N (by k_mem)
        skip
        clear I F N KE G X T
        intro g' h' gs dr tk9 t9 I F N KE G kg
        have X := I.K
        have T := I.T
        (try dsimp only)
        (try k_unmd)
        k_steps
        rename Fr _ _ _ _ => F
        rename News _ _ _ _ => N
        rename C < _ => lCD
        refine' EltEnd.intro F₀ ?e1 ?e2 ?e3 ?e4 ?e5 ?e6 ?e7
        case e1 => assumption
        case e2 => assumption
        case e3 => (intro p hp; (repeat (first | exact hp | apply List.mem_cons_of_mem | apply List.mem_append_right)))
        case e4 => assumption
        case e5 => assumption
        case e6 => assumption
        case e7 =>
          (simp only [List.take_add_one, hx, Option.toList_some, List.map_append, List.map_cons, List.map_nil]; exact (hj.at fun b o hb e => keep_rest (by intro p hp; (repeat (first | exact hp | apply List.mem_cons_of_mem | apply List.mem_append_right))) N hab b o (by rw [hsz.2]; exact hb) e).snoc (hsz.2 ▸ lCD) (N.get (by k_mem)))
      case hend3 =>
        clear F N K KE G X T I
        intro D5 ys5 nn5 h' gs dr tk' g' I F N KE G lt5 hLD5 hys5 hD5 hj5
        have X := I.K
        have T := I.T
        k_lt lt5
        rw [List.take_of_length_le (by decide)] at hj5
        obtain ⟨tl5, N, htl5, hmem5⟩ := hj5.ledger F N (Nat.lt_succ_of_lt (hD5 ▸ hLD5))
        have hq5 : ∀ p ∈ tl5, D5 < p.1 := fun p hp => Nat.lt_of_succ_lt (hD5 ▸ htl5 p hp)
        have H5 : Holds tl5 ys5 (words3.map wpair) := ⟨hj5.1, hmem5⟩
        simp only [List.cons_append, List.nil_append] at N
        clear hj5 hmem5
        k_unmd
        k_steps
        rename Fr _ _ _ _ => F
        rename News _ _ _ _ => N
        refine' iadd_K (a := ys4) (b' := ys5) F N (by k_mem) ?U5 ?hne5 ?hz5 ?_
        case U5 =>
          refine Upd.tail ?_ (Upd.head ?_)
          · k_ne
          · intro p hp
            simp only [List.mem_cons, List.mem_append] at hp
            rcases hp with rfl | rfl | rfl | rfl | hp | hp
            · k_ne
            · k_ne
            · k_ne
            · k_ne
            · exact Nat.ne_of_gt (hq4 p hp)
            · exact Nat.ne_of_gt (Nat.lt_trans lt5.1 (hq5 p hp))
        case hne5 => rw [H5.1]; decide
        case hz5 =>
          have e1 := H4.1
          have e2 := H5.1
          rw [List.length_map] at e1 e2
          have e3 : words3.length = 11 := by decide
          have e4 : (words k l).length = (alpha l).length := by unfold words; rw [List.length_map]
          omega
        clear F N
        intro h5 F N
        k_steps
        rename Fr _ _ _ _ => F
        rename News _ _ _ _ => N
        refine TurnEnd.intro (news := [(D4, listOf (ys4 ++ ys5).toArray (nn4 + 1)), (s.heap.objs.size + 1, oc1)] ++ (tl4 ++ tl5)) I F (N.perm ?_) KE G ⟨rfl, rfl, _, _, _, rfl, ?_⟩
        · intro p hp
          simp only [List.mem_cons, List.mem_append, List.not_mem_nil, or_false, false_or] at hp ⊢
          grind
        · unfold wall
          rw [if_pos hk3, List.map_append]
          exact H4.append H5
    · rename Fr _ _ _ _ => F
      rename News _ _ _ _ => N
      refine TurnEnd.intro (news := [(D4, listOf ys4.toArray nn4), (s.heap.objs.size + 1, oc1)] ++ tl4) I F (N.perm ?_) KE G ⟨rfl, rfl, _, _, _, rfl, ?_⟩
      · intro p hp
        simp only [List.mem_cons, List.mem_append, List.not_mem_nil, or_false, false_or] at hp ⊢
        grind
      · unfold wall
        rw [if_neg (by assumption), List.append_nil]
        exact H4
  · clear F N KE G X T I
    rintro ⟨h', gs, dr, tk, os'⟩ ⟨g', m', ne, I, F, N, KE, G, hos, hmv, hmw, nn, tl, ys, rfl, H⟩
    dsimp only at hos F N G
    subst hos
    simp only [List.cons_append, List.nil_append] at N
    have X := I.K
    have T := I.T
    k_unmd
    k_steps
    rename Fr _ _ _ _ => F
    rename News _ _ _ _ => N
    rename Obj.IsDictOf (PySem.strKind _ _) _ [] => hbk
    rename (_ == sysModules) = false => loB
    rename (_ ∧ _ ∧ _ ∧ AllLt _ _) => lB
    rename_i B hB0 ob0 fs0 hi0 fi0 hB1
    have hwl : (wall k l).length ≤ 200 := wall_size k l hl
    have hyl : ys.length = (wall k l).length := by have := H.1; rw [List.length_map] at this; exact this
    have hNB : ∀ p ∈ ((D1, listOf ys1.toArray nn1) :: (D4, listOf ys.toArray nn) :: (s.heap.objs.size + 1, oc1) :: tl : List (Addr × Obj)), p.1 ≠ B := by
      intro p hp
      have hal := allLt_mem lB.2.2.2
      simp only [List.mem_cons] at hp
      rcases hp with rfl | rfl | rfl | hp
      · exact Nat.ne_of_lt lB.1
      · exact Nat.ne_of_lt lB.2.1
      · exact Nat.ne_of_lt lB.2.2.1
      · exact Nat.ne_of_lt (hal p hp)
    clear fs0 hi0 fi0
    refine it_list hA I F N (News.isList N (a := D4) (by k_mem)) fun Ia h₄ K => ?_
    refine' for_block K I KE G ?hliveB (fun i m ne => ∃ ob kvs, ne = (B, ob) :: (D1, listOf ys1.toArray nn1) :: (D4, listOf ys.toArray nn) :: (s.heap.objs.size + 1, oc1) :: tl ∧ ob.IsDictOf (PySem.strKind pr w) kvs ∧ BookIs kvs ((wall k l).take i) ∧ m (Str.ofString "value") = some (.str v t) ∧ m (Str.ofString "book") = some (.ref B)) ?hJ0B ?hfixB ?hoffB ?hownB ?turnB ?doneB
    case hliveB => (intro i h hst; obtain ⟨o, e, _⟩ := hst.1; exact ⟨o, e⟩)
    case hJ0B => exact ⟨ob0, [], rfl, hbk, BookIs.nil, hmv, rfl⟩
    case hfixB =>
      intro b hb
      rcases List.mem_cons.mp hb with h | h
      · exact .inl h
      · refine' .inr ⟨_, fun i m ne hj => ?mmB⟩
        case mmB =>
          obtain ⟨ob, kvs, hne, _⟩ := hj
          rw [List.mem_singleton.mp h, hne]
          k_mem
    case hoffB =>
      rintro i m ne ⟨ob, kvs, hne, _⟩ p hp
      rw [hne] at hp
      rcases List.mem_cons.mp hp with rfl | hp
      · exact K.NI (B, ob0) (List.mem_cons_self ..)
      · exact K.NI p (List.mem_cons_of_mem _ hp)
    case hownB => exact fun v s E' Q' hi h => own_tuple (l := D4) (R := fun h => h.IsList D4 ys.toArray) v s E' Q' hi h
    case turnB =>
      clear F N K KE G X T I
      intro i v' m2 ne2 oI g' h gs dr tk E' hi hP hJ I F N KE G hnI hLI
      obtain ⟨ob, kvs, hne, hbd, hbi, hmv2, hmb2⟩ := hJ
      have hIB : Ia ≠ B := fun e => hnI (B, ob) (by rw [hne]; exact List.mem_cons_self ..) e.symm
      rw [hne] at N
      obtain ⟨x, y1, y2, a, t1, t2, hx, hy1, hy2, rfl, htm⟩ := H.at hP
      have ht : IsTup h a #[.str y1 t1, .str y2 t2] := ⟨_, N.get (by (repeat (first | exact htm | apply List.mem_cons_of_mem))), rfl, _, rfl⟩
      have hxm := List.mem_of_getElem? hx
      have hkl : kvs.length ≤ sizeLine := Nat.le_trans hbi.len (Nat.le_trans (List.length_take_le' ..) (Nat.le_trans hwl (by decide)))
      have hy1 : y1 = mkS x.1 := hy1
      have hy2 : y2 = mkS [x.2] := hy2
      have hst : ∀ (o' : Obj) (u : Tok), o'.IsDictOf (PySem.strKind pr w) (stored kvs y1 (.str y2 u)) → ∃ kvs', o'.IsDictOf (PySem.strKind pr w) kvs' ∧ BookIs kvs' ((wall k l).take (i + 1)) := fun o' u ho => by
        refine ⟨_, ho, ?_⟩
        rw [hy1, hy2, List.take_add_one, hx]
        exact hbi.store x u
      have X := I.K
      have T := I.T
      cases hlook : valueAt kvs y1 with
      | none =>
        have hsome : (valueAt kvs y1).isSome = false := by rw [hlook]; rfl
        k_unmd
        k_fold
        k_steps
        rename Fr _ _ _ _ => F
        rename News _ _ _ _ => N
        rename Obj.IsDictOf _ _ (stored _ _ _) => hd9
        obtain ⟨kvs', hd8, hb8⟩ := hst _ _ hd9
        exact TurnEnd.intro I F N KE G ⟨_, kvs', rfl, hd8, hb8, hmv2, hmb2⟩
      | some vv =>
        have hsome : (valueAt kvs y1).isSome = true := by rw [hlook]; rfl
        obtain ⟨t3, e3⟩ := hbi.value hk (fun p hp => List.mem_of_mem_take hp) hxm (hy1 ▸ hlook)
        rw [← hy2] at e3
        subst e3
        k_unmd
        k_fold
        k_steps
        all_goals first
          | (exfalso; simp_all; done)
          | (rename Fr _ _ _ _ => F; rename News _ _ _ _ => N; rename Obj.IsDictOf _ _ (stored _ _ _) => hd9; obtain ⟨kvs', hd8, hb8⟩ := hst _ _ hd9; exact TurnEnd.intro I F N KE G ⟨_, kvs', rfl, hd8, hb8, hmv2, hmb2⟩)
          | trace_state
    case doneB =>
      clear F N K KE G X T I
      intro m2 ne2 g' h gs dr tk hJ I F N KE G
      obtain ⟨ob, kvs, hne, hbd, hbi, hmv2, hmb2⟩ := hJ
      rw [List.take_of_length_le (by rw [List.size_toArray]; omega)] at hbi
      rw [hne] at N
      replace N : News g' s.heap.objs.size h [(B, ob), (s.heap.objs.size + 1, oc1)] := N.perm (by intro p hp; simp only [List.mem_cons, List.not_mem_nil, or_false] at hp ⊢; rcases hp with rfl | rfl <;> simp)
      have hBc : @LT.lt Nat _ (s.heap.objs.size + 1) B := lB.2.2.1
      clear lB hNB H H4 hq4 htl4 hS hj1 hj2
      have X := I.K
      have T := I.T
      k_unmd
      k_steps
      refine' Fn.use (write_fn k tkk v t l hk hv ?hw1 ?hw2) ?hA ?hd ?hu ?I ?F ?N ?KE ?G ?hp ?_
      case hA => assumption
      case hd => ((try simp only [depth_deeper, Around.in1_depth]); omega)
      case hu => ((try simp only [Around.deeper_units, Around.in1_units]); omega)
      case F => assumption
      case I => assumption
      case N => assumption
      case KE => assumption
      case G => assumption
      case hp => first | trivial | exact News.isList N (by k_mem)
      (case hw1 => (intro _; omega)); (case hw2 => omega)
      clear I F N KE G X T
      intro g' h' gs dr tk9 t9 I F N KE G kg
      have X := I.K
      have T := I.T
      (try dsimp only)
      (try k_unmd)
      have htl := writeL_len k l
      obtain ⟨tx, htx⟩ : ∃ tx, mkS (writeL k l) = tx := ⟨_, rfl⟩
      rw [htx]
      have hxl : tx.length ≤ 14 := by rw [← htx, len_mkS]; omega
      have hxn : tx.length = (writeL k l).length := by rw [← htx, len_mkS]
      have hA0 := at_start k hk l
      have hkvs := fun u => hbi.isSome u
      generalize hTT : writeL k l = TT at htl htx hxn hA0
      k_steps
      rename IsRange _ _ _ _ _ _ _ _ => hr
      rename Fr _ _ _ _ => F
      rename News _ _ _ _ => N
      rename IntsAre _ (_ ++ [1]) => hI
      rename_i Cu ws hx1 lC hx2 F0 N0 hx3 tk3 r1 r2 r3 kk
      replace N : News g' s.heap.objs.size hx3 [(Cu, listOf ws.toArray 0), (B, ob), (s.heap.objs.size + 1, oc1)] := N.perm (by intro p hp; simp only [List.mem_cons, List.not_mem_nil, or_false] at hp ⊢; rcases hp with rfl | rfl | rfl <;> simp)
      have hC1 : @LT.lt Nat _ B Cu := lC.2.2.2.1
      have hC2 : @LT.lt Nat _ (s.heap.objs.size + 1) Cu := lC.2.2.2.2
      have hC := (by rw [hxn] at hI; exact (cnts_ints hI).congr (goal_start k l TT) : Cnts ws (goal k l TT TT.length) TT.length)
      clear lC F0 N0 kk hI
      refine it_range (n := TT.length) hA I F N hr (small_down (by omega) (by omega) (by omega) (by omega)) (by rw [rangeSize_downNat]; omega) fun Ia h₂ K => ?_
      refine' for_block K I KE G ?hliveC (fun i m ne => ∃ vs nn, ne = [(Cu, listOf vs.toArray nn), (B, ob), (s.heap.objs.size + 1, oc1)] ∧ Cnts vs (goal k l TT (TT.length - i)) TT.length ∧
        m (Str.ofString "value") = some (.str v t) ∧ m (Str.ofString "book") = some (.ref B) ∧ m (Str.ofString "text") = some (.str tx t9) ∧ m (Str.ofString "cuts") = some (.ref Cu)) ?hJ0C ?hfixC ?hoffC ?hownC ?turnC ?doneC
      case hliveC => exact fun i h hst => ⟨_, hst⟩
      case hJ0C => exact ⟨ws, 0, rfl, hC, hmv2, hmb2, rfl, rfl⟩
      case hfixC => exact fun b hb => .inl (List.mem_singleton.mp hb)
      case hoffC =>
        rintro i m ne ⟨vs, nn, hne, _⟩ p hp
        rw [hne] at hp
        rcases List.mem_cons.mp hp with rfl | hp
        · exact K.NI (Cu, listOf ws.toArray 0) (List.mem_cons_self ..)
        · exact K.NI p (List.mem_cons_of_mem _ hp)
      case hownC => exact fun v s E' Q' hi h => own_name v s E' Q' hi h
      case turnC =>
        clear F N K KE G X T I hr
        intro i v' m3 ne3 oI g' h gs dr tk E' hi hP hJ I F N KE G hnI hLI
        obtain ⟨vs, nn, hne, hCv, hmv3, hmb3, hmt3, hmc3⟩ := hJ
        obtain ⟨ti, rfl⟩ := hP
        have hIC : Ia ≠ Cu := fun e => hnI (Cu, listOf vs.toArray nn) (by rw [hne]; exact List.mem_cons_self ..) e.symm
        rw [hne] at N
        obtain ⟨a, ha, ha1, ha2, ha3⟩ : ∃ a : Nat, (tx.length : Int) - 1 + (i : Int) * (-1) = (a : Int) ∧ a < TT.length ∧ TT.length - i = a + 1 ∧ TT.length - (i + 1) = a := ⟨TT.length - 1 - i, by omega, by omega, by omega, by omega⟩
        rw [ha]
        rw [ha2] at hCv
        have X := I.K
        have T := I.T
        k_unmd
        k_fold
        k_steps
        rename Fr _ _ _ _ => F
        rename News _ _ _ _ => N
        refine min_two_N hA F N fun h4 tk4 F N => ?_
        rw [show (if ((tx.length : Int) - (a : Int)) < 4 then ((tx.length : Int) - (a : Int)) else 4) = ((min 4 (TT.length - a) : Nat) : Int) by split <;> omega]
        k_unmd
        k_steps
        rename IsRange _ _ _ _ _ _ _ _ => hr
        rename Fr _ _ _ _ => F
        rename News _ _ _ _ => N
        refine it_range (n := min 4 (TT.length - a)) hA I F N hr (small_one (by omega) (by omega) (by omega) (by omega)) (by rw [rangeSize_one]; split <;> omega) fun Ib h₅ K => ?_
        refine' for_block K I KE G ?hliveD (fun j m ne => ∃ vs nn, ne = [(Ia, oI), (Cu, listOf vs.toArray nn), (B, ob), (s.heap.objs.size + 1, oc1)] ∧ Cnts vs (mid k l TT a j) TT.length ∧
          m (Str.ofString "value") = some (.str v t) ∧ m (Str.ofString "book") = some (.ref B) ∧ m (Str.ofString "text") = some (.str tx t9) ∧ m (Str.ofString "cuts") = some (.ref Cu) ∧ m (Str.ofString "at") = some (.int a ti)) ?hJ0D ?hfixD ?hoffD ?hownD ?turnD ?doneD
        case hliveD => exact fun i h hst => ⟨_, hst⟩
        case hJ0D => exact ⟨vs, nn, rfl, hCv.congr fun p _ => mid_start k l TT a p, hmv3, hmb3, hmt3, hmc3, rfl⟩
        case hfixD => exact fun b hb => .inl (List.mem_singleton.mp hb)
        case hoffD =>
          rintro i m ne ⟨vs', nn', hne, _⟩ p hp
          rw [hne] at hp
          rcases List.mem_cons.mp hp with rfl | hp
          · exact K.NI (Ia, oI) (List.mem_cons_self ..)
          · rcases List.mem_cons.mp hp with rfl | hp
            · exact K.NI (Cu, listOf vs.toArray nn) (List.mem_cons_of_mem _ (List.mem_cons_self ..))
            · exact K.NI p (List.mem_cons_of_mem _ (List.mem_cons_of_mem _ hp))
        case hownD => exact fun v s E' Q' hi h => own_name v s E' Q' hi h
        case turnD =>
          clear F N K KE G X T I hr
          intro j v' m4 ne4 oI4 g' h gs dr tk E' hj hP hJ I F N KE G hnI4 hLI4
          obtain ⟨vs4, nn4', hne4, hCv4, hmv4, hmb4, hmt4, hmc4, hma4⟩ := hJ
          obtain ⟨tj, rfl⟩ := hP
          have hIC4 : Ib ≠ Cu := fun e => hnI4 (Cu, listOf vs4.toArray nn4') (by rw [hne4]; exact List.mem_cons_of_mem _ (List.mem_cons_self ..)) e.symm
          rw [hne4] at N
          rw [show (1 : Int) + (j : Int) * 1 = ((j + 1 : Nat) : Int) by omega]
          have X := I.K
          have T := I.T
          have hkey : Txt.slice tx (some (a : Int)) (some ((a : Int) + ((j + 1 : Nat) : Int))) = mkS ((TT.drop a).take (j + 1)) := by
            rw [← htx, show (a : Int) + ((j + 1 : Nat) : Int) = ((a + (j + 1) : Nat) : Int) by omega, slice_mid TT a (a + (j + 1)) (by omega) (by omega), show a + (j + 1) - a = j + 1 by omega]
          k_unmd
          k_fold
          k_steps
          rw [hkey]
          cases hw : isWord k l ((TT.drop a).take (j + 1)) with
          | false =>
            have hsome : (valueAt kvs (mkS ((TT.drop a).take (j + 1)))).isSome = false := by rw [hkvs, hw]
            k_steps
            rename Fr _ _ _ _ => F
            rename News _ _ _ _ => N
            exact TurnEnd.intro I F N KE G ⟨vs4, nn4', rfl, hCv4.congr fun p _ => mid_step_no k l TT a j p hw, hmv4, hmb4, hmt4, hmc4, hma4⟩
          | true =>
            have hsome : (valueAt kvs (mkS ((TT.drop a).take (j + 1)))).isSome = true := by rw [hkvs, hw]
            have hbd1 : a + (j + 1) ≤ TT.length := by omega
            obtain ⟨ta1, ea1⟩ := hCv4.2 a (by omega)
            obtain ⟨ta2, ea2⟩ := hCv4.2 (a + (j + 1)) hbd1
            replace ea1 : vs4.toArray[((a : Nat) : Int).toNat]? = some (.int ((mid k l TT a j a : Nat) : Int) ta1) := by simpa using ea1
            replace ea2 : vs4[((a : Int) + ((j + 1 : Nat) : Int)).toNat]? = some (.int ((mid k l TT a j (a + (j + 1)) : Nat) : Int) ta2) := by rw [show ((a : Int) + ((j + 1 : Nat) : Int)).toNat = a + (j + 1) by omega]; exact ea2
            k_steps
            rename Fr _ _ _ _ => F
            rename News _ _ _ _ => N
            have hvl4 := hCv4.1
            refine' set_K (vs := vs4) (n := nn4') (i := a) F N (by omega) (by omega) ?UD ?_
            case UD =>
              refine Upd.tail ?_ (Upd.tail ?_ (Upd.head ?_))
              · exact hIC4
              · exact hIC
              · intro p hp
                simp only [List.mem_cons, List.not_mem_nil, or_false] at hp
                rcases hp with rfl | rfl
                · exact Nat.ne_of_lt hC1
                · exact Nat.ne_of_lt hC2
            clear F N
            intro h6 F N
            k_steps
            rename Fr _ _ _ _ => F
            rename News _ _ _ _ => N
            have hnew := fun u => (hCv4.set (p := a) (x := mid k l TT a j a + mid k l TT a j (a + (j + 1))) (by omega) u).congr fun p _ => mid_step_yes k l TT a j p hw
            exact TurnEnd.intro I F N KE G ⟨_, nn4', rfl, hnew _, hmv4, hmb4, hmt4, hmc4, hma4⟩
        case doneD =>
          clear F N K KE G X T I hr
          intro m4 ne4 g' h gs dr tk hJ I F N KE G
          obtain ⟨vs4, nn4', hne4, hCv4, hmv4, hmb4, hmt4, hmc4, hma4⟩ := hJ
          rw [hne4] at N
          have X := I.K
          have T := I.T
          k_unmd
          k_steps
          rename Fr _ _ _ _ => F
          rename News _ _ _ _ => N
          exact TurnEnd.intro I F N KE G ⟨vs4, nn4', rfl, by rw [ha3]; exact hCv4.congr fun p _ => mid_end k l TT a p ha1, hmv4, hmb4, hmt4, hmc4⟩
      case doneC =>
        clear F N K KE G X T I hr
        intro m3 ne3 g' h gs dr tk hJ I F N KE G
        obtain ⟨vs, nn, hne, hCv, hmv3, hmb3, hmt3, hmc3⟩ := hJ
        rw [hne] at N
        rw [Nat.sub_self] at hCv
        have X := I.K
        have T := I.T
        obtain ⟨t0, e0⟩ := hCv.2 0 (Nat.zero_le _)
        have hc0 : goal k l TT 0 0 = 1 := by
          have := hA0.cut hk
          unfold goal
          rw [if_pos (Nat.le_refl _), this]
        rw [hc0] at e0
        replace e0 : vs[(0 : Int).toNat]? = some (.int ((1 : Nat) : Int) t0) := e0
        k_unmd
        k_steps
        rename Fr _ _ _ _ => F
        rename News _ _ _ _ => N
        refine while_block I F N KE G (fun kk m ne => ∃ i a ta sp tsp, kk = l.length - i ∧ ne = [(Cu, listOf vs.toArray nn), (B, ob), (s.heap.objs.size + 1, oc1)] ∧ At k l TT i a ∧
          m (Str.ofString "value") = some (.str v t) ∧ m (Str.ofString "book") = some (.ref B) ∧ m (Str.ofString "text") = some (.str tx t9) ∧ m (Str.ofString "cuts") = some (.ref Cu) ∧ m (Str.ofString "at") = some (.int ((a : Nat) : Int) ta) ∧ m (Str.ofString "spelled") = some (.str sp tsp) ∧ sp = mkS (l.take i))
          l.length ⟨0, 0, _, _, _, rfl, rfl, hA0, hmv3, hmb3, hmt3, hmc3, rfl, rfl, lit_em⟩ ?_
        clear F N KE G X T I
        intro kk m4 ne4 g' h gs dr tk E' hJ I F N KE G
        obtain ⟨i, a, ta, sp, tsp, hkk, hne4, hAt, hmv4, hmb4, hmt4, hmc4, hma4, hms4, hsp⟩ := hJ
        rw [hne4] at N
        have hspl : sp.length ≤ 4 := by rw [hsp, len_mkS, List.length_take]; omega
        have hal := hAt.ha
        have hil := hAt.hi
        have X := I.K
        have T := I.T
        k_unmd
        k_fold
        k_steps
        · rename Fr _ _ _ _ => F
          rename News _ _ _ _ => N
          have hlt : a < TT.length := by omega
          obtain ⟨p, hp, hpi, hpt, hp1, hp4, hpl, hAt', hpu⟩ := hAt.next hk hlt
          refine while_block I F N KE G (fun k2 m ne => ∃ sz tsz, k2 = p.1.length - sz ∧ 1 ≤ sz ∧ sz ≤ p.1.length ∧ ne = [(Cu, listOf vs.toArray nn), (B, ob), (s.heap.objs.size + 1, oc1)] ∧
            m (Str.ofString "value") = some (.str v t) ∧ m (Str.ofString "book") = some (.ref B) ∧ m (Str.ofString "text") = some (.str tx t9) ∧ m (Str.ofString "cuts") = some (.ref Cu) ∧ m (Str.ofString "at") = some (.int ((a : Nat) : Int) ta) ∧ m (Str.ofString "spelled") = some (.str sp tsp) ∧ m (Str.ofString "size") = some (.int ((sz : Nat) : Int) tsz))
            (p.1.length - 1) ⟨1, _, rfl, Nat.le_refl _, hp1, rfl, hmv4, hmb4, hmt4, hmc4, hma4, hms4, rfl⟩ ?_
          clear F N KE G X T I
          intro k2 m5 ne5 g' h gs dr tk E2 hJ I F N KE G
          obtain ⟨sz, tsz, hk2, hs1, hs2, hne5, hmv5, hmb5, hmt5, hmc5, hma5, hms5, hmz5⟩ := hJ
          rw [hne5] at N
          have hkey : Txt.slice tx (some (a : Int)) (some ((a : Int) + (sz : Int))) = mkS ((TT.drop a).take sz) := by
            rw [← htx, show (a : Int) + (sz : Int) = ((a + sz : Nat) : Int) by omega, slice_mid TT a (a + sz) (by omega) (by omega), show a + sz - a = sz by omega]
          have X := I.K
          have T := I.T
          k_unmd
          k_fold
          k_steps
          rw [hkey]
          by_cases e : sz = p.1.length
          · subst e
            have hsome : (valueAt kvs (mkS ((TT.drop a).take p.1.length))).isSome = true := by rw [hkvs, isWord_iff]; exact ⟨p, hp, by rw [hpt]⟩
            obtain ⟨vv, hvv⟩ := hbi.yes p hp
            obtain ⟨tv, etv⟩ := hbi.value hk (fun q hq => hq) hp hvv
            rw [etv] at hvv
            obtain ⟨cx, hcx⟩ : ∃ cx, mkS [p.2] = cx := ⟨_, rfl⟩
            have hcl : cx.length ≤ 1 := by rw [← hcx, len_mkS]; exact Nat.le_refl 1
            have hlook : valueAt kvs (mkS ((TT.drop a).take p.1.length)) = some (.str cx tv) := by rw [hpt, ← hcx]; exact hvv
            obtain ⟨tc, ec⟩ := hCv.2 (a + p.1.length) (by omega)
            have hc1 : goal k l TT 0 (a + p.1.length) = 1 := by
              have := hAt'.cut hk
              unfold goal
              rw [if_pos (Nat.zero_le _), this]
            rw [hc1] at ec
            replace ec : vs[((a : Int) + (p.1.length : Int)).toNat]? = some (.int ((1 : Nat) : Int) tc) := by rw [show ((a : Int) + (p.1.length : Int)).toNat = a + p.1.length by omega]; exact ec
            k_steps
            rw [hkey]
            k_steps
            rename Fr _ _ _ _ => F
            rename News _ _ _ _ => N
            have hil' := hAt'.hi
            exact WEnd.intro I F N KE G (i := l.length - (i + 1)) (by omega) ⟨i + 1, a + p.1.length, _, _, _, rfl, rfl, hAt', hmv5, hmb5, hmt5, hmc5, rfl, rfl, by rw [hsp, ← hcx, mkS_append, List.take_add_one, hpi]; rfl⟩
          · have hsome : (valueAt kvs (mkS ((TT.drop a).take sz))).isSome = false := by
              rw [hkvs]
              cases hw : isWord k l ((TT.drop a).take sz) with
              | false => rfl
              | true => exact absurd (hpu sz hs2 hw) e
            k_steps
            rename Fr _ _ _ _ => F
            rename News _ _ _ _ => N
            exact WEnd.intro I F N KE G (i := p.1.length - (sz + 1)) (by omega) ⟨sz + 1, _, rfl, by omega, by omega, rfl, hmv5, hmb5, hmt5, hmc5, hma5, hms5, rfl⟩
        · have hfin := hAt.fin (by omega) hk
          rw [hfin, List.take_length, ← hv] at hsp
          rw [hsp, beq_self_eq_true]
          exact Ret.bool (s := s) hR rfl I F KE G
end
end Mine
namespace Mine
open PySem PySem.W PyProof.Rows
set_option maxHeartbeats 4000000

/-- where ways meet -/
def Meet (w : World) (mg mb : Str → Option Value) (bm : Addr) (ob : Obj) (h₀ : Heap) (L : Addr) (os : OsState) (J : (Str → Option Value) → List (Addr × Obj) → Prop) (s : Shared) : Prop :=
  ∃ g m news, Inv w mg mb bm ob g ∧ Fr g L s.heap m ∧ News g L s.heap news ∧ Kp h₀ g ∧ AllBare s.gens ∧ s.os = os ∧ J m news
theorem Meet.intro {w : World} {mg mb : Str → Option Value} {bm : Addr} {ob : Obj} {g h₀ : Heap} {L : Addr} {m : Str → Option Value} {news : List (Addr × Obj)} {os : OsState} {J : (Str → Option Value) → List (Addr × Obj) → Prop} {gs : Array GenState} {h : Heap} {dr : Drawn} {tk : Nat}
    (I : Inv w mg mb bm ob g) (F : Fr g L h m) (N : News g L h news) (KE : Kp h₀ g) (G : AllBare gs) (j : J m news) :
    Meet w mg mb bm ob h₀ L os J { heap := h, gens := gs, drawn := dr, toks := tk, os := os } := ⟨g, m, news, I, F, N, KE, G, rfl, j⟩
theorem seq_join {M : Model} {A : Around} {E : Value → Shared → Prop} {s : Shared} {st : Stmt} {rest : List Stmt} {env : Env} {Q : Flow → Shared → Prop} (Mid : Shared → Prop)
    (h1 : wpAny M A (exec st env) (fun f s' => f = .next ∧ Mid s') E s)
    (h2 : ∀ s', Mid s' → wpAny M A (execs rest env) Q E s') : wpAny M A (execs (st :: rest) env) Q E s := by
  refine wpAny_execs_cons (wpAny_mono h1 (fun f s' h' => ?_) fun _ _ e => e)
  obtain ⟨rfl, h'⟩ := h'
  exact h2 s' h'

theorem ints_at {ws : List Value} {ms : List Int} (h : IntsAre ws ms) {i : Nat} {v : Value} (e : ws.toArray[i]? = some v) : ∃ n t, ms[i]? = some n ∧ v = .int n t := by
  have hi : i < ms.length := by
    have h1 := h.length
    have h2 := (Array.getElem?_eq_some_iff.mp e).1
    simp at h2
    omega
  obtain ⟨t, ht⟩ := (ints_get h).2 i ms[i] (by simp [hi])
  rw [List.getElem?_toArray, ht] at e
  exact ⟨ms[i], t, by simp [hi], (Option.some.inj e).symm⟩
theorem one_int {g h : Heap} {L D : Addr} {n : Int} {t : Tok} {news : List (Addr × Obj)} (N : News g L h ((D, listOf #[Value.int n t] 0) :: news)) : ∃ ws ms, News g L h [(D, listOf (List.toArray ws) 0)] ∧ IntsAre ws ms ∧ ms.length = 1 :=
  ⟨[Value.int n t], [n], fun p hp => N p (by rw [List.mem_singleton.mp hp]; exact List.mem_cons_self ..), .cons _ _ .nil, rfl⟩
theorem join_signs (f : Int → Nat) (ms : List Int) : Txt.join (Str.ofString "") (ms.map fun n => mkS [f n]) = mkS (ms.map f) := by
  rw [lit_em]
  show Builtin.Str.glued _ _ = _
  rw [StrLaws.glued_eq_join]
  have := str_join_flat (ms.map fun n => [f n])
  rw [List.map_map] at this
  have e : (ms.map fun n => [f n]).flatten = ms.map f := by
    clear this
    induction ms with
    | nil => rfl
    | cons n r ih => rw [List.map_cons, List.flatten_cons, ih]; rfl
  rw [e] at this
  exact this
theorem sum_signs (f : Int → Nat) : ∀ ms : List Int, ((ms.map fun n => mkS [f n]).map (·.length)).sum = ms.length
  | [] => rfl
  | n :: r => by
    have ih := sum_signs f r
    rw [List.map_cons, List.map_cons, List.sum_cons, ih, len_mkS]
    simp only [List.length_cons, List.length_nil]
    omega
section
local macro_rules | `(tactic| walk_at "exec Assign cons ListComp") => `(tactic| (k_here; k_dflt (refine' LC_assign ?hsw ?hclos ?hkind ?hnames ?hs ?_; (case hclos => with_unfolding_all rfl); (case hsw => with_unfolding_all rfl); (case hkind => rfl); (case hnames => decide); (case hs => intro _; with_unfolding_all rfl))))
local macro_rules | `(tactic| walk_at "eval ListComp") => `(tactic| (k_here; k_dflt (refine' LC_eval ?hclos ?hkind ?hnames ?hs ?_; (case hclos => with_unfolding_all rfl); (case hkind => rfl); (case hnames => decide); (case hs => intro _; with_unfolding_all rfl))))
local macro_rules | `(tactic| walk_at "pyIter ref") => `(tactic| ((with_reducible show wpAny _ _ (pyIter _) (fun it s₂ => LCPost _ _ _ _ _ _ _ _ _ _ _ _ _ _ it s₂) _ _); fail "mine"))
local macro_rules | `(tactic| walk_at "eval Name") => `(tactic| (k_here; k_dflt (first
  | (refine' nameE_L ?F ?L ?v ?_ ?a ?b ?d; (case F => assumption); (case L => rfl); (case a => rfl); (case b => rfl); (case d => decide); (case v => first | assumption | rfl); k_whole)
  | (refine' nameE_F ?N ?c ?m ?dd ?_ ?a ?b ?d ?e; (case a => rfl); (case b => rfl); (case c => rfl); (case d => decide); (case e => decide); (case N => assumption); (case m => k_mem); (case dd => first | assumption | k_asm); k_whole)
  | (refine' nameE_C ?N ?c ?m ?dd ?_ ?a ?b ?d; (case a => rfl); (case b => rfl); (case c => rfl); (case d => decide); (case N => assumption); (case m => k_mem); (case dd => first | assumption | k_asm); k_whole)
  | (refine' nameE_K ?F ?X ?T ?G ?e ?_ ?a ?b ?d; (case F => assumption); (case X => assumption); (case T => assumption); (case G => rfl); (case a => rfl); (case b => rfl); (case d => decide); (case e => k_is); k_whole)
  | (refine' nameE_B ?F ?X ?T ?G ?B ?e ?v ?n ?_ ?a ?b ?d; (case F => assumption); (case X => assumption); (case T => assumption); (case G => rfl); (case B => rfl); (case a => rfl); (case b => rfl); (case d => decide); (case e => k_is); (case v => boot_fast); (case n => decide); k_whole))))
local macro_rules | `(tactic| walk_at "assign Tuple") => `(tactic| (k_here; k_dflt (refine' unpackN_ ?F ?N ?T ?k1 ?k2 ?k3 ?_; (case F => k_asm); (case N => k_asm); (case T => with_reducible assumption); (case k1 => assumption); (case k2 => exact rfl); (case k3 => exact rfl)); intro h' F' N'; (try k_sweep)))
local macro_rules | `(tactic| walk_at "exec For") => `(tactic| (k_here; k_dflt (refine' For_run ?hs ?_; (case hs => intro _; with_unfolding_all rfl))))
local macro_rules | `(tactic| walk_at "exec For Name Call cons nil") => `(tactic| (k_here; k_dflt (refine' For_run ?hs ?_; (case hs => intro _; with_unfolding_all rfl))))
local macro_rules | `(tactic| walk_at "exec For Tuple Name cons nil") => `(tactic| (k_here; k_dflt (refine' For_run ?hs ?_; (case hs => intro _; with_unfolding_all rfl))))
local macro_rules | `(tactic| walk_at "pyIter ref") => `(tactic| ((with_reducible show wpAny _ _ (pyIter _) (fun it s₂ => ForPost _ _ _ _ _ _ _ it s₂) _ _); fail "mine"))
theorem law_fn {w : World} {mg mb : Str → Option Value} {bm : Addr} {ob : Obj} (lo : Addr) (vs : List Value) (ns : List Int) (hI : IntsAre vs ns) (hn : ns.length ≤ 63) : Fn w mg mb bm ob 100 72 [.ref lo] (fun h => h.IsList lo vs.toArray) (fun t => .bool true) := by
  intro A s Q E hA hD hU I G hp hR
  have X := I.K
  have T := I.T
  have KE := Kp.refl s.heap
  have I₀ := I
  have hfill9 : PySem.Challenge.rw_qv0001_01.prog = PySem.Challenge.rw_qv0001_01.prog ∧ (∀ P, _root_.Mine.hd.heap_39 P = _root_.Mine.hd.heap_39 P) := by
    k_fill
    exact ⟨rfl, fun _ => rfl⟩
  clear hfill9
  k_dflt (refine' enter (args := ⟨[.ref lo], []⟩) (binds := [(Str.ofString "script", .ref lo)]) X T.nolimit ?ho ?hcd ?hroom ?hbind ?hloc ?_ ?hco ?hgen ?hk ?hcell; (case ho => k_is); (case hcd => k_is); (case hroom => (simp only [recursionLimit]; omega)); (case hbind => rfl); (case hloc => exact locs rfl); (case hco => rfl); (case hgen => rfl); (case hk => rfl); (case hcell => decide))
  intro h₁ F
  (try dsimp only)
  have N : News s.heap s.heap.objs.size h₁ [] := News.nil
  (try k_unmd)
  k_fold
  refine seq_join (Meet w mg mb bm ob s.heap s.heap.objs.size s.os fun m ne => ne = [] ∧ m (Str.ofString "script") = some (.ref lo) ∧ ∃ way t, m (Str.ofString "way") = some (.int way t)) ?_ ?_
  · k_fold
    k_steps
    all_goals (rename Fr _ _ _ _ => F; rename News _ _ _ _ => N; exact Meet.intro I F N KE G ⟨rfl, rfl, _, _, rfl⟩)
  clear F N KE G X T I
  rintro ⟨h', gs, dr, tk, os'⟩ ⟨g, m, ne, I, F, N, KE, G, hos, rfl, hms, way, tw, hmw⟩
  dsimp only at hos F N G
  subst hos
  have hpg := islist_kp I₀ KE hp
  have X := I.K
  have T := I.T
  refine seq_join (Meet w mg mb bm ob s.heap s.heap.objs.size s.os fun m ne => ∃ D ys nn ms, ne = [(D, listOf ys.toArray nn)] ∧ IntsAre ys ms ∧ (∀ n ∈ ms, 0 ≤ n ∧ n < 266895360) ∧ 1 ≤ ms.length ∧ ms.length ≤ 4 ∧ m (Str.ofString "way") = some (.int way tw) ∧ m (Str.ofString "tape") = some (.ref D)) ?_ ?_
  · k_unmd
    k_fold
    k_steps
    · rename_i D1 ws1 h1 F N hJ hC hL l1 hpos
      obtain ⟨ms, hmsE⟩ : ∃ ms, ms = List.take (min 5 ns.length - 1) (List.drop 1 ns) := ⟨_, rfl⟩
      rw [← hmsE] at hJ hC hpos
      refine it_list hA I F N (News.isList N (a := D1) (by k_mem)) fun Ia h₂ K => ?_
      refine' LCstore K ?hszA ?hcellA ?hkindA ?hxA I KE G ?hLA ?hyA ?hpA (fun i ys h => IntsAre ys ((ms.take i).map fun n => n.fmod 266895360)) (fun _ => true) ?hJ0A ?hJA ?hendA
      case hszA => exact Nat.le_trans (m := 10) (by rw [List.size_toArray]; have := hJ.length; omega) (by decide)
      case hcellA => decide
      case hkindA => rfl
      case hxA => rfl
      case hLA => rfl
      case hyA => rfl
      case hpA => rfl
      case hJ0A => exact .nil
      case hJA =>
        refine ⟨fun _ _ _ _ h _ => h, fun i v u m₂ g' C E' _ _ _ _ _ _ _ => wpAny_pure ⟨rfl, _, rfl⟩, ?_, fun _ _ _ h => by cases h⟩
        clear F N K KE G X T hR
        intro i v' ys u m₂ g' C E' hi hP hpz hj F N I' KE' G' hm hLC hsz
        obtain ⟨x, tx, hx, rfl⟩ := ints_at hJ hP
        have X := I'.K
        have T := I'.T
        have KE := Kp.refl g'
        have F₀ : KA g' u.heap := F.keep
        have hab := F.above
        replace N := news_rest N
        clear KE'
        (try simp only [List.cons_append, List.nil_append] at N)
        (try clear_value qk ek)
        k_unmd
        k_fold
        k_steps
        refine' EltEnd.intro F₀ ?e1 ?e2 ?e3 ?e4 ?e5 ?e6 ?e7
        case e1 => assumption
        case e2 => assumption
        case e3 => (intro p hp; (repeat (first | exact hp | apply List.mem_cons_of_mem | apply List.mem_append_right)))
        case e4 => assumption
        case e5 => assumption
        case e6 => assumption
        case e7 =>
          (simp only [List.take_add_one, hx, Option.toList_some, List.map_append, List.map_cons, List.map_nil]; exact hj.append (.cons _ _ .nil))
      case hendA =>
        clear F N K KE G X T I
        intro D4 ys4 nn4 h' gs dr tk' g' I F N KE G lt4 hLD4 hys4 hD4 hj4
        rw [List.take_of_length_le (by rw [List.size_toArray]; have := hJ.length; omega)] at hj4
        refine ⟨rfl, Meet.intro (news := [(D4, listOf ys4.toArray nn4)]) I F (N.perm ?_) KE G ⟨D4, ys4, nn4, _, rfl, hj4, ?_, ?_, ?_, hmw, rfl⟩⟩
        · intro p hp
          rw [List.mem_singleton.mp hp]
          exact List.mem_cons_self ..
        · intro n hn
          obtain ⟨x, _, rfl⟩ := List.mem_map.mp hn
          rw [Int.fmod_eq_emod_of_nonneg _ (by decide)]
          omega
        · rw [List.length_map]; omega
        · rw [List.length_map]; omega
    · rename_i D1 ws1 h1 hJ1 hC hL l1 hpos D2 h2 F N l2
      replace N := one_int N
      obtain ⟨ws, ms, N, hJ, hlen⟩ := N
      clear hJ1 hC hL hpos l1 l2
      refine it_list hA I F N (News.isList N (a := D2) (by k_mem)) fun Ia h₂ K => ?_
      refine' LCstore K ?hszB ?hcellB ?hkindB ?hxB I KE G ?hLB ?hyB ?hpB (fun i ys h => IntsAre ys ((ms.take i).map fun n => n.fmod 266895360)) (fun _ => true) ?hJ0B ?hJB ?hendB
      case hszB => exact Nat.le_trans (m := 10) (by rw [List.size_toArray]; have := hJ.length; omega) (by decide)
      case hcellB => decide
      case hkindB => rfl
      case hxB => rfl
      case hLB => rfl
      case hyB => rfl
      case hpB => rfl
      case hJ0B => exact .nil
      case hJB =>
        refine ⟨fun _ _ _ _ h _ => h, fun i v u m₂ g' C E' _ _ _ _ _ _ _ => wpAny_pure ⟨rfl, _, rfl⟩, ?_, fun _ _ _ h => by cases h⟩
        clear F N K KE G X T hR
        intro i v' ys u m₂ g' C E' hi hP hpz hj F N I' KE' G' hm hLC hsz
        obtain ⟨x, tx, hx, rfl⟩ := ints_at hJ hP
        have X := I'.K
        have T := I'.T
        have KE := Kp.refl g'
        have F₀ : KA g' u.heap := F.keep
        have hab := F.above
        replace N := news_rest N
        clear KE'
        (try simp only [List.cons_append, List.nil_append] at N)
        (try clear_value qk ek)
        k_unmd
        k_fold
        k_steps
        refine' EltEnd.intro F₀ ?e1 ?e2 ?e3 ?e4 ?e5 ?e6 ?e7
        case e1 => assumption
        case e2 => assumption
        case e3 => (intro p hp; (repeat (first | exact hp | apply List.mem_cons_of_mem | apply List.mem_append_right)))
        case e4 => assumption
        case e5 => assumption
        case e6 => assumption
        case e7 =>
          (simp only [List.take_add_one, hx, Option.toList_some, List.map_append, List.map_cons, List.map_nil]; exact hj.append (.cons _ _ .nil))
      case hendB =>
        clear F N K KE G X T I
        intro D4 ys4 nn4 h' gs dr tk' g' I F N KE G lt4 hLD4 hys4 hD4 hj4
        rw [List.take_of_length_le (by rw [List.size_toArray]; have := hJ.length; omega)] at hj4
        refine ⟨rfl, Meet.intro (news := [(D4, listOf ys4.toArray nn4)]) I F (N.perm ?_) KE G ⟨D4, ys4, nn4, _, rfl, hj4, ?_, ?_, ?_, hmw, rfl⟩⟩
        · intro p hp
          rw [List.mem_singleton.mp hp]
          exact List.mem_cons_self ..
        · intro n hn
          obtain ⟨x, _, rfl⟩ := List.mem_map.mp hn
          rw [Int.fmod_eq_emod_of_nonneg _ (by decide)]
          omega
        · rw [List.length_map]; omega
        · rw [List.length_map]; omega
  clear F N KE G X T I hpg
  rintro ⟨h', gs, dr, tk, os'⟩ ⟨g, m, ne, I, F, N, KE, G, hos, D, ys, nn, ms, rfl, hJ, hb, h1, h4, hmw, hmt⟩
  dsimp only at hos F N G
  subst hos
  have hyl := hJ.length
  have X := I.K
  have T := I.T
  k_unmd
  k_steps
  -- the value
  refine it_list hA I F N (News.isList N (a := D) (by k_mem)) fun Ia h₂ K => ?_
  refine' LCnone K ?hszC ?hcellC ?hkindC ?hxC I KE G (fun i ys h => StrsAre ys ((ms.take i).map fun n => mkS [sg n])) (fun _ => true) ?hJ0C ?hJC ?hendC
  case hszC => exact Nat.le_trans (m := 10) (by rw [List.size_toArray]; omega) (by decide)
  case hcellC => decide
  case hkindC => rfl
  case hxC => rfl
  case hJ0C => exact .nil
  case hJC =>
    refine ⟨fun _ _ _ _ h _ => h, fun i v u m₂ g' C E' _ _ _ _ _ _ _ => wpAny_pure ⟨rfl, _, rfl⟩, ?_, fun _ _ _ h => by cases h⟩
    clear F N K KE G X T hR
    intro i v' ys u m₂ g' C E' hi hP hpz hj F N I' KE' G' hm hLC hsz
    obtain ⟨x, tx, hx, rfl⟩ := ints_at hJ hP
    have X := I'.K
    have T := I'.T
    have KE := Kp.refl g'
    have F₀ : KA g' u.heap := F.keep
    have hab := F.above
    replace N := news_rest N
    clear KE'
    (try simp only [List.cons_append, List.nil_append] at N)
    (try clear_value qk ek)
    k_unmd
    k_fold
    k_steps
    rename Fr _ _ _ _ => F
    rename News _ _ _ _ => N
    have I := I'
    have G := G'
    clear I' G'
    have hxb := hb x (List.mem_of_getElem? hx)
    refine' Fn.use (sign_fn x tx (by omega) (by omega)) ?hA ?hd ?hu ?I ?F ?N ?KE ?G ?hp ?_
    case hA => assumption
    case hd => ((try simp only [depth_deeper, Around.in1_depth]); omega)
    case hu => ((try simp only [Around.deeper_units, Around.in1_units]); omega)
    case F => assumption
    case I => assumption
    case N => assumption
    case KE => assumption
    case G => assumption
    case hp => first | trivial | exact News.isList N (by k_mem)
    skip
    clear I F N KE G X T
    intro g' h' gs dr tk9 t9 I F N KE G kg
    have X := I.K
    have T := I.T
    (try dsimp only)
    (try k_unmd)
    k_steps
    rename Fr _ _ _ _ => F
    rename News _ _ _ _ => N
    refine' EltEnd.intro F₀ ?e1 ?e2 ?e3 ?e4 ?e5 ?e6 ?e7
    case e1 => assumption
    case e2 => assumption
    case e3 => (intro p hp; (repeat (first | exact hp | apply List.mem_cons_of_mem | apply List.mem_append_right)))
    case e4 => assumption
    case e5 => assumption
    case e6 => assumption
    case e7 =>
      (simp only [List.take_add_one, hx, Option.toList_some, List.map_append, List.map_cons, List.map_nil]; exact KStt.strs_snoc hj)
  case hendC =>
  clear F N K KE G X T I
  intro D1 ys1 nn1 h' gs dr tk' g' I F N KE G lt1 hLD1 hys1 _ hj1
  rw [List.take_of_length_le (by rw [List.size_toArray]; omega)] at hj1
  have X := I.K
  have T := I.T
  k_lt lt1
  k_unmd
  k_steps
  refine join_listW (News.isList N (a := D1) (by k_mem)) hj1 (by decide +kernel) ?hwJ ?_
  case hwJ =>
    rw [sum_signs, List.length_map]
    omega
  intro tv kv
  rw [join_signs]
  obtain ⟨v, hv⟩ : ∃ v, v = mkS (ms.map sg) := ⟨_, rfl⟩
  rw [← hv]
  have hll : (ms.map sg).length = ms.length := List.length_map ..
  have hvl : v.length ≤ 4 := by rw [hv, len_mkS]; omega
  dsimp only
  k_steps
  -- the others
  rename Fr _ _ _ _ => F
  rename News _ _ _ _ => N
  refine it_list hA I F N (News.isList N (a := D) (by k_mem)) fun Ia h₂ K => ?_
  refine' LCstore K ?hszD ?hcellD ?hkindD ?hxD I KE G ?hLD ?hyD ?hpD (fun i ys h => StrsAre ys ((ms.take i).map fun n => mkS [sg (n + 1)])) (fun _ => true) ?hJ0D ?hJD ?hendD
  case hszD => exact Nat.le_trans (m := 10) (by rw [List.size_toArray]; omega) (by decide)
  case hcellD => decide
  case hkindD => rfl
  case hxD => rfl
  case hLD => rfl
  case hyD => rfl
  case hpD => rfl
  case hJ0D => exact .nil
  case hJD =>
    refine ⟨fun _ _ _ _ h _ => h, fun i v u m₂ g' C E' _ _ _ _ _ _ _ => wpAny_pure ⟨rfl, _, rfl⟩, ?_, fun _ _ _ h => by cases h⟩
    clear F N K KE G X T hR
    intro i v' ys u m₂ g' C E' hi hP hpz hj F N I' KE' G' hm hLC hsz
    obtain ⟨x, tx, hx, rfl⟩ := ints_at hJ hP
    have X := I'.K
    have T := I'.T
    have KE := Kp.refl g'
    have F₀ : KA g' u.heap := F.keep
    have hab := F.above
    replace N := news_rest N
    clear KE'
    (try simp only [List.cons_append, List.nil_append] at N)
    (try clear_value qk ek)
    k_unmd
    k_fold
    k_steps
    rename Fr _ _ _ _ => F
    rename News _ _ _ _ => N
    have I := I'
    have G := G'
    clear I' G'
    have hxb := hb x (List.mem_of_getElem? hx)
    refine' Fn.use (sign_fn (x + 1) _ (by omega) (by omega)) ?hA ?hd ?hu ?I ?F ?N ?KE ?G ?hp ?_
    case hA => assumption
    case hd => ((try simp only [depth_deeper, Around.in1_depth]); omega)
    case hu => ((try simp only [Around.deeper_units, Around.in1_units]); omega)
    case F => assumption
    case I => assumption
    case N => assumption
    case KE => assumption
    case G => assumption
    case hp => first | trivial | exact News.isList N (by k_mem)
    skip
    clear I F N KE G X T
    intro g' h' gs dr tk9 t9 I F N KE G kg
    have X := I.K
    have T := I.T
    (try dsimp only)
    (try k_unmd)
    k_steps
    rename Fr _ _ _ _ => F
    rename News _ _ _ _ => N
    refine' EltEnd.intro F₀ ?e1 ?e2 ?e3 ?e4 ?e5 ?e6 ?e7
    case e1 => assumption
    case e2 => assumption
    case e3 => (intro p hp; (repeat (first | exact hp | apply List.mem_cons_of_mem | apply List.mem_append_right)))
    case e4 => assumption
    case e5 => assumption
    case e6 => assumption
    case e7 =>
      (simp only [List.take_add_one, hx, Option.toList_some, List.map_append, List.map_cons, List.map_nil]; exact KStt.strs_snoc hj)
  case hendD =>
  clear F N K KE G X T I
  intro D2 ys2 nn2 h' gs dr tk' g' I F N KE G lt2 hLD2 hys2 _ hj2
  rw [List.take_of_length_le (by rw [List.size_toArray]; omega)] at hj2
  have X := I.K
  have T := I.T
  k_lt lt2
  k_unmd
  k_steps
  rename IsRange _ _ _ _ _ _ _ _ => hr
  rename Fr _ _ _ _ => F
  rename News _ _ _ _ => N
  replace N := N.perm (news' := [(D2, listOf ys2.toArray nn2)]) (by intro p hp; rw [List.mem_singleton.mp hp]; exact List.mem_cons_self ..)
  refine it_range (n := 4) hA I F N hr (by decide) (by decide) fun Ia h₂ K => ?_
  refine' for_block K I KE G ?hliveE (fun i m' ne => ne = [(D2, listOf ys2.toArray nn2)] ∧ m' (Str.ofString "way") = some (.int way tw) ∧ m' (Str.ofString "value") = some (.str v tv) ∧ m' (Str.ofString "others") = some (.ref D2)) ?hJ0E ?hfixE ?hoffE ?hownE ?turnE ?doneE
  case hliveE => exact fun i h hst => ⟨_, hst⟩
  case hJ0E => exact ⟨rfl, hmw, rfl, rfl⟩
  case hfixE => exact fun b hb => .inl (List.mem_singleton.mp hb)
  case hoffE =>
    rintro i m' ne ⟨hne, _⟩ p hp
    rw [hne] at hp
    exact K.NI p hp
  case hownE => exact fun v s E' Q' hi h => own_name v s E' Q' hi h
  case turnE =>
    clear F N K KE G X T I hr
    intro i v' m3 ne3 oI g' h gs dr tk E' hi hP hJ' I F N KE G hnI hLI
    obtain ⟨hne, hmw3, hmv3, hmo3⟩ := hJ'
    obtain ⟨ti, rfl⟩ := hP
    rw [hne] at N
    have X := I.K
    have T := I.T
    k_unmd
    k_fold
    k_steps
    rename Fr _ _ _ _ => F
    rename News _ _ _ _ => N
    refine' Fn.use (keeps_fn (0 + (i : Int) * 1) ti v tv (ms.map sg) D2 ys2 (ms.map fun n => sg (n + 1)) ?hw0 hv ?hw1 ?hw2 ?hw3 ?hw4) ?hA ?hd ?hu ?I ?F ?N ?KE ?G ?hp ?_
    case hA => assumption
    case hd => ((try simp only [depth_deeper, Around.in1_depth]); omega)
    case hu => ((try simp only [Around.deeper_units, Around.in1_units]); omega)
    case F => assumption
    case I => assumption
    case N => assumption
    case KE => assumption
    case G => assumption
    case hp => first | trivial | exact News.isList N (by k_mem)
    (case hw0 => omega); (case hw1 => omega); (case hw2 => omega); (case hw3 => (rw [List.length_map, List.length_map])); (case hw4 => (rw [List.map_map]; exact hj2))
    clear I F N KE G X T
    intro g' h' gs dr tk9 t9 I F N KE G kg
    have X := I.K
    have T := I.T
    (try dsimp only)
    (try k_unmd)
    k_steps
    rename Fr _ _ _ _ => F
    rename News _ _ _ _ => N
    exact TurnEnd.intro I F N KE G ⟨rfl, hmw3, hmv3, hmo3⟩
  case doneE =>
    clear F N K KE G X T I hr
    intro m3 ne3 g' h gs dr tk hJ' I F N KE G
    obtain ⟨hne, hmw3, hmv3, hmo3⟩ := hJ'
    rw [hne] at N
    have X := I.K
    have T := I.T
    k_unmd
    k_steps
    rename Fr _ _ _ _ => F
    rename News _ _ _ _ => N
    refine' Fn.use (cut_fn (way.fmod 4) _ v tv (ms.map sg) ?hw5 hv ?hw6 ?hw7) ?hA ?hd ?hu ?I ?F ?N ?KE ?G ?hp ?_
    case hA => assumption
    case hd => ((try simp only [depth_deeper, Around.in1_depth]); omega)
    case hu => ((try simp only [Around.deeper_units, Around.in1_units]); omega)
    case F => assumption
    case I => assumption
    case N => assumption
    case KE => assumption
    case G => assumption
    case hp => first | trivial | exact News.isList N (by k_mem)
    (case hw5 => (rw [Int.fmod_eq_emod_of_nonneg _ (by decide)]; omega)); (case hw6 => omega); (case hw7 => omega)
    clear I F N KE G X T
    intro g' h' gs dr tk9 t9 I F N KE G kg
    have X := I.K
    have T := I.T
    (try dsimp only)
    (try k_unmd)
    k_steps
    exact Ret.bool (s := s) hR rfl I F KE G
end
end Mine
namespace Mine
open PySem PySem.W PyProof.Rows
set_option maxHeartbeats 4000000
theorem oldk_tab {h h' : Heap} {c P l k : Nat} (a : h.TableAt c P #[]) (t : TabOk h' c P l k) (o : Obj) (e : h.get? P = some o) : asItWas h h' P o := by
  obtain ⟨ps, _, b, _⟩ := t
  have e₀ : o = { cls := .none, data := .fields #[] } := Option.some.inj (e.symm.trans a.2)
  subst e₀
  exact .inr (.inl ⟨a.isCodeTable, rfl, #[], ps, rfl, by rw [Array.empty_append]; exact b.2⟩)
theorem oldk {w : World} {mg mb : Str → Option Value} {bm : Addr} {ob : Obj} {h h' : Heap} (k : Kp h h') (a1 : h.TableAt 27 23 #[]) (a2 : h.TableAt 35 31 #[]) (a3 : h.TableAt 42 38 #[]) (I' : Inv w mg mb bm ob h') : OldK h h' := by
  refine ⟨fun b o e => ?_, fun b o e => ?_⟩
  · by_cases h1 : b = 23
    · subst h1; exact oldk_tab a1 I'.t1 o e
    by_cases h2 : b = 31
    · subst h2; exact oldk_tab a2 I'.t2 o e
    by_cases h3 : b = 38
    · subst h3; exact oldk_tab a3 I'.t3 o e
    exact .inl (k b o h1 h2 h3 e)
  · by_cases h1 : b = 23
    · subst h1; exact ⟨_, I'.t1.at.choose_spec⟩
    by_cases h2 : b = 31
    · subst h2; exact ⟨_, I'.t2.at.choose_spec⟩
    by_cases h3 : b = 38
    · subst h3; exact ⟨_, I'.t3.at.choose_spec⟩
    exact ⟨o, k b o h1 h2 h3 e⟩
theorem fin (law_fn : ∀ {w : World} {mg mb : Str → Option Value} {bm : Addr} {ob : Obj} (lo : Addr) (vs : List Value) (ns : List Int), IntsAre vs ns → ns.length ≤ 63 → Fn w mg mb bm ob 100 72 [.ref lo] (fun h => h.IsList lo vs.toArray) (fun t => .bool true)) : PySem.Challenge.rw_qv0001_01.Holds := hd (by
  intro w s₀ s₁ mg mb G Y fa o pm cd doc dV kV ho hd' hcd hD hmg hg args vals as hpre hlay hrd hwl hlo
  have KX := kIn_of Y
  refine Ground.open G ?_
  intro T B D TE TW
  obtain ⟨bm, ob, M⟩ := bmod_of_top T
  have TR := topRead_of T
  obtain ⟨c1, p1⟩ := tab_of (x := Str.ofString "serialize_name") (c := 27) (P := 23) T KX rfl (by kernel_rfl)
  obtain ⟨c2, p2⟩ := tab_of (x := Str.ofString "serialize_string_value") (c := 35) (P := 31) T KX rfl (by kernel_rfl)
  obtain ⟨c3, p3⟩ := tab_of (x := Str.ofString "serialize_url") (c := 42) (P := 38) T KX rfl (by kernel_rfl)
  have I : Inv w mg mb bm ob s₁.heap := {
    K := KX, T := TR, M := M
    t1 := ⟨#[], c1.code p1 trivial, c1.tab p1, .inl rfl⟩
    t2 := ⟨#[], c2.code p2 trivial, c2.tab p2, .inl rfl⟩
    t3 := ⟨#[], c3.code p3 trivial, c3.tab p3, .inl rfl⟩
    sz := by obtain ⟨o, e⟩ := K72 w.params; exact Heap.lt_size (KX _ _ e) }
  have hmg' : mg (Str.ofString "law") = some (.ref fa) := hmg
  have h72 : mg (Str.ofString "law") = some (.ref 72) := PySem.W.mg_of KX T.g (by kernel_rfl)
  have hfa : fa = 72 := by rw [hmg'] at h72; exact Value.ref.inj (Option.some.inj h72)
  subst hfa
  clear hD hcd hd' ho TE TW D B h72 hmg hmg'
  wrow_args hpre hlay hrd hwl hlo
  rename IntsAre _ _ => hI
  rename (Heap.IsList _ _ _) => hL
  refine law_fn _ _ _ hI (by omega) callerA s₁ _ _ rfl (by decide) (by decide) I (.of_eq hg) hL ?_
  intro h' gs dr tk t I' k' G'
  refine ⟨.inl ⟨_, .bool true, [], rfl, raisesW_false ?_, .bool true, ?_, fun _ => ⟨List.nodup_nil, nofun⟩⟩, oldk k' (c1.tab p1) (c2.tab p2) (c3.tab p3) I', rfl, G'⟩
  · wrow_none_raised
  · wrow_post)
end Mine
theorem PySem.Challenge.cw_qv0001_01_holds : PySem.Challenge.rw_qv0001_01.Holds :=
  Mine.fin Mine.law_fn
