import PyProof.Rows.All
import Wide.All
import OpenK.AllK
import Wide.FinOn
import KE.BitLaws
import PySem.Challenge.RW_rs0150_01

set_option rowWalk.seconds 0
section PartHd
open PySem PySem.W PyProof.Rows
set_option Elab.async false
namespace Mine
set_option maxRecDepth 100000 in
set_option maxHeartbeats 8000000 in
open_top hd for PySem.Challenge.rw_rs0150_01

/-- the walk's switch, as a text that takes the head from elsewhere finds it -/
theorem walkOff : True := by
  w_top off
  trivial
end Mine
end PartHd

section Rules0
local macro_rules | `(tactic| omega) => `(tactic| lia)
section PartBase
open PySem PySem.Spec PySem.Calls PySem.W PyProof.Rows
set_option Elab.async false
set_option maxRecDepth 100000
set_option maxHeartbeats 8000000
namespace Mine

theorem news_dup {h₀ h : Heap} {L : Addr} {p : Addr × Obj} {news : List (Addr × Obj)} (N : News h₀ L h news) (hm : p ∈ news) : News h₀ L h (p :: news) := fun q hq => by
  rcases List.mem_cons.mp hq with rfl | hq
  · exact N _ hm
  · exact N _ hq
theorem news_drop {h₀ h : Heap} {L : Addr} {p : Addr × Obj} {news : List (Addr × Obj)} (N : News h₀ L h (p :: news)) : News h₀ L h news := fun q hq => N q (.tail _ hq)
theorem news_sub {h₀ h : Heap} {L : Addr} {news news' : List (Addr × Obj)} (N : News h₀ L h news) (hs : ∀ p ∈ news', p ∈ news) : News h₀ L h news' := fun p hp => N p (hs p hp)
theorem allLt_size {h₀ h : Heap} {L : Addr} {news : List (Addr × Obj)} (N : News h₀ L h news) : AllLt h.objs.size news := allLt_of fun p hp => Heap.lt_size (N p hp).1
theorem allLt_mem {d : Nat} {l : List (Addr × Obj)} (h : AllLt d l) : ∀ p ∈ l, p.1 < d := by
  induction l with
  | nil => intro p hp; cases hp
  | cons q r ih =>
    intro p hp
    cases hp with
    | head => exact h.1
    | tail _ m => exact ih h.2 p m


theorem codeHd41 {P : Params} {h : Heap} (X : (hd.heap_39 P).In h) : CodeHd h 41 37 :=
  ⟨_, _, _, _, _, _, _, _, _, X 41 _ (by rfl), rfl, rfl, rfl, rfl, rfl, rfl, rfl, rfl, by decide⟩
theorem codeHd34 {P : Params} {h : Heap} (X : (hd.heap_39 P).In h) : CodeHd h 34 30 :=
  ⟨_, _, _, _, _, _, _, _, _, X 34 _ (by rfl), rfl, rfl, rfl, rfl, rfl, rfl, rfl, rfl, by decide⟩

/-- the table at P has taken the code object cc in -/
noncomputable def TabF (P : Addr) (line col : Nat) (qual : Str) (o : Obj) (cc : Addr) (oc : Obj) : Prop :=
  o = tabObj #[rawInt line, rawInt col, .ref cc] ∧ cc ≠ P ∧ ∃ vs t, oc.data = .fields vs ∧ vs[1]? = some (.str qual t)
/-- the table at P is as the top left it (the second entry repeats the first), or has taken its code object in -/
noncomputable def TabP (P : Addr) (line col : Nat) (qual : Str) (o : Obj) (cc : Addr) (oc : Obj) : Prop :=
  (o = tabObj #[] ∧ cc = P ∧ oc = o) ∨ TabF P line col qual o cc oc

inductive Tb1 (P : Addr) (o : Obj) (cc : Addr) (oc : Obj) : List (Addr × Obj) → (Obj → Addr → Obj → List (Addr × Obj)) → Prop
  | base {rest} (h : ∀ p ∈ rest, p.1 ≠ P) : Tb1 P o cc oc ((P, o) :: (cc, oc) :: rest) (fun o' cc' oc' => (P, o') :: (cc', oc') :: rest)
  | cons {e news g} (h : e.1 ≠ P) (t : Tb1 P o cc oc news g) : Tb1 P o cc oc (e :: news) (fun o' cc' oc' => e :: g o' cc' oc')
theorem Tb1.split {P cc : Addr} {o oc : Obj} {news : List (Addr × Obj)} {g : Obj → Addr → Obj → List (Addr × Obj)} (U : Tb1 P o cc oc news g) :
    ∃ pre post, news = pre ++ (P, o) :: (cc, oc) :: post ∧ (∀ o' cc' oc', g o' cc' oc' = pre ++ (P, o') :: (cc', oc') :: post) ∧ (∀ p ∈ pre, p.1 ≠ P) ∧ ∀ p ∈ post, p.1 ≠ P := by
  induction U with
  | base h => exact ⟨[], _, rfl, fun _ _ _ => rfl, fun _ h => (nomatch h), h⟩
  | cons h _ ih =>
    obtain ⟨pre, post, a, b, c, d⟩ := ih
    refine ⟨_ :: pre, post, by rw [a]; rfl, fun o' cc' oc' => by (show _ :: _ = _); rw [b]; rfl, fun q hq => ?_, d⟩
    rcases List.mem_cons.mp hq with rfl | hq
    · exact h
    · exact c q hq
theorem Tb1.self {P cc : Addr} {o oc : Obj} {news : List (Addr × Obj)} {g : Obj → Addr → Obj → List (Addr × Obj)} (U : Tb1 P o cc oc news g) : g o cc oc = news := by
  obtain ⟨pre, post, a, b, _, _⟩ := U.split
  rw [a, b]

section
variable {M : Model} {A : Around} {E : Value → Shared → Prop} {s : Shared} {h₀ : Heap} {L a c P : Addr} {m mg mb : Str → Option Value} {cn : Str} {cs : Scope} {ccd : Value} {cl : List (Str × Addr)} {news : List (Addr × Obj)}
  {p : Program} {loose : List Str} {mean : ExcName → Option Value} {name qual : Str} {params : Arguments} {body : List Stmt} {scope : Scope} {pos : Pos} {firstLine : Nat} {clos : List (Str × Addr)} {o oc : Obj} {cc : Addr} {g : Obj → Addr → Obj → List (Addr × Obj)}
theorem nest_tab {Q : Value → Shared → Prop} (F : Fr h₀ L s.heap m) (N : News h₀ L s.heap news) (T : Top p loose mean mg mb h₀) (C : CodeHd h₀ c P) (hcd : ccd = .ref c) (U : Tb1 P o cc oc news g) (hT : TabP P pos.line pos.col qual o cc oc)
    (hcl : closureFor scope (envX cn cs L a ccd cl) = pure clos)
    (h : ∀ f o' cc' oc' vs t ctv doc h' tk, Fr h₀ L h' m → News h₀ L h' ((f, fnMade name qual params body scope clos doc ((mg "__name__").getD .none) cc' ctv) :: g o' cc' oc') → TabF P pos.line pos.col qual o' cc' oc' →
      (TabF P pos.line pos.col qual o cc oc → o' = o ∧ cc' = cc ∧ oc' = oc) → oc'.data = .fields vs → vs[1]? = some (.str qual t) → (∀ q ∈ news, q.1 < f) → cc' < f → (cc' = cc ∨ ∀ q ∈ news, q.1 < cc') → Q (.ref f) { s with heap := h', toks := tk }) :
    wpAny M A (makeFunction name qual params (.stmts body) scope (envX cn cs L a ccd cl) [] [] [] pos firstLine) Q E s := by
  obtain ⟨pre, post, rfl, hg, h1, h2⟩ := U.split
  rcases hT with ⟨rfl, rfl, rfl⟩ | hF
  · have N' : News h₀ L s.heap (pre ++ (cc, tabObj #[]) :: post) := news_sub N (by simp)
    have U' : UpdF cc (tabObj #[]) (pre ++ (cc, tabObj #[]) :: post) (fun o' => pre ++ (cc, o') :: post) := by
      clear N N' hg h U
      induction pre with
      | nil => exact .head h2
      | cons e pre ih => exact .tail (h1 e (.head _)) (ih fun q hq => h1 q (.tail _ hq))
    refine nest_K F N' T C hcd U' trivial rfl hcl fun f c' oc' vs t ctv doc h' tk F' N2 d1 d2 l1 l2 => ?_
    have hlt : ∀ q ∈ pre ++ (cc, tabObj #[]) :: (cc, tabObj #[]) :: post, q.1 < c' := fun q hq => l1 q (by simp at hq ⊢; grind)
    have hcP : c' ≠ cc := Nat.ne_of_gt (hlt (cc, tabObj #[]) (by simp))
    refine h f _ c' oc' vs t ctv doc h' tk F' ?_ ⟨rfl, hcP, vs, t, d1, d2⟩ (fun x => absurd rfl x.2.1) d1 d2 (fun q hq => Nat.lt_trans (hlt q hq) l2) l2 (.inr hlt)
    rw [hg]
    exact news_sub N2 (by simp; grind)
  · obtain ⟨ho, hne, vs, t, d1, d2⟩ := id hF
    subst ho
    refine nestHit_K (c' := cc) F N T C hcd (ps := #[rawInt pos.line, rawInt pos.col, .ref cc]) (by simp) (by simp [TriplesOk, rawInt]) (by simp [codeAmong, rawInt]) hcl fun f ctv doc h' tk F' N2 l1 => ?_
    refine h f _ cc oc vs t ctv doc h' tk F' (by rw [hg]; exact N2) hF (fun _ => ⟨rfl, rfl, rfl⟩) d1 d2 l1 (l1 (cc, oc) (by simp)) (.inl rfl)
end

theorem obj_fn {K : Frag} {a : Addr} {name qual name' qual' : Str} {params params' : Arguments} {body body' : List Stmt} {scope scope' : Scope} {dV kV doc pm cdv ct oc dV' kV' doc' pm' cdv' ct' oc' : Value} {an od an' od' : Option Addr} {osl osl' : Array (Option Value)}
    (h : K.lookup a = some ⟨oc, od, .func (fnOf name qual params body scope dV kV doc pm an cdv ct), osl⟩) (h' : K.lookup a = some ⟨oc', od', .func (fnOf name' qual' params' body' scope' dV' kV' doc' pm' an' cdv' ct'), osl'⟩) :
    fnOf name qual params body scope dV kV doc pm an cdv ct = fnOf name' qual' params' body' scope' dV' kV' doc' pm' an' cdv' ct' :=
  Data.func.inj (congrArg Obj.data (Option.some.inj (h.symm.trans h')))
theorem obj_all {K : Frag} {a : Addr} {name qual name' qual' : Str} {params params' : Arguments} {body body' : List Stmt} {scope scope' : Scope} {dV kV doc pm cdv ct oc dV' kV' doc' pm' cdv' ct' oc' : Value} {an od an' od' : Option Addr} {osl osl' : Array (Option Value)}
    (h : K.lookup a = some ⟨oc, od, .func (fnOf name qual params body scope dV kV doc pm an cdv ct), osl⟩) (h' : K.lookup a = some ⟨oc', od', .func (fnOf name' qual' params' body' scope' dV' kV' doc' pm' an' cdv' ct'), osl'⟩) :
    oc = oc' ∧ od = od' ∧ osl = osl' ∧ name = name' ∧ qual = qual' ∧ params = params' ∧ scope = scope' ∧ dV = dV' ∧ kV = kV' ∧ doc = doc' ∧ pm = pm' ∧ an = an' ∧ cdv = cdv' ∧ ct = ct' ∧ body = body' :=
  have o := Option.some.inj (h.symm.trans h')
  have f := obj_fn h h'
  ⟨congrArg Obj.cls o, congrArg Obj.dict o, congrArg Obj.slots o, congrArg FuncData.name f, congrArg FuncData.qualname f, congrArg FuncData.params f, congrArg FuncData.scope f, congrArg FuncData.defaults f, congrArg FuncData.kwdefaults f, congrArg FuncData.doc f, congrArg FuncData.pyModule f, congrArg FuncData.annotations f, congrArg FuncData.code f, congrArg FuncData.closureTuple f, FuncBody.stmts.inj (congrArg FuncData.body f)⟩
theorem obj_body {K : Frag} {a : Addr} {name qual name' qual' : Str} {params params' : Arguments} {body body' : List Stmt} {scope scope' : Scope} {dV kV doc pm cdv ct oc dV' kV' doc' pm' cdv' ct' oc' : Value} {an od an' od' : Option Addr} {osl osl' : Array (Option Value)}
    (h : K.lookup a = some ⟨oc, od, .func (fnOf name qual params body scope dV kV doc pm an cdv ct), osl⟩) (h' : K.lookup a = some ⟨oc', od', .func (fnOf name' qual' params' body' scope' dV' kV' doc' pm' an' cdv' ct'), osl'⟩) :
    qual = qual' ∧ scope = scope' ∧ body = body' :=
  have f := obj_fn h h'
  ⟨congrArg FuncData.qualname f, congrArg FuncData.scope f, FuncBody.stmts.inj (congrArg FuncData.body f)⟩
theorem obj_cd {K : Frag} {a : Addr} {name qual name' qual' : Str} {params params' : Arguments} {body body' : List Stmt} {scope scope' : Scope} {dV kV doc pm cdv ct oc dV' kV' doc' pm' cdv' ct' oc' : Value} {an od an' od' : Option Addr} {osl osl' : Array (Option Value)}
    (h : K.lookup a = some ⟨oc, od, .func (fnOf name qual params body scope dV kV doc pm an cdv ct), osl⟩) (h' : K.lookup a = some ⟨oc', od', .func (fnOf name' qual' params' body' scope' dV' kV' doc' pm' an' cdv' ct'), osl'⟩) :
    qual = qual' ∧ scope = scope' ∧ cdv = cdv' ∧ body = body' :=
  have f := obj_fn h h'
  ⟨congrArg FuncData.qualname f, congrArg FuncData.scope f, congrArg FuncData.code f, FuncBody.stmts.inj (congrArg FuncData.body f)⟩
theorem for_inj {t i t' i' : PySem.Expr} {b b' o o' : List Stmt} {p p' : Pos} (h : Stmt.For t i b o p = .For t' i' b' o' p') : t = t' ∧ i = i' ∧ b = b' ∧ o = o' :=
  have e := Stmt.For.inj h
  ⟨e.1, e.2.1, e.2.2.1, e.2.2.2.1⟩
theorem while_inj {t t' : PySem.Expr} {b b' o o' : List Stmt} {p p' : Pos} (h : Stmt.While t b o p = .While t' b' o' p') : t = t' ∧ b = b' ∧ o = o' :=
  have e := Stmt.While.inj h
  ⟨e.1, e.2.1, e.2.2.1⟩
theorem gen_inj {st0 if1 if3 yst ast st0' if1' if3' yst' ast' : Stmt} {target iter t2 test target' iter' t2' test' : PySem.Expr} {wbody worelse e2 orelse more wbody' worelse' e2' orelse' more' : List Stmt} {wpos p2 fpos wpos' p2' fpos' : Pos}
    (h : st0 :: .For target iter [if1, .If t2 [if3, .While test wbody worelse wpos] e2 p2, yst, ast] orelse fpos :: more = st0' :: .For target' iter' [if1', .If t2' [if3', .While test' wbody' worelse' wpos'] e2' p2', yst', ast'] orelse' fpos' :: more') :
    target = target' ∧ if1 = if1' ∧ t2 = t2' ∧ if3 = if3' ∧ test = test' ∧ wbody = wbody' ∧ worelse = worelse' ∧ wpos = wpos' ∧ e2 = e2' ∧ p2 = p2' ∧ yst = yst' ∧ ast = ast' ∧ orelse = orelse' :=
  have f := Stmt.For.inj (List.cons.inj (List.cons.inj h).2).1
  have l1 := List.cons.inj f.2.2.1
  have l2 := List.cons.inj l1.2
  have l3 := List.cons.inj l2.2
  have l4 := List.cons.inj l3.2
  have i := Stmt.If.inj l2.1
  have j := List.cons.inj i.2.1
  have w := Stmt.While.inj (List.cons.inj j.2).1
  ⟨f.1, l1.1, i.1, j.1, w.1, w.2.1, w.2.2.1, w.2.2.2, i.2.2.1, i.2.2.2, l3.1, l4.1, f.2.2.2.1⟩
theorem nth0 {st st' : Stmt} {more more' : List Stmt} (h : st :: more = st' :: more') : st = st' := (List.cons.inj h).1
theorem nth1 {z0 y0 st st' : Stmt} {more more' : List Stmt} (h : z0 :: st :: more = y0 :: st' :: more') : st = st' := nth0 (List.cons.inj h).2
theorem nth2 {z0 y0 z1 y1 st st' : Stmt} {more more' : List Stmt} (h : z0 :: z1 :: st :: more = y0 :: y1 :: st' :: more') : st = st' := nth1 (List.cons.inj h).2
theorem nth3 {z0 y0 z1 y1 z2 y2 st st' : Stmt} {more more' : List Stmt} (h : z0 :: z1 :: z2 :: st :: more = y0 :: y1 :: y2 :: st' :: more') : st = st' := nth2 (List.cons.inj h).2
theorem nth4 {z0 y0 z1 y1 z2 y2 z3 y3 st st' : Stmt} {more more' : List Stmt} (h : z0 :: z1 :: z2 :: z3 :: st :: more = y0 :: y1 :: y2 :: y3 :: st' :: more') : st = st' := nth3 (List.cons.inj h).2
theorem nth5 {z0 y0 z1 y1 z2 y2 z3 y3 z4 y4 st st' : Stmt} {more more' : List Stmt} (h : z0 :: z1 :: z2 :: z3 :: z4 :: st :: more = y0 :: y1 :: y2 :: y3 :: y4 :: st' :: more') : st = st' := nth4 (List.cons.inj h).2
theorem nth6 {z0 y0 z1 y1 z2 y2 z3 y3 z4 y4 z5 y5 st st' : Stmt} {more more' : List Stmt} (h : z0 :: z1 :: z2 :: z3 :: z4 :: z5 :: st :: more = y0 :: y1 :: y2 :: y3 :: y4 :: y5 :: st' :: more') : st = st' := nth5 (List.cons.inj h).2
theorem nth7 {z0 y0 z1 y1 z2 y2 z3 y3 z4 y4 z5 y5 z6 y6 st st' : Stmt} {more more' : List Stmt} (h : z0 :: z1 :: z2 :: z3 :: z4 :: z5 :: z6 :: st :: more = y0 :: y1 :: y2 :: y3 :: y4 :: y5 :: y6 :: st' :: more') : st = st' := nth6 (List.cons.inj h).2
theorem nth8 {z0 y0 z1 y1 z2 y2 z3 y3 z4 y4 z5 y5 z6 y6 z7 y7 st st' : Stmt} {more more' : List Stmt} (h : z0 :: z1 :: z2 :: z3 :: z4 :: z5 :: z6 :: z7 :: st :: more = y0 :: y1 :: y2 :: y3 :: y4 :: y5 :: y6 :: y7 :: st' :: more') : st = st' := nth7 (List.cons.inj h).2
theorem nth9 {z0 y0 z1 y1 z2 y2 z3 y3 z4 y4 z5 y5 z6 y6 z7 y7 z8 y8 st st' : Stmt} {more more' : List Stmt} (h : z0 :: z1 :: z2 :: z3 :: z4 :: z5 :: z6 :: z7 :: z8 :: st :: more = y0 :: y1 :: y2 :: y3 :: y4 :: y5 :: y6 :: y7 :: y8 :: st' :: more') : st = st' := nth8 (List.cons.inj h).2
theorem nth10 {z0 y0 z1 y1 z2 y2 z3 y3 z4 y4 z5 y5 z6 y6 z7 y7 z8 y8 z9 y9 st st' : Stmt} {more more' : List Stmt} (h : z0 :: z1 :: z2 :: z3 :: z4 :: z5 :: z6 :: z7 :: z8 :: z9 :: st :: more = y0 :: y1 :: y2 :: y3 :: y4 :: y5 :: y6 :: y7 :: y8 :: y9 :: st' :: more') : st = st' := nth9 (List.cons.inj h).2
theorem nth11 {z0 y0 z1 y1 z2 y2 z3 y3 z4 y4 z5 y5 z6 y6 z7 y7 z8 y8 z9 y9 z10 y10 st st' : Stmt} {more more' : List Stmt} (h : z0 :: z1 :: z2 :: z3 :: z4 :: z5 :: z6 :: z7 :: z8 :: z9 :: z10 :: st :: more = y0 :: y1 :: y2 :: y3 :: y4 :: y5 :: y6 :: y7 :: y8 :: y9 :: y10 :: st' :: more') : st = st' := nth10 (List.cons.inj h).2
theorem nth12 {z0 y0 z1 y1 z2 y2 z3 y3 z4 y4 z5 y5 z6 y6 z7 y7 z8 y8 z9 y9 z10 y10 z11 y11 st st' : Stmt} {more more' : List Stmt} (h : z0 :: z1 :: z2 :: z3 :: z4 :: z5 :: z6 :: z7 :: z8 :: z9 :: z10 :: z11 :: st :: more = y0 :: y1 :: y2 :: y3 :: y4 :: y5 :: y6 :: y7 :: y8 :: y9 :: y10 :: y11 :: st' :: more') : st = st' := nth11 (List.cons.inj h).2
theorem nth13 {z0 y0 z1 y1 z2 y2 z3 y3 z4 y4 z5 y5 z6 y6 z7 y7 z8 y8 z9 y9 z10 y10 z11 y11 z12 y12 st st' : Stmt} {more more' : List Stmt} (h : z0 :: z1 :: z2 :: z3 :: z4 :: z5 :: z6 :: z7 :: z8 :: z9 :: z10 :: z11 :: z12 :: st :: more = y0 :: y1 :: y2 :: y3 :: y4 :: y5 :: y6 :: y7 :: y8 :: y9 :: y10 :: y11 :: y12 :: st' :: more') : st = st' := nth12 (List.cons.inj h).2
theorem nth14 {z0 y0 z1 y1 z2 y2 z3 y3 z4 y4 z5 y5 z6 y6 z7 y7 z8 y8 z9 y9 z10 y10 z11 y11 z12 y12 z13 y13 st st' : Stmt} {more more' : List Stmt} (h : z0 :: z1 :: z2 :: z3 :: z4 :: z5 :: z6 :: z7 :: z8 :: z9 :: z10 :: z11 :: z12 :: z13 :: st :: more = y0 :: y1 :: y2 :: y3 :: y4 :: y5 :: y6 :: y7 :: y8 :: y9 :: y10 :: y11 :: y12 :: y13 :: st' :: more') : st = st' := nth13 (List.cons.inj h).2
theorem nth15 {z0 y0 z1 y1 z2 y2 z3 y3 z4 y4 z5 y5 z6 y6 z7 y7 z8 y8 z9 y9 z10 y10 z11 y11 z12 y12 z13 y13 z14 y14 st st' : Stmt} {more more' : List Stmt} (h : z0 :: z1 :: z2 :: z3 :: z4 :: z5 :: z6 :: z7 :: z8 :: z9 :: z10 :: z11 :: z12 :: z13 :: z14 :: st :: more = y0 :: y1 :: y2 :: y3 :: y4 :: y5 :: y6 :: y7 :: y8 :: y9 :: y10 :: y11 :: y12 :: y13 :: y14 :: st' :: more') : st = st' := nth14 (List.cons.inj h).2
theorem nth16 {z0 y0 z1 y1 z2 y2 z3 y3 z4 y4 z5 y5 z6 y6 z7 y7 z8 y8 z9 y9 z10 y10 z11 y11 z12 y12 z13 y13 z14 y14 z15 y15 st st' : Stmt} {more more' : List Stmt} (h : z0 :: z1 :: z2 :: z3 :: z4 :: z5 :: z6 :: z7 :: z8 :: z9 :: z10 :: z11 :: z12 :: z13 :: z14 :: z15 :: st :: more = y0 :: y1 :: y2 :: y3 :: y4 :: y5 :: y6 :: y7 :: y8 :: y9 :: y10 :: y11 :: y12 :: y13 :: y14 :: y15 :: st' :: more') : st = st' := nth15 (List.cons.inj h).2
theorem nth17 {z0 y0 z1 y1 z2 y2 z3 y3 z4 y4 z5 y5 z6 y6 z7 y7 z8 y8 z9 y9 z10 y10 z11 y11 z12 y12 z13 y13 z14 y14 z15 y15 z16 y16 st st' : Stmt} {more more' : List Stmt} (h : z0 :: z1 :: z2 :: z3 :: z4 :: z5 :: z6 :: z7 :: z8 :: z9 :: z10 :: z11 :: z12 :: z13 :: z14 :: z15 :: z16 :: st :: more = y0 :: y1 :: y2 :: y3 :: y4 :: y5 :: y6 :: y7 :: y8 :: y9 :: y10 :: y11 :: y12 :: y13 :: y14 :: y15 :: y16 :: st' :: more') : st = st' := nth16 (List.cons.inj h).2
theorem nth18 {z0 y0 z1 y1 z2 y2 z3 y3 z4 y4 z5 y5 z6 y6 z7 y7 z8 y8 z9 y9 z10 y10 z11 y11 z12 y12 z13 y13 z14 y14 z15 y15 z16 y16 z17 y17 st st' : Stmt} {more more' : List Stmt} (h : z0 :: z1 :: z2 :: z3 :: z4 :: z5 :: z6 :: z7 :: z8 :: z9 :: z10 :: z11 :: z12 :: z13 :: z14 :: z15 :: z16 :: z17 :: st :: more = y0 :: y1 :: y2 :: y3 :: y4 :: y5 :: y6 :: y7 :: y8 :: y9 :: y10 :: y11 :: y12 :: y13 :: y14 :: y15 :: y16 :: y17 :: st' :: more') : st = st' := nth17 (List.cons.inj h).2
theorem nth19 {z0 y0 z1 y1 z2 y2 z3 y3 z4 y4 z5 y5 z6 y6 z7 y7 z8 y8 z9 y9 z10 y10 z11 y11 z12 y12 z13 y13 z14 y14 z15 y15 z16 y16 z17 y17 z18 y18 st st' : Stmt} {more more' : List Stmt} (h : z0 :: z1 :: z2 :: z3 :: z4 :: z5 :: z6 :: z7 :: z8 :: z9 :: z10 :: z11 :: z12 :: z13 :: z14 :: z15 :: z16 :: z17 :: z18 :: st :: more = y0 :: y1 :: y2 :: y3 :: y4 :: y5 :: y6 :: y7 :: y8 :: y9 :: y10 :: y11 :: y12 :: y13 :: y14 :: y15 :: y16 :: y17 :: y18 :: st' :: more') : st = st' := nth18 (List.cons.inj h).2
/-- the walker goes no further here -/
noncomputable def Stop (P : Prop) : Prop := P
theorem stop_here {P : Prop} (h : Stop P) : P := h
theorem gen_toks {M : Model} {A : Around} {α : Type} {m : Sem α} {Q : α → Shared → Prop} {E : Value → Shared → Prop} {h : Heap} {g : Array GenState} {d : Drawn} {tk : Nat} {o : OsState} (H : ∀ tk', wpAny M A m Q E ⟨h, g, d, tk', o⟩) : wpAny M A m Q E ⟨h, g, d, tk, o⟩ := H tk
theorem obj_elim {K : Frag} {a : Addr} {name qual name' qual' : Str} {params params' : Arguments} {body body' : List Stmt} {scope scope' : Scope} {dV kV doc pm cdv ct oc dV' kV' doc' pm' cdv' ct' oc' : Value} {an od an' od' : Option Addr} {osl osl' : Array (Option Value)}
    (h : K.lookup a = some ⟨oc, od, .func (fnOf name qual params body scope dV kV doc pm an cdv ct), osl⟩) (h' : K.lookup a = some ⟨oc', od', .func (fnOf name' qual' params' body' scope' dV' kV' doc' pm' an' cdv' ct'), osl'⟩)
    {P : Str → Str → Arguments → List Stmt → Scope → Value → Value → Value → Value → Option Addr → Value → Value → Value → Option Addr → Array (Option Value) → Prop} (H : P name' qual' params' body' scope' dV' kV' doc' pm' an' cdv' ct' oc' od' osl') : P name qual params body scope dV kV doc pm an cdv ct oc od osl := by
  have e := obj_all h h'
  clear h h'
  obtain ⟨rfl, rfl, rfl, rfl, rfl, rfl, rfl, rfl, rfl, rfl, rfl, rfl, rfl, rfl, rfl⟩ := e
  exact H
theorem for_open {K : Frag} {a : Addr} {name qual name' qual' : Str} {params params' : Arguments} {body body' : List Stmt} {scope scope' : Scope} {dV kV doc pm cdv ct oc dV' kV' doc' pm' cdv' ct' oc' : Value} {an od an' od' : Option Addr} {osl osl' : Array (Option Value)} {t i t' i' : PySem.Expr} {b o b' o' : List Stmt}
    (h : K.lookup a = some ⟨oc, od, .func (fnOf name qual params body scope dV kV doc pm an cdv ct), osl⟩) (h' : K.lookup a = some ⟨oc', od', .func (fnOf name' qual' params' body' scope' dV' kV' doc' pm' an' cdv' ct'), osl'⟩) (sel : body = body' → t = t' ∧ i = i' ∧ b = b' ∧ o = o')
    {P : Str → Scope → Value → PySem.Expr → PySem.Expr → List Stmt → List Stmt → Prop} (H : P qual' scope' cdv' t' i' b' o') : P qual scope cdv t i b o := by
  have e := obj_cd h h'
  have e1 := sel e.2.2.2
  have e2 := And.intro e.1 (And.intro e.2.1 e.2.2.1)
  clear h h' sel e
  obtain ⟨rfl, rfl, rfl⟩ := e2
  obtain ⟨rfl, rfl, rfl, rfl⟩ := e1
  exact H
theorem while_open {K : Frag} {a : Addr} {name qual name' qual' : Str} {params params' : Arguments} {body body' : List Stmt} {scope scope' : Scope} {dV kV doc pm cdv ct oc dV' kV' doc' pm' cdv' ct' oc' : Value} {an od an' od' : Option Addr} {osl osl' : Array (Option Value)} {t t' : PySem.Expr} {b o b' o' : List Stmt}
    (h : K.lookup a = some ⟨oc, od, .func (fnOf name qual params body scope dV kV doc pm an cdv ct), osl⟩) (h' : K.lookup a = some ⟨oc', od', .func (fnOf name' qual' params' body' scope' dV' kV' doc' pm' an' cdv' ct'), osl'⟩) (sel : body = body' → t = t' ∧ b = b' ∧ o = o')
    {P : Str → Scope → Value → PySem.Expr → List Stmt → List Stmt → Prop} (H : P qual' scope' cdv' t' b' o') : P qual scope cdv t b o := by
  have e := obj_cd h h'
  have e1 := sel e.2.2.2
  have e2 := And.intro e.1 (And.intro e.2.1 e.2.2.1)
  clear h h' sel e
  obtain ⟨rfl, rfl, rfl⟩ := e2
  obtain ⟨rfl, rfl, rfl⟩ := e1
  exact H
theorem gen_open {K : Frag} {a : Addr} {name qual name' qual' : Str} {params params' : Arguments} {body body' : List Stmt} {scope scope' : Scope} {dV kV doc pm cdv ct oc dV' kV' doc' pm' cdv' ct' oc' : Value} {an od an' od' : Option Addr} {osl osl' : Array (Option Value)} {if1 if3 yst ast if1' if3' yst' ast' : Stmt} {target t2 test target' t2' test' : PySem.Expr} {wbody worelse e2 orelse wbody' worelse' e2' orelse' : List Stmt} {wpos p2 wpos' p2' : Pos}
    (h : K.lookup a = some ⟨oc, od, .func (fnOf name qual params body scope dV kV doc pm an cdv ct), osl⟩) (h' : K.lookup a = some ⟨oc', od', .func (fnOf name' qual' params' body' scope' dV' kV' doc' pm' an' cdv' ct'), osl'⟩) (sel : body = body' → target = target' ∧ if1 = if1' ∧ t2 = t2' ∧ if3 = if3' ∧ test = test' ∧ wbody = wbody' ∧ worelse = worelse' ∧ wpos = wpos' ∧ e2 = e2' ∧ p2 = p2' ∧ yst = yst' ∧ ast = ast' ∧ orelse = orelse')
    {P : Str → Scope → Value → PySem.Expr → Stmt → PySem.Expr → Stmt → PySem.Expr → List Stmt → List Stmt → Pos → List Stmt → Pos → Stmt → Stmt → List Stmt → Prop} (H : P qual' scope' cdv' target' if1' t2' if3' test' wbody' worelse' wpos' e2' p2' yst' ast' orelse') : P qual scope cdv target if1 t2 if3 test wbody worelse wpos e2 p2 yst ast orelse := by
  have e := obj_cd h h'
  have e1 := sel e.2.2.2
  have e2 := And.intro e.1 (And.intro e.2.1 e.2.2.1)
  clear h h' sel e
  obtain ⟨rfl, rfl, rfl⟩ := e2
  obtain ⟨rfl, rfl, rfl, rfl, rfl, rfl, rfl, rfl, rfl, rfl, rfl, rfl, rfl⟩ := e1
  exact H
theorem toNat_split {l mid r : Int} (h1 : l ≤ mid) (h2 : mid ≤ r) : (r - l).toNat = (mid - l).toNat + (r - mid).toNat := by
  rw [← Int.toNat_add (Int.sub_nonneg_of_le h1) (Int.sub_nonneg_of_le h2), show mid - l + (r - mid) = r - l by omega]
theorem toNat_to {l mid : Int} (h0 : 0 ≤ l) (h1 : l ≤ mid) : mid.toNat = l.toNat + (mid - l).toNat := by
  have := toNat_split h0 h1
  rwa [Int.sub_zero, Int.sub_zero] at this
theorem toNat_subs {l r : Int} (h0 : 0 ≤ l) (h1 : l ≤ r) : (r - l).toNat = r.toNat - l.toNat := by rw [toNat_to h0 h1, Nat.add_sub_cancel_left]
theorem toNat_len {r : Int} {n : Nat} (h : r ≤ n) : r.toNat ≤ n := Int.toNat_le.mpr h
theorem half_hi {l r c : Int} {j : Nat} (h1 : l < r) (h2 : (r - l - 1).toNat = j) (h3 : l + 1 ≠ r) (h4 : l + r < 2 * c + 2) : (r - c - 1).toNat < j := by
  rw [← h2]
  exact (Int.toNat_lt_toNat (by omega)).mpr (by omega)
theorem half_lo {l r c : Int} {j : Nat} (h1 : l < r) (h2 : (r - l - 1).toNat = j) (h3 : l + 1 ≠ r) (h4 : 2 * c ≤ l + r) : (c - l - 1).toNat < j := by
  rw [← h2]
  exact (Int.toNat_lt_toNat (by omega)).mpr (by omega)
end Mine
end PartBase

section Rules1
open PySem.W PyProof.Rows Mine
local macro_rules | `(tactic| walk_at "call ref") => `(tactic| (k_here; refine stop_here ?_))
section PartLw
open PySem PySem.Spec PySem.Calls PySem.W PyProof.Rows
set_option Elab.async false
set_option maxRecDepth 100000
set_option maxHeartbeats 8000000
namespace Mine
section
variable {K : Frag} {a : Addr} {name qual : Str} {params : Arguments} {body : List Stmt} {scope : Scope} {dV kV doc pm cdv ct oc : Value} {an od : Option Addr} {osl : Array (Option Value)}
@[reducible] noncomputable def pkBody (_ : K.lookup a = some ⟨oc, od, .func (fnOf name qual params body scope dV kV doc pm an cdv ct), osl⟩) : List Stmt := body
@[reducible] noncomputable def pkQual (_ : K.lookup a = some ⟨oc, od, .func (fnOf name qual params body scope dV kV doc pm an cdv ct), osl⟩) : Str := qual
@[reducible] noncomputable def pkScope (_ : K.lookup a = some ⟨oc, od, .func (fnOf name qual params body scope dV kV doc pm an cdv ct), osl⟩) : Scope := scope
end
/-- the law's body, name and scope, as the head found them -/
noncomputable def lawB (w : World) : List Stmt := pkBody (show (hd.heap_39 w.params).lookup 121 = some _ by k_is)
noncomputable def lawQ (w : World) : Str := pkQual (show (hd.heap_39 w.params).lookup 121 = some _ by k_is)
noncomputable def lawSc (w : World) : Scope := pkScope (show (hd.heap_39 w.params).lookup 121 = some _ by k_is)
noncomputable def nthS : List Stmt → Nat → Stmt
  | [], _ => default
  | a :: _, 0 => a
  | _ :: l, k + 1 => nthS l k
noncomputable def forT : Stmt → PySem.Expr
  | .For t _ _ _ _ => t
  | _ => default
noncomputable def forI : Stmt → PySem.Expr
  | .For _ i _ _ _ => i
  | _ => default
noncomputable def forB : Stmt → List Stmt
  | .For _ _ b _ _ => b
  | _ => []
/-- the law's k-th statement; the k-th statement of the rulers' loop -/
noncomputable def lawS (w : World) (k : Nat) : Stmt := nthS (lawB w) k
noncomputable def rulS (w : World) (k : Nat) : Stmt := nthS (forB (lawS w 5)) k
noncomputable def in8 (w : World) : Stmt := nthS (forB (lawS w 8)) 0
noncomputable def lawEnv (w : World) (L fa : Addr) (cd : Value) : Env := envOfC (lawQ w) (lawSc w) L fa cd
end Mine
end PartLw

section PartBis0
open PySem PySem.Spec PySem.Calls PySem.W PyProof.Rows
set_option Elab.async false
namespace Mine

noncomputable def cntLt (ns : List Int) (x : Int) : Int := ((ns.filter (fun y => decide (y < x))).length : Int)
noncomputable def cntLe (ns : List Int) (x : Int) : Int := ((ns.filter (fun y => decide (y ≤ x))).length : Int)

noncomputable def BInv (ns : List Int) (x lo hi : Int) : Prop := (∀ k : Nat, (k : Int) < lo → k < ns.length → ns.getD k 0 < x) ∧ (∀ k : Nat, hi ≤ (k : Int) → k < ns.length → x ≤ ns.getD k 0)
noncomputable def BInvR (ns : List Int) (x lo hi : Int) : Prop := (∀ k : Nat, (k : Int) < lo → k < ns.length → ns.getD k 0 ≤ x) ∧ (∀ k : Nat, hi ≤ (k : Int) → k < ns.length → x < ns.getD k 0)
noncomputable abbrev BSt (I : Int → Int → Prop) (len lo hi : Int) : Prop := 0 ≤ lo ∧ lo ≤ hi ∧ hi ≤ len ∧ I lo hi

theorem fdiv2 (a : Int) : a.fdiv 2 = a / 2 := Int.fdiv_eq_ediv_of_nonneg a (by decide)

theorem sorted_le {ns : List Int} (hs : ns.Pairwise (· ≤ ·)) {i j : Nat} (hij : i ≤ j) (hj : j < ns.length) : ns.getD i 0 ≤ ns.getD j 0 := by
  rcases Nat.lt_or_eq_of_le hij with h | h
  · have hi : i < ns.length := Nat.lt_trans h hj
    have := List.pairwise_iff_getElem.mp hs i j hi hj h
    simpa [List.getD_eq_getElem?_getD, List.getElem?_eq_getElem hi, List.getElem?_eq_getElem hj] using this
  · subst h; exact Int.le_refl _

theorem bl_0 {ns : List Int} {x : Int} : BSt (BInv ns x) ns.length 0 (ns.length : Int) := ⟨Int.le_refl _, Int.natCast_nonneg _, Int.le_refl _, fun k h _ => by omega, fun k h h' => by omega⟩
theorem bl_lt {ns : List Int} {x lo hi : Int} (hs : ns.Pairwise (· ≤ ·)) (h : BSt (BInv ns x) ns.length lo hi) (hlt : lo < hi) (hc : ns.getD ((lo + hi).fdiv 2).toNat 0 < x) : BSt (BInv ns x) ns.length ((lo + hi).fdiv 2 + 1) hi := by
  obtain ⟨h0, h1, h2, h3, h4⟩ := h
  rw [fdiv2] at hc ⊢
  refine ⟨by omega, by omega, by omega, fun k hk hkl => ?_, h4⟩
  have := sorted_le hs (i := k) (j := ((lo + hi) / 2).toNat) (by omega) (by omega)
  omega
theorem bl_ge {ns : List Int} {x lo hi : Int} (hs : ns.Pairwise (· ≤ ·)) (h : BSt (BInv ns x) ns.length lo hi) (hlt : lo < hi) (hc : ¬ ns.getD ((lo + hi).fdiv 2).toNat 0 < x) : BSt (BInv ns x) ns.length lo ((lo + hi).fdiv 2) := by
  obtain ⟨h0, h1, h2, h3, h4⟩ := h
  rw [fdiv2] at hc ⊢
  refine ⟨by omega, by omega, by omega, h3, fun k hk hkl => ?_⟩
  have := sorted_le hs (i := ((lo + hi) / 2).toNat) (j := k) (by omega) (by omega)
  omega
theorem filter_prefix {p : Int → Bool} : ∀ (ns : List Int) (j : Nat), j ≤ ns.length → (∀ k, k < j → p (ns.getD k 0) = true) → (∀ k, j ≤ k → k < ns.length → p (ns.getD k 0) = false) → (ns.filter p).length = j := by
  intro ns
  induction ns with
  | nil => intro j hj _ _; simp at hj; subst hj; rfl
  | cons a r ih =>
    intro j hj h1 h2
    cases j with
    | zero =>
      have : (a :: r).filter p = [] := by
        rw [List.filter_eq_nil_iff]
        intro y hy
        obtain ⟨k, hk, rfl⟩ := List.mem_iff_getElem.mp hy
        have := h2 k (Nat.zero_le _) hk
        simp only [List.getD_eq_getElem?_getD, List.getElem?_eq_getElem hk, Option.getD_some] at this
        rw [this]; exact Bool.false_ne_true
      rw [this]; rfl
    | succ j =>
      have ha : p a = true := by have := h1 0 (Nat.succ_pos _); simpa using this
      rw [List.filter_cons_of_pos ha, List.length_cons, ih j (by simpa using hj) (fun k hk => by have := h1 (k + 1) (by omega); simpa using this)
        (fun k hk hkl => by have := h2 (k + 1) (by omega) (by simpa using hkl); simpa using this)]
theorem bl_end {ns : List Int} {x lo hi : Int} (h : BSt (BInv ns x) ns.length lo hi) (hn : ¬ lo < hi) : lo = cntLt ns x := by
  obtain ⟨h0, h1, h2, h3, h4⟩ := h
  unfold cntLt
  rw [filter_prefix ns lo.toNat (by omega) (fun k hk => decide_eq_true (h3 k (by omega) (by omega))) (fun k hk hkl => decide_eq_false (by have := h4 k (by omega) hkl; omega))]
  omega

theorem br_0 {ns : List Int} {x : Int} : BSt (BInvR ns x) ns.length 0 (ns.length : Int) := ⟨Int.le_refl _, Int.natCast_nonneg _, Int.le_refl _, fun k h _ => by omega, fun k h h' => by omega⟩
theorem br_lt {ns : List Int} {x lo hi : Int} (hs : ns.Pairwise (· ≤ ·)) (h : BSt (BInvR ns x) ns.length lo hi) (hlt : lo < hi) (hc : ¬ x < ns.getD ((lo + hi).fdiv 2).toNat 0) : BSt (BInvR ns x) ns.length ((lo + hi).fdiv 2 + 1) hi := by
  obtain ⟨h0, h1, h2, h3, h4⟩ := h
  rw [fdiv2] at hc ⊢
  refine ⟨by omega, by omega, by omega, fun k hk hkl => ?_, h4⟩
  have := sorted_le hs (i := k) (j := ((lo + hi) / 2).toNat) (by omega) (by omega)
  omega
theorem br_ge {ns : List Int} {x lo hi : Int} (hs : ns.Pairwise (· ≤ ·)) (h : BSt (BInvR ns x) ns.length lo hi) (hlt : lo < hi) (hc : x < ns.getD ((lo + hi).fdiv 2).toNat 0) : BSt (BInvR ns x) ns.length lo ((lo + hi).fdiv 2) := by
  obtain ⟨h0, h1, h2, h3, h4⟩ := h
  rw [fdiv2] at hc ⊢
  refine ⟨by omega, by omega, by omega, h3, fun k hk hkl => ?_⟩
  have := sorted_le hs (i := ((lo + hi) / 2).toNat) (j := k) (by omega) (by omega)
  omega
theorem br_end {ns : List Int} {x lo hi : Int} (h : BSt (BInvR ns x) ns.length lo hi) (hn : ¬ lo < hi) : lo = cntLe ns x := by
  obtain ⟨h0, h1, h2, h3, h4⟩ := h
  unfold cntLe
  rw [filter_prefix ns lo.toNat (by omega) (fun k hk => decide_eq_true (h3 k (by omega) (by omega))) (fun k hk hkl => decide_eq_false (by have := h4 k (by omega) hkl; omega))]
  omega
section
variable {ns : List Int} {x lo hi : Int}
theorem bl_lt' (hs : ns.Pairwise (· ≤ ·)) (hI : BInv ns x lo hi) (hlt : lo < hi) (hc : ns.getD ((lo + hi).fdiv 2).toNat 0 < x) (h0 : 0 ≤ lo) (h1 : lo ≤ hi) (h2 : hi ≤ (ns.length : Int)) : BSt (BInv ns x) ns.length ((lo + hi).fdiv 2 + 1) hi := bl_lt hs ⟨h0, h1, h2, hI⟩ hlt hc
theorem bl_ge' (hs : ns.Pairwise (· ≤ ·)) (hI : BInv ns x lo hi) (hlt : lo < hi) (hc : ¬ ns.getD ((lo + hi).fdiv 2).toNat 0 < x) (h0 : 0 ≤ lo) (h1 : lo ≤ hi) (h2 : hi ≤ (ns.length : Int)) : BSt (BInv ns x) ns.length lo ((lo + hi).fdiv 2) := bl_ge hs ⟨h0, h1, h2, hI⟩ hlt hc
theorem br_lt' (hs : ns.Pairwise (· ≤ ·)) (hI : BInvR ns x lo hi) (hlt : lo < hi) (hc : ¬ x < ns.getD ((lo + hi).fdiv 2).toNat 0) (h0 : 0 ≤ lo) (h1 : lo ≤ hi) (h2 : hi ≤ (ns.length : Int)) : BSt (BInvR ns x) ns.length ((lo + hi).fdiv 2 + 1) hi := br_lt hs ⟨h0, h1, h2, hI⟩ hlt hc
theorem br_ge' (hs : ns.Pairwise (· ≤ ·)) (hI : BInvR ns x lo hi) (hlt : lo < hi) (hc : x < ns.getD ((lo + hi).fdiv 2).toNat 0) (h0 : 0 ≤ lo) (h1 : lo ≤ hi) (h2 : hi ≤ (ns.length : Int)) : BSt (BInvR ns x) ns.length lo ((lo + hi).fdiv 2) := br_ge hs ⟨h0, h1, h2, hI⟩ hlt hc
theorem b_m1' (hlt : lo < hi) : (hi - ((lo + hi).fdiv 2 + 1)).toNat < (hi - lo).toNat := by
  rw [fdiv2]; omega
theorem b_m2' (hlt : lo < hi) : ((lo + hi).fdiv 2 - lo).toNat < (hi - lo).toNat := by
  rw [fdiv2]; omega
theorem bl_end' (hI : BInv ns x lo hi) (hn : ¬ lo < hi) (h0 : 0 ≤ lo) (h1 : lo ≤ hi) (h2 : hi ≤ (ns.length : Int)) : lo = cntLt ns x := bl_end ⟨h0, h1, h2, hI⟩ hn
theorem br_end' (hI : BInvR ns x lo hi) (hn : ¬ lo < hi) (h0 : 0 ≤ lo) (h1 : lo ≤ hi) (h2 : hi ≤ (ns.length : Int)) : lo = cntLe ns x := br_end ⟨h0, h1, h2, hI⟩ hn
end
end Mine
end PartBis0

section PartBis
open PySem PySem.Spec PySem.Calls PySem.W PyProof.Rows
set_option Elab.async false
set_option maxRecDepth 100000
set_option maxHeartbeats 8000000
namespace Mine
/-- the walk's lines are looked up afresh from here on -/
theorem syncBis {M : Model} {A : Around} {E : Value → Shared → Prop} {s : Shared} {env : Env} {Q : Flow → Shared → Prop} (h : Q .next s) : wpAny M A (execs [] env) Q E s := by
  w_top off
  first | (walk1; exact h) | exact wpAny_execs_nil h
local macro_rules | `(tactic| walk_at "KswEnd") => `(tactic| (k_here; refine stop_here ?_))

theorem bisect_left_spec {w : World} {x : Int} {t2 : Tok} {D : Addr} {n : Nat} {vs : List Value} {ns : List Int} {news : List (Addr × Obj)}
    {p : Program} {loose : List Str} {mean : ExcName → Option Value} {mg mb : Str → Option Value} {dp un : Nat} {gd : Option (List Code)} {cn : Str} {cs : Scope} {fa : Addr} {ccd : Value} {cl : List (Str × Addr)} {outer : List Env} {A₀ : Around} {base h₀ : Heap} {L : Addr} {m : Str → Option Value} {s : Shared} {Q E : Value → Shared → Prop}
    (B : Below A₀ base outer h₀) (F : Fr h₀ L s.heap m) (X : (hd.heap_39 w.params).In h₀) (N : News h₀ L s.heap news) (T : Top p loose mean mg mb h₀) (hk : cs.kind = .function)
    (hm : (D, listOf vs.toArray n) ∈ news) (hi : IntsAre vs ns) (hsort : ns.Pairwise (· ≤ ·)) (hlen : ns.length < 2 ^ 60) (hdp : dp + 1 < recursionLimit) (hun : un + 8 < cLine)
    (hret : ∀ (t : Tok) (h' : Heap) (tk' : Nat), Fr h₀ L h' m → News h₀ L h' news → Q (.int (cntLt ns x) t) { s with heap := h', toks := tk' }) :
      wpAny (model Challenge.rw_rs0150_01.row.prog w) (ktrTop dp un gd cn cs L fa ccd cl outer) (call (.ref 83) [.ref D, .int x t2]) Q E s := by
  have N0 := news_dup N hm
  clear N
  (k_with "exec While Compare cons nil" => k_while (fun _ lo hi => BSt (BInv ns x) ns.length lo hi) (fun _ lo hi => (hi - lo).toNat) "lo" "hi")
  (k_with "state" => exact bl_0)
  refine wpAny_call ?_
  k_dflt (refine' code_def ?k1 ?k2 ?k3 ?k4 ?k5 ?kA ?kF ?kK ?k6 ?k7 ?k8 ?k9 ?kB ?_ ?c2 ?c3 ?c4 ?c5; (case kA => exact rfl); (case kF => exact rfl); (case kK => assumption); (case k1 => k_asm); (case k2 => k_asm); (case k3 => k_asm); (case k4 => k_asm); (case k5 => k_asm); (case k6 => k_is); (case k7 => k_is); (case k8 => ktr_room); (case k9 => (refine' kp_binds ?kx ?ke; (case kx => k_in); (case ke => exact fun _ => rfl))); (case c5 => decide); (case kB => exact locs rfl); (case c2 => exact rfl); (case c3 => exact rfl); (case c4 => exact rfl); k_whole; intro g' L' h' FG' F' N' B' X' T'; (try dsimp only); (try k_lift B'); (try k_fold))
  refine gen_toks fun tk0 => ?_
  k_steps
  · refine ksw_end ⟨_, _, _, _⟩ (by assumption) (by assumption) (fun _ h => h) trivial (by kst_all) (by ksw_same) (by exact bl_lt' (by assumption) (by assumption) (by assumption) (by assumption) (by assumption) (by assumption) (by assumption)) (by exact b_m1' (by assumption))
  · refine ksw_end ⟨_, _, _, _⟩ (by assumption) (by assumption) (fun _ h => h) trivial (by kst_all) (by ksw_same) (by exact bl_ge' (by assumption) (by assumption) (by assumption) (by assumption) (by assumption) (by assumption) (by assumption)) (by exact b_m2' (by assumption))
  have hE := bl_end' (by assumption) (by assumption) (by assumption) (by assumption) (by assumption)
  rw [hE]
  exact hret _ _ _ (by assumption) (news_drop (by assumption))

theorem bisect_left4_spec {w : World} {x : Int} {t2 t3 : Tok} {D : Addr} {n : Nat} {vs : List Value} {ns : List Int} {news : List (Addr × Obj)}
    {p : Program} {loose : List Str} {mean : ExcName → Option Value} {mg mb : Str → Option Value} {dp un : Nat} {gd : Option (List Code)} {cn : Str} {cs : Scope} {fa : Addr} {ccd : Value} {cl : List (Str × Addr)} {outer : List Env} {A₀ : Around} {base h₀ : Heap} {L : Addr} {m : Str → Option Value} {s : Shared} {Q E : Value → Shared → Prop}
    (B : Below A₀ base outer h₀) (F : Fr h₀ L s.heap m) (X : (hd.heap_39 w.params).In h₀) (N : News h₀ L s.heap news) (T : Top p loose mean mg mb h₀) (hk : cs.kind = .function)
    (hm : (D, listOf vs.toArray n) ∈ news) (hi : IntsAre vs ns) (hsort : ns.Pairwise (· ≤ ·)) (hlen : ns.length < 2 ^ 60) (hdp : dp + 1 < recursionLimit) (hun : un + 8 < cLine)
    (hret : ∀ (t : Tok) (h' : Heap) (tk' : Nat), Fr h₀ L h' m → News h₀ L h' news → Q (.int (cntLt ns x) t) { s with heap := h', toks := tk' }) :
      wpAny (model Challenge.rw_rs0150_01.row.prog w) (ktrTop dp un gd cn cs L fa ccd cl outer) (call (.ref 83) [.ref D, .int x t2, .int 0 t3, .none]) Q E s := by
  have N0 := news_dup N hm
  clear N
  (k_with "exec While Compare cons nil" => k_while (fun _ lo hi => BSt (BInv ns x) ns.length lo hi) (fun _ lo hi => (hi - lo).toNat) "lo" "hi")
  (k_with "state" => exact bl_0)
  refine wpAny_call ?_
  k_dflt (refine' code_def ?k1 ?k2 ?k3 ?k4 ?k5 ?kA ?kF ?kK ?k6 ?k7 ?k8 ?k9 ?kB ?_ ?c2 ?c3 ?c4 ?c5; (case kA => exact rfl); (case kF => exact rfl); (case kK => assumption); (case k1 => k_asm); (case k2 => k_asm); (case k3 => k_asm); (case k4 => k_asm); (case k5 => k_asm); (case k6 => k_is); (case k7 => k_is); (case k8 => ktr_room); (case k9 => (refine' kp_binds ?kx ?ke; (case kx => k_in); (case ke => exact fun _ => rfl))); (case c5 => decide); (case kB => exact locs rfl); (case c2 => exact rfl); (case c3 => exact rfl); (case c4 => exact rfl); k_whole; intro g' L' h' FG' F' N' B' X' T'; (try dsimp only); (try k_lift B'); (try k_fold))
  refine gen_toks fun tk0 => ?_
  k_steps
  · refine ksw_end ⟨_, _, _, _⟩ (by assumption) (by assumption) (fun _ h => h) trivial (by kst_all) (by ksw_same) (by exact bl_lt' (by assumption) (by assumption) (by assumption) (by assumption) (by assumption) (by assumption) (by assumption)) (by exact b_m1' (by assumption))
  · refine ksw_end ⟨_, _, _, _⟩ (by assumption) (by assumption) (fun _ h => h) trivial (by kst_all) (by ksw_same) (by exact bl_ge' (by assumption) (by assumption) (by assumption) (by assumption) (by assumption) (by assumption) (by assumption)) (by exact b_m2' (by assumption))
  have hE := bl_end' (by assumption) (by assumption) (by assumption) (by assumption) (by assumption)
  rw [hE]
  exact hret _ _ _ (by assumption) (news_drop (by assumption))

theorem bisect_right_spec {w : World} {x : Int} {t2 : Tok} {D : Addr} {n : Nat} {vs : List Value} {ns : List Int} {news : List (Addr × Obj)}
    {p : Program} {loose : List Str} {mean : ExcName → Option Value} {mg mb : Str → Option Value} {dp un : Nat} {gd : Option (List Code)} {cn : Str} {cs : Scope} {fa : Addr} {ccd : Value} {cl : List (Str × Addr)} {outer : List Env} {A₀ : Around} {base h₀ : Heap} {L : Addr} {m : Str → Option Value} {s : Shared} {Q E : Value → Shared → Prop}
    (B : Below A₀ base outer h₀) (F : Fr h₀ L s.heap m) (X : (hd.heap_39 w.params).In h₀) (N : News h₀ L s.heap news) (T : Top p loose mean mg mb h₀) (hk : cs.kind = .function)
    (hm : (D, listOf vs.toArray n) ∈ news) (hi : IntsAre vs ns) (hsort : ns.Pairwise (· ≤ ·)) (hlen : ns.length < 2 ^ 60) (hdp : dp + 1 < recursionLimit) (hun : un + 8 < cLine)
    (hret : ∀ (t : Tok) (h' : Heap) (tk' : Nat), Fr h₀ L h' m → News h₀ L h' news → Q (.int (cntLe ns x) t) { s with heap := h', toks := tk' }) :
      wpAny (model Challenge.rw_rs0150_01.row.prog w) (ktrTop dp un gd cn cs L fa ccd cl outer) (call (.ref 65) [.ref D, .int x t2]) Q E s := by
  have N0 := news_dup N hm
  clear N
  (k_with "exec While Compare cons nil" => k_while (fun _ lo hi => BSt (BInvR ns x) ns.length lo hi) (fun _ lo hi => (hi - lo).toNat) "lo" "hi")
  (k_with "state" => exact br_0)
  refine wpAny_call ?_
  k_dflt (refine' code_def ?k1 ?k2 ?k3 ?k4 ?k5 ?kA ?kF ?kK ?k6 ?k7 ?k8 ?k9 ?kB ?_ ?c2 ?c3 ?c4 ?c5; (case kA => exact rfl); (case kF => exact rfl); (case kK => assumption); (case k1 => k_asm); (case k2 => k_asm); (case k3 => k_asm); (case k4 => k_asm); (case k5 => k_asm); (case k6 => k_is); (case k7 => k_is); (case k8 => ktr_room); (case k9 => (refine' kp_binds ?kx ?ke; (case kx => k_in); (case ke => exact fun _ => rfl))); (case c5 => decide); (case kB => exact locs rfl); (case c2 => exact rfl); (case c3 => exact rfl); (case c4 => exact rfl); k_whole; intro g' L' h' FG' F' N' B' X' T'; (try dsimp only); (try k_lift B'); (try k_fold))
  refine gen_toks fun tk0 => ?_
  k_steps
  · refine ksw_end ⟨_, _, _, _⟩ (by assumption) (by assumption) (fun _ h => h) trivial (by kst_all) (by ksw_same) (by exact br_ge' (by assumption) (by assumption) (by assumption) (by assumption) (by assumption) (by assumption) (by assumption)) (by exact b_m2' (by assumption))
  · refine ksw_end ⟨_, _, _, _⟩ (by assumption) (by assumption) (fun _ h => h) trivial (by kst_all) (by ksw_same) (by exact br_lt' (by assumption) (by assumption) (by assumption) (by assumption) (by assumption) (by assumption) (by assumption)) (by exact b_m1' (by assumption))
  have hE := br_end' (by assumption) (by assumption) (by assumption) (by assumption) (by assumption)
  rw [hE]
  exact hret _ _ _ (by assumption) (news_drop (by assumption))
end Mine
end PartBis

section PartIns
open PySem PySem.Spec PySem.Calls PySem.W PyProof.Rows
set_option Elab.async false
set_option maxRecDepth 100000
set_option maxHeartbeats 8000000
namespace Mine
/-- the walk's lines are looked up afresh from here on -/
theorem syncIns {M : Model} {A : Around} {E : Value → Shared → Prop} {s : Shared} {env : Env} {Q : Flow → Shared → Prop} (h : Q .next s) : wpAny M A (execs [] env) Q E s := by
  w_top off
  first | (walk1; exact h) | exact wpAny_execs_nil h

noncomputable def insSorted (ns : List Int) (x : Int) : List Int := ns.take (cntLt ns x).toNat ++ x :: ns.drop (cntLt ns x).toNat
theorem cntLt_le (ns : List Int) (x : Int) : 0 ≤ cntLt ns x ∧ cntLt ns x ≤ ns.length := by
  unfold cntLt
  have := List.length_filter_le (fun y => decide (y < x)) ns
  omega
theorem ints_ins {vs : List Value} {ns : List Int} {x : Int} {t : Tok} (hi : IntsAre vs ns) : IntsAre (kl_ins vs (cntLt ns x) (.int x t)) (insSorted ns x) := by
  have hc := cntLt_le ns x
  have hl := hi.length
  unfold kl_ins insSorted
  rw [if_neg (by omega), Nat.min_eq_left (by omega)]
  exact (hi.take _).append (.cons x t (hi.drop _))
theorem fits_cnt {ns : List Int} {x : Int} (h : ns.length ≤ 100) : Builtin.List.listFitsIndex (cntLt ns x) = true := by
  have hc := cntLt_le ns x
  unfold Builtin.List.listFitsIndex
  simp only [Bool.and_eq_true, decide_eq_true_eq]
  omega
theorem ins_room {vs : List Value} {ns : List Int} (hi : IntsAre vs ns) (h : ns.length ≤ 100) : vs.length ≤ sizeLine := by
  rw [hi.length, show sizeLine = 16777216 from rfl]; omega
theorem ins_upd {D : Addr} {o o' : Obj} {rest : List (Addr × Obj)} (h : ∀ p ∈ rest, p.1 ≠ D) : Upd D o o' ((D, o) :: rest) ((D, o') :: rest) := Upd.head h

local macro_rules | `(tactic| walk_at "call builtin:list.insert") => `(tactic| (k_here; refine stop_here ?_))

theorem insort_left_spec {w : World} {x : Int} {t2 : Tok} {D : Addr} {n : Nat} {vs : List Value} {ns : List Int} {rest : List (Addr × Obj)}
    {p : Program} {loose : List Str} {mean : ExcName → Option Value} {mg mb : Str → Option Value} {dp un : Nat} {gd : Option (List Code)} {cn : Str} {cs : Scope} {fa : Addr} {ccd : Value} {cl : List (Str × Addr)} {outer : List Env} {A₀ : Around} {base h₀ : Heap} {L : Addr} {m : Str → Option Value} {s : Shared} {Q E : Value → Shared → Prop}
    (B : Below A₀ base outer h₀) (F : Fr h₀ L s.heap m) (X : (hd.heap_39 w.params).In h₀) (N : News h₀ L s.heap ((D, listOf vs.toArray n) :: rest)) (T : Top p loose mean mg mb h₀) (hk : cs.kind = .function)
    (hne : ∀ p ∈ rest, p.1 ≠ D) (hi : IntsAre vs ns) (hsort : ns.Pairwise (· ≤ ·)) (hlen : ns.length ≤ 100) (hdp : dp + 2 < recursionLimit) (hun : un + 16 < cLine)
    (hret : ∀ (n' : Nat) (vs' : List Value) (h' : Heap) (tk' : Nat), IntsAre vs' (insSorted ns x) → Fr h₀ L h' m → News h₀ L h' ((D, listOf vs'.toArray n') :: rest) → Q .none { s with heap := h', toks := tk' }) :
      wpAny (model Challenge.rw_rs0150_01.row.prog w) (ktrTop dp un gd cn cs L fa ccd cl outer) (call (.ref 74) [.ref D, .int x t2]) Q E s := by
  refine wpAny_call ?_
  k_dflt (refine' code_def ?k1 ?k2 ?k3 ?k4 ?k5 ?kA ?kF ?kK ?k6 ?k7 ?k8 ?k9 ?kB ?_ ?c2 ?c3 ?c4 ?c5; (case kA => exact rfl); (case kF => exact rfl); (case kK => assumption); (case k1 => k_asm); (case k2 => k_asm); (case k3 => k_asm); (case k4 => k_asm); (case k5 => k_asm); (case k6 => k_is); (case k7 => k_is); (case k8 => ktr_room); (case k9 => (refine' kp_binds ?kx ?ke; (case kx => k_in); (case ke => exact fun _ => rfl))); (case c5 => decide); (case kB => exact locs rfl); (case c2 => exact rfl); (case c3 => exact rfl); (case c4 => exact rfl); k_whole; intro g' L' h' FG' F' N' B' X' T'; (try dsimp only); (try k_lift B'); (try k_fold))
  refine gen_toks fun tk0 => ?_
  k_steps
  k_dflt (refine' bisect_left4_spec ?k1 ?k2 ?k3 ?k4 ?k5 ?kK ?hm ?hi ?hs ?hl ?hd ?hu ?_; (case k1 => k_asm); (case k2 => k_asm); (case k3 => k_asm); (case k4 => k_asm); (case k5 => k_asm); (case kK => exact rfl); (case hm => k_mem); (case hi => assumption); (case hs => assumption); (case hl => omega); (case hd => ktr_room); (case hu => ktr_units)); intro t9 h9 tk9 F9 N9; (try dsimp only)
  k_steps
  k_dflt (refine' kl_insert ?F ?N ?f rfl ?U ?z ?_; (case F => k_asm); (case N => k_asm); (case U => exact ins_upd (by assumption)); (case f => exact fits_cnt (by assumption)); (case z => exact ins_room (by assumption) (by assumption))); intro h9 F9 N9
  k_steps
  exact hret _ _ _ _ (ints_ins hi) (by assumption) (by assumption)
end Mine
end PartIns

section PartDig0
open PySem PySem.Spec PySem.Calls PySem.W PyProof.Rows
set_option Elab.async false
namespace Mine

noncomputable def dval (B : Int) : List Int → Int
  | [] => 0
  | d :: r => d + B * dval B r
noncomputable def digs (B : Int) : Nat → Int → List Int
  | 0, _ => []
  | k + 1, x => x % B :: digs B k (x / B)

theorem dval_append (B : Int) (xs ys : List Int) : dval B (xs ++ ys) = dval B xs + B ^ xs.length * dval B ys := by
  induction xs with
  | nil => simp [dval]
  | cons d r ih => simp only [List.cons_append, dval, ih, List.length_cons, Int.pow_succ, Int.mul_add]; rw [Int.add_assoc, Int.mul_comm (B ^ r.length) B, Int.mul_assoc]
theorem dval_bound {B : Int} (hB : 0 < B) (xs : List Int) (h : ∀ d ∈ xs, 0 ≤ d ∧ d < B) : 0 ≤ dval B xs ∧ dval B xs < B ^ xs.length := by
  induction xs with
  | nil => simp [dval]
  | cons d r ih =>
    have hd := h d (.head _)
    have hr := ih fun x hx => h x (.tail _ hx)
    simp only [dval, List.length_cons, Int.pow_succ]
    have h1 : 0 ≤ B * dval B r := Int.mul_nonneg (Int.le_of_lt hB) hr.1
    have h2 : B * (dval B r + 1) ≤ B * B ^ r.length := Int.mul_le_mul_of_nonneg_left (by omega) (Int.le_of_lt hB)
    rw [Int.mul_add, Int.mul_one] at h2
    rw [Int.mul_comm (B ^ r.length) B]
    omega
theorem digs_length (B : Int) (k : Nat) (x : Int) : (digs B k x).length = k := by
  induction k generalizing x with
  | zero => rfl
  | succ k ih => simp [digs, ih]
theorem digs_add {B : Int} (hB : 0 < B) (j k : Nat) (x : Int) : digs B (j + k) x = digs B j x ++ digs B k (x / B ^ j) := by
  induction j generalizing x with
  | zero => simp [digs]
  | succ j ih =>
    rw [Nat.succ_add]
    simp only [digs, List.cons_append, ih]
    rw [Int.ediv_ediv_of_nonneg (Int.le_of_lt hB), Int.pow_succ, Int.mul_comm B]
theorem digs_mod {B : Int} (hB : 0 < B) (j : Nat) (x : Int) : digs B j (x % B ^ j) = digs B j x := by
  induction j generalizing x with
  | zero => rfl
  | succ j ih =>
    simp only [digs]
    have e : B ^ (j + 1) = B * B ^ j := by rw [Int.pow_succ, Int.mul_comm]
    have e1 : x % B ^ (j + 1) % B = x % B := by rw [e]; exact Int.emod_emod_of_dvd _ (Int.dvd_mul_right _ _)
    have e2 : x % B ^ (j + 1) / B = x / B % B ^ j := by
      have h1 : x / B % B ^ j = x / B - B ^ j * (x / (B * B ^ j)) := by rw [Int.emod_def, Int.ediv_ediv_of_nonneg (Int.le_of_lt hB)]
      have h2 : x % (B * B ^ j) = x + B * (-(B ^ j * (x / (B * B ^ j)))) := by rw [Int.emod_def, Int.mul_neg, Int.mul_assoc, Int.sub_eq_add_neg]
      rw [e, h1, h2, Int.add_mul_ediv_left _ _ (Int.ne_of_gt hB), Int.sub_eq_add_neg]
    rw [e1, e2, ih]
theorem dval_digs {B : Int} (hB : 0 < B) (k : Nat) (x : Int) (h0 : 0 ≤ x) (h1 : x < B ^ k) : dval B (digs B k x) = x := by
  induction k generalizing x with
  | zero => simp at h1; simp [digs, dval]; omega
  | succ k ih =>
    simp only [digs, dval]
    have hq : x / B < B ^ k := by
      rw [Int.pow_succ, Int.mul_comm] at h1
      exact Int.ediv_lt_of_lt_mul hB (by rw [Int.mul_comm]; exact h1)
    rw [ih (x / B) (Int.ediv_nonneg h0 (Int.le_of_lt hB)) hq]
    exact Int.emod_add_mul_ediv x B
theorem digs_bound {B : Int} (hB : 0 < B) (k : Nat) (x : Int) : ∀ d ∈ digs B k x, 0 ≤ d ∧ d < B := by
  induction k generalizing x with
  | zero => intro d hd; cases hd
  | succ k ih =>
    intro d hd
    rcases List.mem_cons.mp hd with rfl | hd
    · exact ⟨Int.emod_nonneg _ (Int.ne_of_gt hB), Int.emod_lt_of_pos _ hB⟩
    · exact ih _ d hd
theorem digs_dval {B : Int} (hB : 0 < B) (ds : List Int) (h : ∀ d ∈ ds, 0 ≤ d ∧ d < B) : digs B ds.length (dval B ds) = ds := by
  induction ds with
  | nil => rfl
  | cons d r ih =>
    have hd := h d (.head _)
    simp only [List.length_cons, digs, dval]
    have e1 : (d + B * dval B r) % B = d := by rw [Int.add_mul_emod_self_left]; exact Int.emod_eq_of_lt hd.1 hd.2
    have e2 : (d + B * dval B r) / B = dval B r := by rw [Int.add_mul_ediv_left _ _ (Int.ne_of_gt hB), Int.ediv_eq_zero_of_lt hd.1 hd.2, Int.zero_add]
    rw [e1, e2, ih fun x hx => h x (.tail _ hx)]

theorem two_pow_mono {a b : Nat} (h : a ≤ b) : (2 : Int) ^ a ≤ 2 ^ b := by
  have := Nat.pow_le_pow_right (n := 2) (by decide) h
  have : ((2 ^ a : Nat) : Int) ≤ ((2 ^ b : Nat) : Int) := Int.ofNat_le.mpr this
  simpa using this
theorem two_pow_pos (a : Nat) : (0 : Int) < 2 ^ a := Int.pow_pos (by decide)
theorem bits_le {x : Int} {k : Nat} (h0 : 0 ≤ x) (h : x < 2 ^ k) : Builtin.Int.intBits x ≤ k := by
  unfold Builtin.Int.intBits
  split
  · omega
  · rename_i hx
    have hx' : x ≠ 0 := by simpa using hx
    have hn : x.natAbs ≠ 0 := by omega
    have : x.natAbs < 2 ^ k := by
      have e : ((x.natAbs : Nat) : Int) = x := by omega
      have : ((x.natAbs : Nat) : Int) < ((2 ^ k : Nat) : Int) := by rw [e]; simpa using h
      exact Int.ofNat_lt.mp this
    exact (Nat.log2_lt hn).mpr this
theorem lt_bits {x : Int} (h0 : 0 ≤ x) : x < 2 ^ (Builtin.Int.intBits x) := by
  unfold Builtin.Int.intBits
  split
  · rename_i hx
    have hx' : x = 0 := by simpa using hx
    subst hx'; simp
  · rename_i hx
    have hx' : x ≠ 0 := by simpa using hx
    have hn : x.natAbs ≠ 0 := by omega
    have := (Nat.log2_lt hn).mp (Nat.lt_succ_self _)
    have e : ((x.natAbs : Nat) : Int) = x := by omega
    have : ((x.natAbs : Nat) : Int) < ((2 ^ (x.natAbs.log2 + 1) : Nat) : Int) := Int.ofNat_lt.mpr this
    rw [e] at this
    simpa using this
theorem bits_pos {x : Int} (h0 : 0 < x) : 0 < Builtin.Int.intBits x := by
  unfold Builtin.Int.intBits
  split
  · rename_i hx; have hx' : x = 0 := by simpa using hx
    omega
  · exact Nat.succ_pos _
theorem bits_lo {x : Int} (h0 : 0 < x) : 2 ^ (Builtin.Int.intBits x - 1) ≤ x := by
  unfold Builtin.Int.intBits
  split
  · rename_i hx; have hx' : x = 0 := by simpa using hx
    omega
  · rename_i hx
    have hn : x.natAbs ≠ 0 := by omega
    rw [Nat.add_sub_cancel]
    have := Nat.log2_self_le hn
    have e : ((x.natAbs : Nat) : Int) = x := by omega
    have : ((2 ^ x.natAbs.log2 : Nat) : Int) ≤ ((x.natAbs : Nat) : Int) := Int.ofNat_le.mpr this
    rw [e] at this
    simpa using this
theorem bits_lt_iff {x : Int} (h0 : 0 < x) {k : Nat} : Builtin.Int.intBits x ≤ k ↔ x < 2 ^ k := by
  constructor
  · intro h
    refine Int.lt_of_lt_of_le (lt_bits (Int.le_of_lt h0)) ?_
    exact two_pow_mono h
  · exact bits_le (Int.le_of_lt h0)

theorem xor_low {x : Int} (h0 : 0 ≤ x) (s : Nat) : Builtin.bitXor x (x.fdiv (2 ^ s) * 2 ^ s) = x % 2 ^ s := by
  obtain ⟨k, rfl⟩ := Int.eq_ofNat_of_zero_le h0
  have hp : (0 : Int) ≤ 2 ^ s := Int.le_of_lt (Int.pow_pos (by decide))
  rw [Int.fdiv_eq_ediv_of_nonneg _ hp, bitXor_and]
  have e : ((k : Nat) : Int) / 2 ^ s * 2 ^ s = ((k / 2 ^ s * 2 ^ s : Nat) : Int) := by simp
  rw [e]
  have ha : Builtin.bitAnd (k : Int) ((k / 2 ^ s * 2 ^ s : Nat) : Int) = ((k / 2 ^ s * 2 ^ s : Nat) : Int) := by
    unfold Builtin.bitAnd
    rw [decide_eq_true (Int.natCast_nonneg k), decide_eq_true (Int.natCast_nonneg _)]
    simp only [Int.toNat_natCast]
    congr 1
    apply Nat.eq_of_testBit_eq
    intro i
    rw [Nat.testBit_and, Nat.testBit_mul_two_pow, Nat.testBit_div_two_pow]
    by_cases hi : s ≤ i
    · simp [hi, Nat.sub_add_cancel hi]
    · simp [hi]
  rw [ha]
  have hm := Nat.div_add_mod k (2 ^ s)
  have hm2 : ((k : Nat) : Int) % 2 ^ s = ((k % 2 ^ s : Nat) : Int) := by simp
  rw [hm2]
  have : k / 2 ^ s * 2 ^ s + k % 2 ^ s = k := by rw [Nat.mul_comm]; exact hm
  omega
end Mine
end PartDig0

section PartD2i0
open PySem PySem.Spec PySem.Calls PySem.W PyProof.Rows
set_option Elab.async false
set_option maxRecDepth 100000
set_option maxHeartbeats 8000000
namespace Mine

noncomputable def dslice (ns : List Int) (l r : Int) : List Int := (ns.drop l.toNat).take (r - l).toNat
noncomputable abbrev q37 : Str := (Str.ofString "_digits2int" ++ (".<locals>." : Str)) ++ Str.ofString "inner"

noncomputable def InnerD (w : World) (p : Program) (loose : List Str) (mean : ExcName → Option Value) (mg mb : Str → Option Value) (f : Addr) (news : List (Addr × Obj)) (ns : List Int) (n : Int) (j : Nat) : Prop :=
  ∀ (dp un : Nat) (gd : Option (List Code)) (cn : Str) (cs : Scope) (fa : Addr) (ccd : Value) (cl : List (Str × Addr)) (outer : List Env) (A₀ : Around) (base h₀ : Heap) (L : Addr) (m : Str → Option Value) (s : Shared) (Q E : Value → Shared → Prop)
    (l r : Int) (tl tr : Tok), l < r → (r - l - 1).toNat = j → 0 ≤ l → r ≤ ns.length →
    Below A₀ base outer h₀ → Fr h₀ L s.heap m → (hd.heap_39 w.params).In h₀ → News h₀ L s.heap news → Top p loose mean mg mb h₀ → cs.kind = .function →
    dp + (j + 2) < recursionLimit → un + 8 * (j + 2) < cLine →
    (∀ (t : Tok) (h' : Heap) (tk' : Nat), Fr h₀ L h' m → News h₀ L h' news → Q (.int (dval (2 ^ n.toNat) (dslice ns l r)) t) { s with heap := h', toks := tk' }) →
    wpAny (model Challenge.rw_rs0150_01.row.prog w) (ktrTop dp un gd cn cs L fa ccd cl outer) (call (.ref f) [.int l tl, .int r tr]) Q E s

section
variable {w : World} {p : Program} {loose : List Str} {mean : ExcName → Option Value} {mg mb : Str → Option Value} {f : Addr} {news : List (Addr × Obj)} {ns : List Int} {n : Int}
theorem innerD_ih {j : Nat} (IH : ∀ j' < j, InnerD w p loose mean mg mb f news ns n j') {dp un : Nat} {gd : Option (List Code)} {cn : Str} {cs : Scope} {fa : Addr} {ccd : Value} {cl : List (Str × Addr)} {outer : List Env} {A₀ : Around} {base h₀ : Heap} {L : Addr} {m : Str → Option Value} {s : Shared} {Q E : Value → Shared → Prop} {l r : Int} {tl tr : Tok}
    (B : Below A₀ base outer h₀) (F : Fr h₀ L s.heap m) (X : (hd.heap_39 w.params).In h₀) (N : News h₀ L s.heap news) (T : Top p loose mean mg mb h₀) (hk : cs.kind = .function)
    (hlr : l < r) (hj : (r - l - 1).toNat < j) (h0 : 0 ≤ l) (hr : r ≤ ns.length) (hdp : dp + (j + 1) < recursionLimit) (hun : un + 8 * (j + 1) < cLine)
    (hret : ∀ (t : Tok) (h' : Heap) (tk' : Nat), Fr h₀ L h' m → News h₀ L h' news → Q (.int (dval (2 ^ n.toNat) (dslice ns l r)) t) { s with heap := h', toks := tk' }) :
    wpAny (model Challenge.rw_rs0150_01.row.prog w) (ktrTop dp un gd cn cs L fa ccd cl outer) (call (.ref f) [.int l tl, .int r tr]) Q E s :=
  IH _ hj _ _ _ _ _ _ _ _ _ _ _ _ _ _ _ _ _ l r tl tr hlr rfl h0 hr B F X N T hk (Nat.lt_of_le_of_lt (Nat.add_le_add_left (Nat.succ_le_succ hj) dp) hdp) (Nat.lt_of_le_of_lt (Nat.add_le_add_left (Nat.mul_le_mul_left 8 (Nat.succ_le_succ hj)) un) hun) hret
theorem innerD_call {dp un : Nat} {gd : Option (List Code)} {cn : Str} {cs : Scope} {fa : Addr} {ccd : Value} {cl : List (Str × Addr)} {outer : List Env} {A₀ : Around} {base h₀ : Heap} {L : Addr} {m : Str → Option Value} {s : Shared} {Q E : Value → Shared → Prop} {t0 t1 : Tok}
    (B : Below A₀ base outer h₀) (F : Fr h₀ L s.heap m) (X : (hd.heap_39 w.params).In h₀) (N : News h₀ L s.heap news) (T : Top p loose mean mg mb h₀) (hk : cs.kind = .function)
    (hpos : 0 < ns.length) (hdp : dp + (ns.length + 1) < recursionLimit) (hun : un + 8 * (ns.length + 1) < cLine)
    (hret : ∀ (t : Tok) (h' : Heap) (tk' : Nat), Fr h₀ L h' m → News h₀ L h' news → Q (.int (dval (2 ^ n.toNat) ns) t) { s with heap := h', toks := tk' })
    (step : ∀ j, (∀ j' < j, InnerD w p loose mean mg mb f news ns n j') → InnerD w p loose mean mg mb f news ns n j) :
    wpAny (model Challenge.rw_rs0150_01.row.prog w) (ktrTop dp un gd cn cs L fa ccd cl outer) (call (.ref f) [.int 0 t0, .int (ns.length : Int) t1]) Q E s := by
  have all : ∀ j, InnerD w p loose mean mg mb f news ns n j := fun j => Nat.strongRecOn j step
  refine all (ns.length - 1) _ _ _ _ _ _ _ _ _ _ _ _ _ _ _ _ _ 0 ns.length t0 t1 (Int.ofNat_lt.mpr hpos) (by rw [Int.sub_zero]; exact Int.toNat_sub ns.length 1) (Int.le_refl _) (Int.le_refl _) B F X N T hk (by omega) (by omega) ?_
  have e : dslice ns 0 (ns.length : Int) = ns := by unfold dslice; simp
  rw [e]; exact hret
end

theorem rshift_one {prog : Program} {w : World} {A : Around} {E : Value → Shared → Prop} {s : Shared} {Q : Value → Shared → Prop} {a : Int} {t u : Tok} (h : ∀ c : Int, 2 * c ≤ a → a < 2 * c + 2 → Q (.int c s.toks) { s with toks := s.toks + 1 }) :
    wpAny (model prog w) A (binaryOp .RShift (.int a t) (.int 1 u)) Q E s := by
  refine rshift_int (by decide) ?_
  have e : a.fdiv (2 ^ (1 : Int).toNat) = a / 2 := Int.fdiv_eq_ediv_of_nonneg a (by decide)
  rw [e]
  exact h _ (by omega) (by omega)
theorem dslice_len (ns : List Int) {l r : Int} (h0 : 0 ≤ l) (hlr : l ≤ r) (hr : r ≤ ns.length) : (dslice ns l r).length = (r - l).toNat := by
  unfold dslice; rw [List.length_take, List.length_drop, toNat_subs h0 hlr, Nat.min_eq_left (Nat.sub_le_sub_right (toNat_len hr) _)]
theorem dslice_one {ns : List Int} {l r : Int} (h0 : 0 ≤ l) (he : l + 1 = r) (hr : r ≤ ns.length) (B : Int) : ns.getD l.toNat 0 = dval B (dslice ns l r) := by
  subst he
  unfold dslice
  have e : (l + 1 - l).toNat = 1 := by omega
  have hl : l.toNat < ns.length := by omega
  rw [e, List.drop_eq_getElem_cons hl, List.take_succ_cons, List.take_zero]
  simp only [dval, Int.mul_zero, Int.add_zero, List.getD_eq_getElem?_getD, List.getElem?_eq_getElem hl, Option.getD_some]
theorem dslice_app {ns : List Int} {l mid r : Int} (h0 : 0 ≤ l) (h1 : l ≤ mid) (h2 : mid ≤ r) : dslice ns l r = dslice ns l mid ++ dslice ns mid r := by
  unfold dslice
  have e1 := toNat_split h1 h2
  have e2 := toNat_to h0 h1
  rw [e1, List.take_add, List.drop_drop, ← e2]
theorem dslice_mem {ns : List Int} {l r d : Int} (h : d ∈ dslice ns l r) : d ∈ ns := List.mem_of_mem_drop (List.mem_of_mem_take h)
theorem pow_shift {n k : Int} (hn : 0 ≤ n) (hk : 0 ≤ k) : (2 : Int) ^ (k * n).toNat = (2 ^ n.toNat) ^ k.toNat := by
  rw [← Int.pow_mul]
  congr 1
  rw [Int.mul_comm, Int.toNat_mul hn hk]
theorem d2i_join {ns : List Int} {l mid r n : Int} (hn : 0 ≤ n) (h0 : 0 ≤ l) (h1 : l < mid) (h2 : mid < r) (hr : r ≤ ns.length) :
    dval (2 ^ n.toNat) (dslice ns mid r) * 2 ^ ((mid - l) * n).toNat + dval (2 ^ n.toNat) (dslice ns l mid) = dval (2 ^ n.toNat) (dslice ns l r) := by
  rw [dslice_app h0 (Int.le_of_lt h1) (Int.le_of_lt h2), dval_append, dslice_len ns h0 (Int.le_of_lt h1) (by omega), pow_shift hn (by omega), Int.mul_comm]
  omega
theorem mul_le_of {a b c d : Int} (h0 : 0 ≤ a) (h1 : a ≤ c) (h2 : 0 ≤ b) (h3 : b ≤ d) : a * b ≤ c * d :=
  Int.le_trans (Int.mul_le_mul_of_nonneg_right h1 h2) (Int.mul_le_mul_of_nonneg_left h3 (by omega))
theorem d2i_bits {ns : List Int} {mid r n l : Int} (hn : 0 ≤ n) (hn2 : n ≤ 200) (hd : ∀ d ∈ ns, 0 ≤ d ∧ d < 2 ^ n.toNat) (hlen : ns.length ≤ 100) (h0 : 0 ≤ l) (h1 : l < mid) (h2 : mid < r) (hr : r ≤ ns.length) :
    (Builtin.Int.intBits (dval (2 ^ n.toNat) (dslice ns mid r)) : Int) + (mid - l) * n ≤ 2 ^ 27 := by
  have hb := dval_bound (two_pow_pos n.toNat) (dslice ns mid r) fun d h => hd d (dslice_mem h)
  rw [dslice_len ns (by omega) (Int.le_of_lt h2) hr, ← Int.pow_mul] at hb
  have h3 := bits_le hb.1 hb.2
  have h4 : n.toNat * (r - mid).toNat ≤ 200 * 100 := Nat.mul_le_mul (by omega) (by omega)
  have h5 : (mid - l) * n ≤ 100 * 200 := mul_le_of (by omega) (by omega) hn hn2
  omega
theorem shift_nonneg {a n : Int} (h : 0 ≤ a) (hn : 0 ≤ n) : 0 ≤ a * n := Int.mul_nonneg h hn

theorem tb1_mem {P cc : Addr} {o oc : Obj} {news : List (Addr × Obj)} {g : Obj → Addr → Obj → List (Addr × Obj)} (U : Tb1 P o cc oc news g) : (P, o) ∈ news := by
  obtain ⟨pre, post, a, _⟩ := U.split
  rw [a]; simp
theorem tb1_mem2 {P cc : Addr} {o oc : Obj} {news : List (Addr × Obj)} {g : Obj → Addr → Obj → List (Addr × Obj)} (U : Tb1 P o cc oc news g) : (cc, oc) ∈ news := by
  obtain ⟨pre, post, a, _⟩ := U.split
  rw [a]; simp
theorem tb1_memG {P cc cc' : Addr} {o oc o' oc' : Obj} {news : List (Addr × Obj)} {g : Obj → Addr → Obj → List (Addr × Obj)} (U : Tb1 P o cc oc news g) : (cc', oc') ∈ g o' cc' oc' := by
  obtain ⟨pre, post, _, a, _⟩ := U.split
  rw [a]; simp
theorem tb1_ne {P cc cc' b d : Nat} {o oc o' oc' : Obj} {news : List (Addr × Obj)} {g : Obj → Addr → Obj → List (Addr × Obj)} (U : Tb1 P o cc oc news g) (hb : ∀ p ∈ news, p.1 < b) (hd : b ≤ d) (hc : cc' = cc ∨ d ≠ cc') : ∀ p ∈ g o' cc' oc', p.1 ≠ d := by
  obtain ⟨pre, post, a, e, _, _⟩ := U.split
  rw [e]
  rw [a] at hb
  intro p hp
  rcases List.mem_append.mp hp with hp | hp
  · exact Nat.ne_of_lt (Nat.lt_of_lt_of_le (hb p (by simp [hp])) hd)
  · rcases List.mem_cons.mp hp with rfl | hp
    · exact Nat.ne_of_lt (Nat.lt_of_lt_of_le (hb (P, o) (by simp)) hd)
    · rcases List.mem_cons.mp hp with rfl | hp
      · rcases hc with rfl | hc
        · exact Nat.ne_of_lt (Nat.lt_of_lt_of_le (hb (cc', oc) (by simp)) hd)
        · exact Ne.symm hc
      · exact Nat.ne_of_lt (Nat.lt_of_lt_of_le (hb p (by simp [hp])) hd)
theorem lt_ne_all {rest : List (Addr × Obj)} {b d : Nat} (h : ∀ p ∈ rest, p.1 < b) (hd : b ≤ d) : ∀ p ∈ rest, p.1 ≠ d := fun p hp => Nat.ne_of_lt (Nat.lt_of_lt_of_le (h p hp) hd)
end Mine
end PartD2i0

section PartD2i
open PySem PySem.Spec PySem.Calls PySem.W PyProof.Rows
set_option Elab.async false
set_option maxRecDepth 100000
set_option maxHeartbeats 8000000
namespace Mine
/-- the walk's lines are looked up afresh from here on -/
theorem syncD2i {M : Model} {A : Around} {E : Value → Shared → Prop} {s : Shared} {env : Env} {Q : Flow → Shared → Prop} (h : Q .next s) : wpAny M A (execs [] env) Q E s := by
  w_top off
  first | (walk1; exact h) | exact wpAny_execs_nil h

local macro_rules | `(tactic| k_all) => `(tactic| first | assumption | exact lt_ne_all (by assumption) (by omega))
local macro_rules | `(tactic| walk_at "binaryOp RShift int int") => `(tactic| (k_here; refine stop_here ?_))
local macro_rules | `(tactic| walk_at "binaryOp LShift int int") => `(tactic| (k_here; refine stop_here ?_))

theorem d2i_spec {w : World} {D : Addr} {k : Nat} {vs : List Value} {ns : List Int} {n : Int} {t2 : Tok} {news : List (Addr × Obj)} {o oc : Obj} {cc : Addr} {g : Obj → Addr → Obj → List (Addr × Obj)}
    {p : Program} {loose : List Str} {mean : ExcName → Option Value} {mg mb : Str → Option Value} {dp un : Nat} {gd : Option (List Code)} {cn : Str} {cs : Scope} {fa : Addr} {ccd : Value} {cl : List (Str × Addr)} {outer : List Env} {A₀ : Around} {base h₀ : Heap} {L : Addr} {m : Str → Option Value} {s : Shared} {Q E : Value → Shared → Prop}
    (B : Below A₀ base outer h₀) (F : Fr h₀ L s.heap m) (X : (hd.heap_39 w.params).In h₀) (N : News h₀ L s.heap news) (T : Top p loose mean mg mb h₀) (hk : cs.kind = .function)
    (U : Tb1 37 o cc oc news g) (hT : TabP 37 47 4 q37 o cc oc) (hm : (D, listOf vs.toArray k) ∈ news) (hD : D ≠ 37) (hi : IntsAre vs ns) (hlen : ns.length ≤ 100) (hn : 0 ≤ n) (hn2 : n ≤ 200) (hds : ∀ d ∈ ns, 0 ≤ d ∧ d < 2 ^ n.toNat) (hdp : dp + 150 < recursionLimit) (hun : un + 1500 < cLine) 
    (hret : ∀ (t : Tok) (o' : Obj) (cc' : Addr) (oc' : Obj) (h' : Heap) (tk' : Nat), TabF 37 47 4 q37 o' cc' oc' → (TabF 37 47 4 q37 o cc oc → o' = o ∧ cc' = cc ∧ oc' = oc) → (cc' = cc ∨ ∀ p ∈ news, p.1 < cc') → Fr h₀ L h' m → News h₀ L h' (g o' cc' oc') → Q (.int (dval (2 ^ n.toNat) ns) t) { s with heap := h', toks := tk' }) :
      wpAny (model Challenge.rw_rs0150_01.row.prog w) (ktrTop dp un gd cn cs L fa ccd cl outer) (call (.ref 42) [.ref D, .int n t2]) Q E s := by
  have N0 := news_dup N hm
  have U0 : Tb1 37 o cc oc ((D, listOf vs.toArray k) :: news) _ := Tb1.cons hD U
  clear N
  refine wpAny_call ?_
  k_dflt (refine' code_defC ?k1 ?k2 ?k3 ?k4 ?k5 ?kA ?kF ?kK ?k6 ?k7 ?k8 ?k9 ?kB ?kD ?_ ?c2 ?c3 ?c4; (case kA => exact rfl); (case kF => exact rfl); (case kK => assumption); (case k1 => k_asm); (case k2 => k_asm); (case k3 => k_asm); (case k4 => k_asm); (case k5 => k_asm); (case k6 => k_is); (case k7 => k_is); (case k8 => ktr_room); (case k9 => exact BindsTo.of_eq rfl); (case kB => exact rfl); (case kD => decide +kernel); (case c2 => exact rfl); (case c3 => exact rfl); (case c4 => exact rfl); k_whole; intro g' L' h' tk' cells' FG' F' N' Y' B' X' T' l1; (have l0 := l1); (try k_lt l1); k_cells Y'; (try simp only [List.cons_append, List.nil_append] at N'); (try dsimp only); (try k_lift B'); (try k_fold))
  refine gen_toks fun tk0 => ?_
  have C41 := codeHd41 X'
  have hL37 : (37 : Nat) < L' := l0 (37, o) (.tail _ (tb1_mem U))
  have hr : ∀ p ∈ news, p.1 < L' := fun p hp => l0 p (.tail _ hp)
  k_steps
  k_dflt (refine' nestDef_K ?d0 ?k0 ?a0 ?_; (case d0 => exact rfl); (case k0 => exact rfl); (case a0 => exact rfl))
  k_dflt (refine' nest_tab ?F ?N ?T ?C ?cd ?U ?t ?cl ?_; (case F => k_asm); (case N => k_asm); (case T => k_asm); (case cd => exact rfl); (case C => kn_code); (case U => exact Tb1.cons (neN (by dsimp only; omega)) (Tb1.cons (neN (by dsimp only; omega)) (Tb1.cons (neN (by dsimp only; omega)) U0))); (case t => exact hT); (case cl => exact rfl); k_whole)
  intro f9 o9 cc9 oc9 vs9 t9 ct9 dc9 h9 tk9 F9 N9 hTF9 hTe9 d91 d92 l91 l92 l93
  (try dsimp only at N9)
  have e1 := tb1_ne U (d := L' + 1 + 1 + 1) (o' := o9) (cc' := cc9) (oc' := oc9) hr (by omega) (l93.imp id fun x => Nat.ne_of_lt (x (L' + 1 + 1 + 1, _) (.head _)))
  have e2 : @Ne Nat cc9 (L' + 1 + 1 + 1) := l93.elim (fun x => Nat.ne_of_lt (Nat.lt_of_lt_of_le (x ▸ hr (cc, oc) (tb1_mem2 U)) (by omega))) fun x => Nat.ne_of_gt (x (L' + 1 + 1 + 1, _) (.head _))
  have N10 := news_dup (p := (cc9, oc9)) N9 (.tail _ (.tail _ (.tail _ (.tail _ (.tail _ (tb1_memG U))))))
  clear N9
  k_lt l91
  k_steps
  · k_dflt (refine' innerD_call (n := n) ?k1 ?k2 ?k3 ?k4 ?k5 ?kK ?a1 ?hd ?hu ?hr ?step; (case k1 => k_asm); (case k2 => k_asm); (case k3 => k_asm); (case k4 => k_asm); (case k5 => k_asm); (case kK => exact rfl); (case a1 => assumption); (case hd => ktr_room); (case hu => ktr_units))
    case hr =>
      intro t8 h8 tk8 F8 N8
      k_steps
      exact hret _ _ _ _ _ _ hTF9 hTe9 (l93.imp id fun x p hp => x p (.tail _ (.tail _ (.tail _ (.tail _ hp))))) (by assumption) (news_sub (by assumption) fun p hp => .tail _ (.tail _ (.tail _ (.tail _ (.tail _ (.tail _ hp))))))
    case step =>
      intro j IH
      unfold InnerD
      intro dp2 un2 gd2 cn2 cs2 fa2 ccd2 cl2 outer2 A2 base2 h2 L2 m2 s2 Q2 E2 l r tl tr hlr hj h0 hr2 B2 F2 X2 N2 T2 hk2 hdp2 hun2 hret2
      refine wpAny_call ?_
      k_dflt (refine' code_nest ?k1 ?k2 ?k3 ?k4 ?k5 ?kA ?kF ?kK ?k6 ?k7 ?k8 ?k9 ?kB ?_ ?c2 ?c3 ?c4 ?c5; (case kA => exact rfl); (case kF => exact rfl); (case kK => assumption); (case k1 => k_asm); (case k2 => k_asm); (case k3 => k_asm); (case k4 => k_asm); (case k5 => k_asm); (case k6 => k_mem); (case k7 => exact codeRec_news (by k_asm) (by k_mem) (by assumption) (by assumption)); (case k8 => ktr_room); (case k9 => exact BindsTo.of_eq rfl); (case c5 => decide); (case kB => exact locs rfl); (case c2 => exact rfl); (case c3 => exact rfl); (case c4 => exact rfl); k_whole; intro g2' L2' h2' FG2' F2' N2' B2' X2' T2'; (try dsimp only); (try k_lift B2'); (try k_fold))
      refine gen_toks fun tk0 => ?_
      k_steps
      · rw [dslice_one h0 (by assumption) hr2 (2 ^ n.toNat)]
        exact hret2 _ _ _ (by assumption) (by assumption)
      · refine rshift_one ?_
        intro c9 hc1 hc2
        k_steps
        k_dflt (refine' innerD_ih (by assumption) ?k1 ?k2 ?k3 ?k4 ?k5 ?kK ?a1 ?a2 ?a3 ?a4 ?hd ?hu ?_; (case k1 => k_asm); (case k2 => k_asm); (case k3 => k_asm); (case k4 => k_asm); (case k5 => k_asm); (case kK => exact rfl); (case a1 => omega); (case a2 => first | exact half_hi (by assumption) (by assumption) (by assumption) (by assumption) | exact half_lo (by assumption) (by assumption) (by assumption) (by assumption) | omega); (case a3 => omega); (case a4 => omega); (case hd => ktr_room); (case hu => ktr_units)); intro t9 h9 tk9 F9 N9; (try dsimp only)
        k_steps
        refine lshift_int (shift_nonneg (by omega) (by assumption)) (d2i_bits (by assumption) (by assumption) (by assumption) (by assumption) (by omega) (by omega) (by omega) (by assumption)) ?_
        k_steps
        k_dflt (refine' innerD_ih (by assumption) ?k1 ?k2 ?k3 ?k4 ?k5 ?kK ?a1 ?a2 ?a3 ?a4 ?hd ?hu ?_; (case k1 => k_asm); (case k2 => k_asm); (case k3 => k_asm); (case k4 => k_asm); (case k5 => k_asm); (case kK => exact rfl); (case a1 => omega); (case a2 => first | exact half_hi (by assumption) (by assumption) (by assumption) (by assumption) | exact half_lo (by assumption) (by assumption) (by assumption) (by assumption) | omega); (case a3 => omega); (case a4 => omega); (case hd => ktr_room); (case hu => ktr_units)); intro t9 h9 tk9 F9 N9; (try dsimp only)
        k_steps
        rw [d2i_join hn h0 (by omega) (by omega) hr2]
        exact hret2 _ _ _ (by assumption) (by assumption)
  · have hz : ns = [] := List.eq_nil_of_length_eq_zero (by omega)
    have hq : ∀ t h' tk', Fr h₀ L h' m → News h₀ L h' (g o9 cc9 oc9) → Q (.int 0 t) { s with heap := h', toks := tk' } := fun t h' tk' F7 N7 => by
      have := hret t o9 cc9 oc9 h' tk' hTF9 hTe9 (l93.imp id fun x p hp => x p (.tail _ (.tail _ (.tail _ (.tail _ hp))))) F7 N7
      rw [hz] at this
      exact this
    exact hq _ _ _ (by assumption) (news_sub (by assumption) fun p hp => .tail _ (.tail _ (.tail _ (.tail _ (.tail _ (.tail _ hp))))))
end Mine
end PartD2i

section PartI2d0
open PySem PySem.Spec PySem.Calls PySem.W PyProof.Rows
set_option Elab.async false
set_option maxRecDepth 100000
set_option maxHeartbeats 8000000
namespace Mine

noncomputable abbrev q30 : Str := (Str.ofString "_int2digits" ++ (".<locals>." : Str)) ++ Str.ofString "inner"
noncomputable def i2dLen (a n : Int) : Nat := (((Builtin.Int.intBits a : Int) + n - 1).fdiv n).toNat
noncomputable def i2d (a n : Int) : List Int := digs (2 ^ n.toNat) (i2dLen a n) a
noncomputable def putD (ns : List Int) (l r : Int) (ds : List Int) : List Int := ns.take l.toNat ++ (ds ++ ns.drop r.toNat)

theorem ints_rep0 (t : Tok) (k : Nat) : IntsAre (List.replicate k [Value.int 0 t]).flatten (List.replicate k 0) := by
  induction k with
  | zero => exact .nil
  | succ k ih => rw [List.replicate_succ, List.replicate_succ]; exact .cons 0 t ih
theorem mul0 {prog : Program} {w : World} {A : Around} {E : Value → Shared → Prop} {s : Shared} {h₀ : Heap} {L : Addr} {m : Str → Option Value} {news : List (Addr × Obj)} {l : Addr} {t : Tok} {x : Int} {u : Tok} {Q : Value → Shared → Prop}
    (Fm : Fr h₀ L s.heap m) (N : News h₀ L s.heap news) (hl : s.heap.IsList l #[Value.int 0 t]) (h0 : 0 ≤ x) (hx : x ≤ 200)
    (h : ∀ D vs h', Fr h₀ L h' m → News h₀ L h' ((D, listOf vs.toArray 0) :: news) → (∀ p ∈ news, p.1 < D) → IntsAre vs (List.replicate x.toNat 0) → Q (.ref D) { s with heap := h' }) : wpAny (model prog w) A (binaryOp .Mult (.ref l) (.int x u)) Q E s :=
  KMa.mul (vs := [Value.int 0 t]) Fm N hl (by omega) (by omega) (by simp; omega) rfl fun D h' F' N' l1 => h D _ h' F' N' l1 (ints_rep0 t x.toNat)
theorem i2dLen_nonneg {a n : Int} (hn : 0 < n) : 0 ≤ ((Builtin.Int.intBits a : Int) + n - 1).fdiv n := by
  rw [Int.fdiv_eq_ediv_of_nonneg _ (Int.le_of_lt hn)]
  exact Int.ediv_nonneg (by omega) (Int.le_of_lt hn)
theorem i2d_lt {a n : Int} (h0 : 0 ≤ a) (hn : 0 < n) : a < (2 ^ n.toNat) ^ (i2dLen a n) := by
  refine Int.lt_of_lt_of_le (lt_bits h0) ?_
  rw [← Int.pow_mul]
  refine two_pow_mono ?_
  unfold i2dLen
  have h1 := i2dLen_nonneg (a := a) hn
  rw [Int.fdiv_eq_ediv_of_nonneg _ (Int.le_of_lt hn)] at h1 ⊢
  generalize hq : ((Builtin.Int.intBits a : Int) + n - 1) / n = q at *
  have h2 := Int.emod_add_mul_ediv ((Builtin.Int.intBits a : Int) + n - 1) n
  have h3 := Int.emod_lt_of_pos ((Builtin.Int.intBits a : Int) + n - 1) hn
  rw [hq] at h2
  have h4 : (Builtin.Int.intBits a : Int) ≤ n * q := by omega
  have h5 : ((n.toNat * q.toNat : Nat) : Int) = n * q := by rw [Int.natCast_mul, Int.toNat_of_nonneg (Int.le_of_lt hn), Int.toNat_of_nonneg h1]
  exact Int.ofNat_le.mp (h5 ▸ h4)
theorem i2dLen_pos {a n : Int} (h0 : 0 < a) (hn : 0 < n) : 0 < i2dLen a n := by
  have := i2d_lt (a := a) (n := n) (Int.le_of_lt h0) hn
  rcases Nat.eq_zero_or_pos (i2dLen a n) with h | h
  · rw [h] at this; simp at this; omega
  · exact h
theorem i2d_zero {n : Int} (hn : 0 < n) : i2dLen 0 n = 0 := by
  unfold i2dLen
  have : Builtin.Int.intBits 0 = 0 := rfl
  rw [this, Int.fdiv_eq_ediv_of_nonneg _ (Int.le_of_lt hn)]
  have : ((0 : Nat) : Int) + n - 1 = n - 1 := by omega
  rw [this, Int.ediv_eq_zero_of_lt (by omega) (by omega)]
  rfl

theorem putD_len {ns : List Int} {l r : Int} {ds : List Int} (h0 : 0 ≤ l) (hlr : l ≤ r) (hr : r ≤ ns.length) (hd : ds.length = (r - l).toNat) : (putD ns l r ds).length = ns.length := by
  unfold putD
  have h1 := toNat_len hr
  have h2 := Int.toNat_le_toNat hlr
  rw [List.length_append, List.length_append, List.length_take, List.length_drop, hd, toNat_subs h0 hlr, Nat.min_eq_left (Nat.le_trans h2 h1), ← Nat.add_assoc, Nat.add_sub_cancel' h2, Nat.add_sub_cancel' h1]
theorem putD_one {ns : List Int} {l r x B : Int} (h0 : 0 ≤ l) (he : l + 1 = r) (hr : r ≤ ns.length) (hx0 : 0 ≤ x) (hx : x < B ^ (r - l).toNat) : ns.set l.toNat x = putD ns l r (digs B (r - l).toNat x) := by
  subst he
  have e : (l + 1 - l).toNat = 1 := by rw [Int.add_comm, Int.add_sub_cancel]; rfl
  rw [e] at hx ⊢
  unfold putD
  have e2 : (l + 1).toNat = l.toNat + 1 := Int.toNat_add h0 (by decide)
  rw [e2]
  simp only [digs]
  rw [Int.emod_eq_of_lt hx0 (by rw [Int.pow_succ, Int.pow_zero, Int.one_mul] at hx; exact hx), List.set_eq_take_append_cons_drop, if_pos ((Int.toNat_lt h0).mpr (Int.lt_of_add_one_le hr))]
  rfl
theorem putD_two {ns : List Int} {l mid r x B : Int} (hB : 0 < B) (h0 : 0 ≤ l) (h1 : l < mid) (h2 : mid < r) (hr : r ≤ ns.length) :
    putD (putD ns l mid (digs B (mid - l).toNat (x % B ^ (mid - l).toNat))) mid r (digs B (r - mid).toNat (x / B ^ (mid - l).toNat)) = putD ns l r (digs B (r - l).toNat x) := by
  have e1 := toNat_split (Int.le_of_lt h1) (Int.le_of_lt h2)
  have e0 := toNat_to h0 (Int.le_of_lt h1)
  have hlm := Int.toNat_le_toNat (Int.le_of_lt h1)
  have hmr := Int.toNat_le_toNat (Int.le_of_lt h2)
  rw [e1, digs_add hB, digs_mod hB]
  unfold putD
  have hl1 : (ns.take l.toNat).length = l.toNat := by rw [List.length_take, Nat.min_eq_left (Nat.le_trans hlm (Nat.le_trans hmr (toNat_len hr)))]
  have hl2 : (digs B (mid - l).toNat x).length = (mid - l).toNat := digs_length ..
  have t1 : (ns.take l.toNat ++ (digs B (mid - l).toNat x ++ ns.drop mid.toNat)).take mid.toNat = ns.take l.toNat ++ digs B (mid - l).toNat x := by
    rw [← List.append_assoc, List.take_append_of_le_length (by rw [List.length_append, hl1, hl2]; exact Nat.le_of_eq e0), List.take_of_length_le (by rw [List.length_append, hl1, hl2]; exact Nat.le_of_eq e0.symm)]
  have t2 : (ns.take l.toNat ++ (digs B (mid - l).toNat x ++ ns.drop mid.toNat)).drop r.toNat = ns.drop r.toNat := by
    have hlen : (ns.take l.toNat ++ digs B (mid - l).toNat x).length = mid.toNat := by rw [List.length_append, hl1, hl2]; exact e0.symm
    rw [← List.append_assoc, List.drop_append, hlen, List.drop_drop, List.drop_of_length_le (by rw [hlen]; exact hmr), List.nil_append]
    congr 1
    exact Nat.add_sub_cancel' hmr
  rw [t1, t2]
  simp only [List.append_assoc]
theorem putD_all {ns ds : List Int} (hd : ds.length = ns.length) : putD ns 0 (ns.length : Int) ds = ds := by
  unfold putD
  simp

/- the closure's contract -/
noncomputable def InnerI (w : World) (p : Program) (loose : List Str) (mean : ExcName → Option Value) (mg mb : Str → Option Value) (f D : Addr) (rest : List (Addr × Obj)) (len : Nat) (n : Int) (j : Nat) : Prop :=
  ∀ (dp un : Nat) (gd : Option (List Code)) (cn : Str) (cs : Scope) (fa : Addr) (ccd : Value) (cl : List (Str × Addr)) (outer : List Env) (A₀ : Around) (base h₀ : Heap) (L : Addr) (m : Str → Option Value) (s : Shared) (Q E : Value → Shared → Prop)
    (x l r : Int) (tx tl tr : Tok) (vs : List Value) (ns : List Int) (kk : Nat), l < r → (r - l - 1).toNat = j → 0 ≤ l → r ≤ len → ns.length = len → IntsAre vs ns → 0 ≤ x → x < (2 ^ n.toNat) ^ (r - l).toNat →
    Below A₀ base outer h₀ → Fr h₀ L s.heap m → (hd.heap_39 w.params).In h₀ → News h₀ L s.heap ((D, listOf vs.toArray kk) :: rest) → Top p loose mean mg mb h₀ → cs.kind = .function →
    dp + (j + 2) < recursionLimit → un + 8 * (j + 2) < cLine →
    (∀ (vs' : List Value) (h' : Heap) (tk' : Nat), IntsAre vs' (putD ns l r (digs (2 ^ n.toNat) (r - l).toNat x)) → Fr h₀ L h' m → News h₀ L h' ((D, listOf vs'.toArray kk) :: rest) → Q .none { s with heap := h', toks := tk' }) →
    wpAny (model Challenge.rw_rs0150_01.row.prog w) (ktrTop dp un gd cn cs L fa ccd cl outer) (call (.ref f) [.int x tx, .int l tl, .int r tr]) Q E s
section
variable {w : World} {p : Program} {loose : List Str} {mean : ExcName → Option Value} {mg mb : Str → Option Value} {f D : Addr} {rest : List (Addr × Obj)} {len : Nat} {n : Int}
theorem innerI_ih {j : Nat} (IH : ∀ j' < j, InnerI w p loose mean mg mb f D rest len n j') {dp un : Nat} {gd : Option (List Code)} {cn : Str} {cs : Scope} {fa : Addr} {ccd : Value} {cl : List (Str × Addr)} {outer : List Env} {A₀ : Around} {base h₀ : Heap} {L : Addr} {m : Str → Option Value} {s : Shared} {Q E : Value → Shared → Prop} {x l r : Int} {tx tl tr : Tok} {vs : List Value} {ns : List Int} {kk : Nat}
    (B : Below A₀ base outer h₀) (F : Fr h₀ L s.heap m) (X : (hd.heap_39 w.params).In h₀) (N : News h₀ L s.heap ((D, listOf vs.toArray kk) :: rest)) (T : Top p loose mean mg mb h₀) (hk : cs.kind = .function)
    (hi : IntsAre vs ns) (hl : ns.length = len) (hlr : l < r) (hj : (r - l - 1).toNat < j) (h0 : 0 ≤ l) (hr : r ≤ len) (hx : 0 ≤ x) (hx2 : x < (2 ^ n.toNat) ^ (r - l).toNat) (hdp : dp + (j + 1) < recursionLimit) (hun : un + 8 * (j + 1) < cLine)
    (hret : ∀ (vs' : List Value) (h' : Heap) (tk' : Nat), IntsAre vs' (putD ns l r (digs (2 ^ n.toNat) (r - l).toNat x)) → (putD ns l r (digs (2 ^ n.toNat) (r - l).toNat x)).length = len → Fr h₀ L h' m → News h₀ L h' ((D, listOf vs'.toArray kk) :: rest) → Q .none { s with heap := h', toks := tk' }) :
    wpAny (model Challenge.rw_rs0150_01.row.prog w) (ktrTop dp un gd cn cs L fa ccd cl outer) (call (.ref f) [.int x tx, .int l tl, .int r tr]) Q E s :=
  IH _ hj _ _ _ _ _ _ _ _ _ _ _ _ _ _ _ _ _ x l r tx tl tr vs ns kk hlr rfl h0 hr hl hi hx hx2 B F X N T hk (Nat.lt_of_le_of_lt (Nat.add_le_add_left (Nat.succ_le_succ hj) dp) hdp) (Nat.lt_of_le_of_lt (Nat.add_le_add_left (Nat.mul_le_mul_left 8 (Nat.succ_le_succ hj)) un) hun) fun vs' h' tk' hi' => hret vs' h' tk' hi' ((putD_len h0 (Int.le_of_lt hlr) (by rw [hl]; exact hr) (digs_length ..)).trans hl)
theorem innerI_call {dp un : Nat} {gd : Option (List Code)} {cn : Str} {cs : Scope} {fa : Addr} {ccd : Value} {cl : List (Str × Addr)} {outer : List Env} {A₀ : Around} {base h₀ : Heap} {L : Addr} {m : Str → Option Value} {s : Shared} {Q E : Value → Shared → Prop} {x : Int} {tx t0 t1 : Tok} {vs : List Value} {ns : List Int} {kk : Nat}
    (B : Below A₀ base outer h₀) (F : Fr h₀ L s.heap m) (X : (hd.heap_39 w.params).In h₀) (N : News h₀ L s.heap ((D, listOf vs.toArray kk) :: rest)) (T : Top p loose mean mg mb h₀) (hk : cs.kind = .function)
    (hi : IntsAre vs ns) (hpos : 0 < ns.length) (hx : 0 ≤ x) (hx2 : x < (2 ^ n.toNat) ^ ns.length) (hdp : dp + (ns.length + 1) < recursionLimit) (hun : un + 8 * (ns.length + 1) < cLine)
    (hret : ∀ (vs' : List Value) (h' : Heap) (tk' : Nat), IntsAre vs' (digs (2 ^ n.toNat) ns.length x) → Fr h₀ L h' m → News h₀ L h' ((D, listOf vs'.toArray kk) :: rest) → Q .none { s with heap := h', toks := tk' })
    (step : ∀ j, (∀ j' < j, InnerI w p loose mean mg mb f D rest ns.length n j') → InnerI w p loose mean mg mb f D rest ns.length n j) :
    wpAny (model Challenge.rw_rs0150_01.row.prog w) (ktrTop dp un gd cn cs L fa ccd cl outer) (call (.ref f) [.int x tx, .int 0 t0, .int (ns.length : Int) t1]) Q E s := by
  have all : ∀ j, InnerI w p loose mean mg mb f D rest ns.length n j := fun j => Nat.strongRecOn j step
  have e : ((ns.length : Int) - 0).toNat = ns.length := by rw [Int.sub_zero]; rfl
  refine all (ns.length - 1) _ _ _ _ _ _ _ _ _ _ _ _ _ _ _ _ _ x 0 ns.length tx t0 t1 vs ns kk (Int.ofNat_lt.mpr hpos) (by rw [Int.sub_zero]; exact Int.toNat_sub ns.length 1) (Int.le_refl _) (Int.le_refl _) rfl hi hx (by rw [e]; exact hx2) B F X N T hk (by omega) (by omega) ?_
  rw [e, putD_all (digs_length ..)]
  exact hret
end
theorem news_rot2 {h₀ h : Heap} {L : Addr} {a b x : Addr × Obj} {r : List (Addr × Obj)} (N : News h₀ L h (a :: b :: x :: r)) : News h₀ L h (x :: a :: b :: r) := news_sub N (by simp; grind)
theorem lshift_any {prog : Program} {w : World} {A : Around} {E : Value → Shared → Prop} {s : Shared} {Q : Value → Shared → Prop} {a k n : Int} {t u : Tok} (hk : 0 ≤ k) (hn : 0 ≤ n) (hsz : (Builtin.Int.intBits a : Int) + k * n ≤ 2 ^ 27) (h : Q (.int (a * (2 ^ n.toNat) ^ k.toNat) s.toks) { s with toks := s.toks + 1 }) :
    wpAny (model prog w) A (binaryOp .LShift (.int a t) (.int (k * n) u)) Q E s :=
  lshift_int (Int.mul_nonneg hk hn) hsz (by rw [pow_shift hn hk]; exact h)
theorem xor_any {prog : Program} {w : World} {A : Around} {E : Value → Shared → Prop} {s : Shared} {Q : Value → Shared → Prop} {x : Int} {n k : Nat} {t u : Tok} (hx : 0 ≤ x) (h : Q (.int (x % (2 ^ n) ^ k) s.toks) { s with toks := s.toks + 1 }) :
    wpAny (model prog w) A (binaryOp .BitXor (.int x t) (.int (x.fdiv ((2 ^ n) ^ k) * (2 ^ n) ^ k) u)) Q E s :=
  xor_int (by rw [← Int.pow_mul, xor_low hx, Int.pow_mul]; exact h)
theorem pw_pos (n k : Nat) : (0 : Int) < (2 ^ n) ^ k := Int.pow_pos (two_pow_pos n)
theorem lo_nonneg {x : Int} {n k : Nat} : 0 ≤ x % (2 ^ n) ^ k := Int.emod_nonneg _ (Int.ne_of_gt (pw_pos n k))
theorem lo_lt {x : Int} {n k : Nat} : x % (2 ^ n) ^ k < (2 ^ n) ^ k := Int.emod_lt_of_pos _ (pw_pos n k)
theorem hi_nonneg {x : Int} {n k : Nat} (h : 0 ≤ x) : 0 ≤ x.fdiv ((2 ^ n) ^ k) := by
  rw [Int.fdiv_eq_ediv_of_nonneg _ (Int.le_of_lt (pw_pos n k))]
  exact Int.ediv_nonneg h (Int.le_of_lt (pw_pos n k))
theorem hi_lt {x l mid r : Int} {n : Nat} (h : x < (2 ^ n) ^ (r - l).toNat) (h1 : l < mid) (h2 : mid < r) : x.fdiv ((2 ^ n) ^ (mid - l).toNat) < (2 ^ n) ^ (r - mid).toNat := by
  rw [Int.fdiv_eq_ediv_of_nonneg _ (Int.le_of_lt (pw_pos n _))]
  refine Int.ediv_lt_of_lt_mul (pw_pos n _) ?_
  rw [← Int.pow_add]
  have e : (r - mid).toNat + (mid - l).toNat = (r - l).toNat := by rw [toNat_split (Int.le_of_lt h1) (Int.le_of_lt h2), Nat.add_comm]
  rw [e]; exact h
theorem up_bits {x l mid r n : Int} {len : Nat} (hx0 : 0 ≤ x) (h : x < (2 ^ n.toNat) ^ (r - l).toNat) (h0 : 0 ≤ l) (h1 : l < mid) (h2 : mid < r) (hr : r ≤ len) (hlen : len ≤ 200) (hn : 0 < n) (hn2 : n ≤ 200) :
    (Builtin.Int.intBits (x.fdiv ((2 ^ n.toNat) ^ (mid - l).toNat)) : Int) + (mid - l) * n ≤ 2 ^ 27 := by
  have hb := hi_lt (n := n.toNat) h h1 h2
  have e9 : ((2 : Int) ^ n.toNat) ^ (r - mid).toNat = 2 ^ (n.toNat * (r - mid).toNat) := Int.pow_mul.symm
  rw [e9] at hb
  have h3 := bits_le (hi_nonneg hx0) hb
  have h4 : n.toNat * (r - mid).toNat ≤ 200 * 200 := Nat.mul_le_mul (by omega) (by omega)
  have h5 : (mid - l) * n ≤ 200 * 200 := mul_le_of (by omega) (by omega) (by omega) hn2
  omega
theorem putD_two' {ns : List Int} {l mid r x B : Int} (hB : 0 < B) (h0 : 0 ≤ l) (h1 : l < mid) (h2 : mid < r) (hr : r ≤ ns.length) :
    putD (putD ns l mid (digs B (mid - l).toNat (x % B ^ (mid - l).toNat))) mid r (digs B (r - mid).toNat (x.fdiv (B ^ (mid - l).toNat))) = putD ns l r (digs B (r - l).toNat x) := by
  rw [Int.fdiv_eq_ediv_of_nonneg _ (Int.le_of_lt (Int.pow_pos hB))]
  exact putD_two hB h0 h1 h2 hr
theorem put_fin {vs : List Value} {ns : List Int} {l mid r x B : Int} (h : IntsAre vs (putD (putD ns l mid (digs B (mid - l).toNat (x % B ^ (mid - l).toNat))) mid r (digs B (r - mid).toNat (x.fdiv (B ^ (mid - l).toNat))))) (hB : 0 < B) (h0 : 0 ≤ l) (h1 : l < mid) (h2 : mid < r) (hr : r ≤ ns.length) :
    IntsAre vs (putD ns l r (digs B (r - l).toNat x)) := by
  rw [putD_two' hB h0 h1 h2 hr] at h
  exact h
theorem news_rot6 {h₀ h : Heap} {L : Addr} {a b c d e x : Addr × Obj} {r : List (Addr × Obj)} (N : News h₀ L h (a :: b :: c :: d :: e :: x :: r)) : News h₀ L h (x :: a :: b :: c :: d :: e :: r) := news_sub N (by simp; grind)
theorem rshift_any {prog : Program} {w : World} {A : Around} {E : Value → Shared → Prop} {s : Shared} {Q : Value → Shared → Prop} {a k n : Int} {t u : Tok} (hk : 0 ≤ k) (hn : 0 ≤ n) (h : Q (.int (a.fdiv ((2 ^ n.toNat) ^ k.toNat)) s.toks) { s with toks := s.toks + 1 }) :
    wpAny (model prog w) A (binaryOp .RShift (.int a t) (.int (k * n) u)) Q E s :=
  rshift_int (Int.mul_nonneg hk hn) (by rw [pow_shift hn hk]; exact h)
end Mine
end PartI2d0

section PartI2d
open PySem PySem.Spec PySem.Calls PySem.W PyProof.Rows
set_option Elab.async false
set_option maxRecDepth 100000
set_option maxHeartbeats 8000000
namespace Mine
/-- the walk's lines are looked up afresh from here on -/
theorem syncI2d {M : Model} {A : Around} {E : Value → Shared → Prop} {s : Shared} {env : Env} {Q : Flow → Shared → Prop} (h : Q .next s) : wpAny M A (execs [] env) Q E s := by
  w_top off
  first | (walk1; exact h) | exact wpAny_execs_nil h

local macro_rules | `(tactic| k_all) => `(tactic| first | assumption | exact lt_ne_all (by assumption) (by omega))
local macro_rules | `(tactic| walk_at "binaryOp Mult ref int") => `(tactic| (k_here; refine stop_here ?_))
local macro_rules | `(tactic| walk_at "binaryOp RShift int int") => `(tactic| (k_here; refine stop_here ?_))
local macro_rules | `(tactic| walk_at "binaryOp LShift int int") => `(tactic| (k_here; refine stop_here ?_))
local macro_rules | `(tactic| walk_at "binaryOp BitXor int int") => `(tactic| (k_here; refine stop_here ?_))

theorem i2d_spec {w : World} {a n : Int} {t1 t2 : Tok} {news : List (Addr × Obj)} {o oc : Obj} {cc : Addr} {g : Obj → Addr → Obj → List (Addr × Obj)}
    {p : Program} {loose : List Str} {mean : ExcName → Option Value} {mg mb : Str → Option Value} {dp un : Nat} {gd : Option (List Code)} {cn : Str} {cs : Scope} {fa : Addr} {ccd : Value} {cl : List (Str × Addr)} {outer : List Env} {A₀ : Around} {base h₀ : Heap} {L : Addr} {m : Str → Option Value} {s : Shared} {Q E : Value → Shared → Prop}
    (B : Below A₀ base outer h₀) (F : Fr h₀ L s.heap m) (X : (hd.heap_39 w.params).In h₀) (N : News h₀ L s.heap news) (T : Top p loose mean mg mb h₀) (hk : cs.kind = .function)
    (U : Tb1 30 o cc oc news g) (hT : TabP 30 32 4 q30 o cc oc) (h0 : 0 ≤ a) (hK : ((Builtin.Int.intBits a : Int) + n - 1).fdiv n ≤ 200) (hn : 0 < n) (hn2 : n ≤ 200) (hdp : dp + 300 < recursionLimit) (hun : un + 3000 < cLine)
    (hret : ∀ (D : Addr) (vs : List Value) (o' : Obj) (cc' : Addr) (oc' : Obj) (h' : Heap) (tk' : Nat), IntsAre vs (i2d a n) → TabF 30 32 4 q30 o' cc' oc' → (TabF 30 32 4 q30 o cc oc → o' = o ∧ cc' = cc ∧ oc' = oc) → (cc' = cc ∨ (D < cc' ∧ ∀ p ∈ news, p.1 < cc')) → (∀ p ∈ news, p.1 < D) → Fr h₀ L h' m → News h₀ L h' ((D, listOf vs.toArray 0) :: g o' cc' oc') → Q (.ref D) { s with heap := h', toks := tk' }) :
      wpAny (model Challenge.rw_rs0150_01.row.prog w) (ktrTop dp un gd cn cs L fa ccd cl outer) (call (.ref 35) [.int a t1, .int n t2]) Q E s := by
  refine wpAny_call ?_
  k_dflt (refine' code_defC ?k1 ?k2 ?k3 ?k4 ?k5 ?kA ?kF ?kK ?k6 ?k7 ?k8 ?k9 ?kB ?kD ?_ ?c2 ?c3 ?c4; (case kA => exact rfl); (case kF => exact rfl); (case kK => assumption); (case k1 => k_asm); (case k2 => k_asm); (case k3 => k_asm); (case k4 => k_asm); (case k5 => k_asm); (case k6 => k_is); (case k7 => k_is); (case k8 => ktr_room); (case k9 => exact BindsTo.of_eq rfl); (case kB => exact rfl); (case kD => decide +kernel); (case c2 => exact rfl); (case c3 => exact rfl); (case c4 => exact rfl); k_whole; intro g' L' h' tk' cells' FG' F' N' Y' B' X' T' l1; (have l0 := l1); (try k_lt l1); k_cells Y'; (try simp only [List.cons_append, List.nil_append] at N'); (try dsimp only); (try k_lift B'); (try k_fold))
  refine gen_toks fun tk0 => ?_
  have C34 := codeHd34 X'
  have hL30 : (30 : Nat) < L' := l0 (30, o) (tb1_mem U)
  have hr : ∀ p ∈ news, p.1 < L' := l0
  k_steps
  refine mul0 (by k_asm) (by k_asm) (by is_list) (i2dLen_nonneg (by assumption)) (by assumption) ?_
  intro D9 vs9 h9 F9 N9 lD9 hi9
  have lraw := lD9
  try k_lt lD9
  k_steps
  rename_i l9 h19 l19 cO h8 F8 N8 cH
  have hlen0 : (List.replicate (((Builtin.Int.intBits a : Int) + n - 1).fdiv n).toNat (0 : Int)).length = i2dLen a n := List.length_replicate
  have hK2 : i2dLen a n ≤ 200 := toNat_len hK
  generalize List.replicate (((Builtin.Int.intBits a : Int) + n - 1).fdiv n).toNat (0 : Int) = ns0 at hi9 hlen0
  k_dflt (refine' nestDef_K ?d0 ?k0 ?a0 ?_; (case d0 => exact rfl); (case k0 => exact rfl); (case a0 => exact rfl))
  k_dflt (refine' nest_tab ?F ?N ?T ?C ?cd ?U ?t ?cl ?_; (case F => k_asm); (case N => k_asm); (case T => k_asm); (case cd => exact rfl); (case C => kn_code); (case U => exact Tb1.cons (neN (by dsimp only; omega)) (Tb1.cons (neN (by dsimp only; omega)) (Tb1.cons (neN (by dsimp only; omega)) (Tb1.cons (neN (by dsimp only; omega)) (Tb1.cons (neN (by dsimp only; omega)) U))))); (case t => exact hT); (case cl => exact rfl); k_whole)
  intro f9 o9 cc9 oc9 vs8 t9 ct9 dc9 h7 tk9 F9 N9 hTF9 hTe9 d91 d92 l91 l92 l93
  (try dsimp only at N9)
  have e1 := tb1_ne U (d := L' + 1 + 1 + 1) (o' := o9) (cc' := cc9) (oc' := oc9) hr (by omega) (l93.imp id fun x => Nat.ne_of_lt (x (L' + 1 + 1 + 1, _) (.tail _ (.tail _ (.head _)))))
  have e2 : @Ne Nat cc9 (L' + 1 + 1 + 1) := l93.elim (fun x => Nat.ne_of_lt (Nat.lt_of_lt_of_le (x ▸ hr (cc, oc) (tb1_mem2 U)) (by omega))) fun x => Nat.ne_of_gt (x (L' + 1 + 1 + 1, _) (.tail _ (.tail _ (.head _))))
  have e3 : cc9 = cc ∨ D9 < cc9 := l93.imp id fun x => x (D9, _) (.head _)
  have hcL : (cc : Nat) < L' := hr (cc, oc) (tb1_mem2 U)
  have hLD : @LT.lt Nat _ L' D9 := by omega
  have e4 : @Ne Nat cc9 D9 := e3.elim (fun x => Nat.ne_of_lt (Nat.lt_trans (x ▸ hcL) hLD)) fun x => Nat.ne_of_gt x
  have e5 := tb1_ne U (d := D9) (o' := o9) (cc' := cc9) (oc' := oc9) hr (by omega) (e3.imp id fun x => Nat.ne_of_lt x)
  have N10 := news_dup (p := (cc9, oc9)) N9 (.tail _ (.tail _ (.tail _ (.tail _ (.tail _ (.tail _ (tb1_memG U)))))))
  clear N9
  k_lt l91
  have hc9 : cc9 = cc ∨ (D9 < cc9 ∧ ∀ p ∈ news, p.1 < cc9) := l93.imp id fun x => ⟨x (D9, _) (.head _), fun p hp => x p (.tail _ (.tail _ (.tail _ (.tail _ (.tail _ hp)))))⟩
  have hlD : ∀ p ∈ news, p.1 < D9 := fun p hp => lraw p (.tail _ (.tail _ (.tail _ (.tail _ hp))))
  k_steps
  · rename News _ _ _ _ => NN
    have NN2 := news_rot2 NN
    clear NN
    k_dflt (refine' innerI_call (n := n) ?k1 ?k2 ?k3 ?k4 ?k5 ?kK ?i1 ?a1 ?a2 ?a3 ?hd ?hu ?hr ?step; (case k1 => k_asm); (case k2 => k_asm); (case k3 => k_asm); (case k4 => exact NN2); (case k5 => k_asm); (case kK => exact rfl); (case i1 => exact hi9); (case a1 => (rw [hlen0]; exact i2dLen_pos (by omega) hn)); (case a2 => exact h0); (case a3 => (rw [hlen0]; exact i2d_lt h0 hn)); (case hd => ktr_room); (case hu => ktr_units))
    case hr =>
      intro vs6 h6 tk6 hi6 F6 N6
      rw [hlen0] at hi6
      k_steps
      exact hret _ _ _ _ _ _ _ hi6 hTF9 hTe9 hc9 hlD (by assumption) (news_sub (by assumption) fun p hp => by
        rcases List.mem_cons.mp hp with rfl | hp
        · exact .head _
        · exact .tail _ (.tail _ (.tail _ (.tail _ (.tail _ (.tail _ (.tail _ hp)))))))
    case step =>
      intro j IH
      unfold InnerI
      intro dp2 un2 gd2 cn2 cs2 fa2 ccd2 cl2 outer2 A2 base2 h2 L2 m2 s2 Q2 E2 x l r tx tl tr vs2 ns2 kk2 hlr hj hl0 hr2 hl2 hi2 hx hx2 B2 F2 X2 N2 T2 hk2 hdp2 hun2 hret2
      have hns : ns0.length ≤ 200 := by omega
      refine wpAny_call ?_
      k_dflt (refine' code_nest ?k1 ?k2 ?k3 ?k4 ?k5 ?kA ?kF ?kK ?k6 ?k7 ?k8 ?k9 ?kB ?_ ?c2 ?c3 ?c4 ?c5; (case kA => exact rfl); (case kF => exact rfl); (case kK => assumption); (case k1 => k_asm); (case k2 => k_asm); (case k3 => k_asm); (case k4 => k_asm); (case k5 => k_asm); (case k6 => k_mem); (case k7 => exact codeRec_news (by k_asm) (by k_mem) (by assumption) (by assumption)); (case k8 => ktr_room); (case k9 => exact BindsTo.of_eq rfl); (case c5 => decide); (case kB => exact locs rfl); (case c2 => exact rfl); (case c3 => exact rfl); (case c4 => exact rfl); k_whole; intro g2' L2' h2' FG2' F2' N2' B2' X2' T2'; (try dsimp only); (try k_lift B2'); (try k_fold))
      refine gen_toks fun tk0 => ?_
      k_steps
      · rename_i hS1 hS2
        refine hret2 _ _ _ ?_ (by assumption) (by assumption)
        rw [← putD_one hl0 (by assumption) (by rw [hl2]; exact hr2) hx hx2]
        exact ints_set hi2 _
      · refine rshift_one ?_
        intro c9 hc1 hc2
        k_steps
        refine rshift_any (by omega) (by omega) ?_
        k_steps
        refine lshift_any (by omega) (by omega) (up_bits (by assumption) (by assumption) (by omega) (by omega) (by omega) (by assumption) (by assumption) (by assumption) (by assumption)) ?_
        k_steps
        refine xor_any (by assumption) ?_
        k_steps
        k_dflt (refine' innerI_ih (by assumption) ?k1 ?k2 ?k3 ?k4 ?k5 ?kK ?i1 ?i2 ?a1 ?a2 ?a3 ?a4 ?a5 ?a6 ?hd ?hu ?_; (case k1 => k_asm); (case k2 => k_asm); (case k3 => k_asm); (case k4 => k_asm); (case k5 => k_asm); (case kK => exact rfl); (case i1 => assumption); (case i2 => assumption); (case a1 => omega); (case a2 => first | exact half_hi (by assumption) (by assumption) (by assumption) (by assumption) | exact half_lo (by assumption) (by assumption) (by assumption) (by assumption) | omega); (case a3 => omega); (case a4 => omega); (case a5 => first | exact lo_nonneg | exact hi_nonneg (by assumption)); (case a6 => first | exact lo_lt | exact hi_lt (by assumption) (by omega) (by omega)); (case hd => ktr_room); (case hu => ktr_units)); intro vs9 h9 tk9 hi9 hl9 F9 N9; (try dsimp only)
        k_steps
        k_dflt (refine' innerI_ih (by assumption) ?k1 ?k2 ?k3 ?k4 ?k5 ?kK ?i1 ?i2 ?a1 ?a2 ?a3 ?a4 ?a5 ?a6 ?hd ?hu ?_; (case k1 => k_asm); (case k2 => k_asm); (case k3 => k_asm); (case k4 => k_asm); (case k5 => k_asm); (case kK => exact rfl); (case i1 => assumption); (case i2 => assumption); (case a1 => omega); (case a2 => first | exact half_hi (by assumption) (by assumption) (by assumption) (by assumption) | exact half_lo (by assumption) (by assumption) (by assumption) (by assumption) | omega); (case a3 => omega); (case a4 => omega); (case a5 => first | exact lo_nonneg | exact hi_nonneg (by assumption)); (case a6 => first | exact lo_lt | exact hi_lt (by assumption) (by omega) (by omega)); (case hd => ktr_room); (case hu => ktr_units)); intro vs9 h9 tk9 hi9 hl9 F9 N9; (try dsimp only)
        k_steps
        refine hret2 _ _ _ (put_fin (by assumption) (two_pow_pos _) hl0 (by omega) (by omega) (by rw [hl2]; exact hr2)) (by assumption) (by assumption)
  · have hz : a = 0 := by omega
    subst hz
    refine hret _ _ _ _ _ _ _ ?_ hTF9 hTe9 hc9 hlD (by assumption) (news_sub (by assumption) fun p hp => by
        rcases List.mem_cons.mp hp with rfl | hp
        · exact .tail _ (.tail _ (.head _))
        · exact .tail _ (.tail _ (.tail _ (.tail _ (.tail _ (.tail _ (.tail _ hp)))))))
    have : ns0 = [] := List.eq_nil_of_length_eq_zero (by rw [hlen0]; exact i2d_zero hn)
    rw [this] at hi9
    unfold i2d
    rw [i2d_zero hn]
    exact hi9
end Mine
end PartI2d

section PartDiv
open PySem PySem.Spec PySem.Calls PySem.W PyProof.Rows
set_option Elab.async false
set_option maxRecDepth 100000
set_option maxHeartbeats 8000000
namespace Mine
/-- the walk's lines are looked up afresh from here on -/
theorem syncDiv {M : Model} {A : Around} {E : Value → Shared → Prop} {s : Shared} {env : Env} {Q : Flow → Shared → Prop} (h : Q .next s) : wpAny M A (execs [] env) Q E s := by
  w_top off
  first | (walk1; exact h) | exact wpAny_execs_nil h

noncomputable abbrev tup2 (x : Int) (tx : Tok) (y : Int) (ty : Tok) : Obj := { cls := .type "tuple", data := .seq #[.int x tx, .int y ty] }
local macro_rules | `(tactic| walk_at "call builtin:divmod") => `(tactic| (k_here; refine stop_here ?_))

theorem div2n1n_spec {w : World} {a b n : Int} {t1 t2 t3 : Tok} {news : List (Addr × Obj)}
    {p : Program} {loose : List Str} {mean : ExcName → Option Value} {mg mb : Str → Option Value} {dp un : Nat} {gd : Option (List Code)} {cn : Str} {cs : Scope} {fa : Addr} {ccd : Value} {cl : List (Str × Addr)} {outer : List Env} {A₀ : Around} {base h₀ : Heap} {L : Addr} {m : Str → Option Value} {s : Shared} {Q E : Value → Shared → Prop}
    (B : Below A₀ base outer h₀) (F : Fr h₀ L s.heap m) (X : (hd.heap_39 w.params).In h₀) (N : News h₀ L s.heap news) (T : Top p loose mean mg mb h₀) (hk : cs.kind = .function)
    (hb : b ≠ 0) (hbit : (Builtin.Int.intBits a : Int) - n ≤ 4000) (hpy : Builtin.divisionGoesByPylong a b = false) (hdp : dp + 1 < recursionLimit) (hun : un + 8 < cLine)
    (hret : ∀ (q : Addr) (t1 t2 : Tok) (h' : Heap) (tk' : Nat), Fr h₀ L h' m → News h₀ L h' ((q, tup2 (a.fdiv b) t1 (a.fmod b) t2) :: news) → AllLt q news → Q (.ref q) { s with heap := h', toks := tk' }) :
      wpAny (model Challenge.rw_rs0150_01.row.prog w) (ktrTop dp un gd cn cs L fa ccd cl outer) (call (.ref 21) [.int a t1, .int b t2, .int n t3]) Q E s := by
  refine wpAny_call ?_
  k_dflt (refine' code_def ?k1 ?k2 ?k3 ?k4 ?k5 ?kA ?kF ?kK ?k6 ?k7 ?k8 ?k9 ?kB ?_ ?c2 ?c3 ?c4 ?c5; (case kA => exact rfl); (case kF => exact rfl); (case kK => assumption); (case k1 => k_asm); (case k2 => k_asm); (case k3 => k_asm); (case k4 => k_asm); (case k5 => k_asm); (case k6 => k_is); (case k7 => k_is); (case k8 => ktr_room); (case k9 => exact BindsTo.of_eq rfl); (case c5 => decide); (case kB => exact locs rfl); (case c2 => exact rfl); (case c3 => exact rfl); (case c4 => exact rfl); k_whole; intro g' L' h' FG' F' N' B' X' T'; (try dsimp only); (try k_lift B'); (try k_fold))
  refine gen_toks fun tk0 => ?_
  k_steps
  refine divmod_N (by assumption) (by assumption) (by assumption) ?_ (Or.inl (by assumption))
  intro h' F' N'
  k_steps
  exact hret _ _ _ _ _ (by assumption) (by assumption) (allLt_size (by assumption))
end Mine
end PartDiv

section PartDmp0
open PySem PySem.Spec PySem.Calls PySem.W PyProof.Rows
set_option Elab.async false
set_option maxRecDepth 100000
set_option maxHeartbeats 8000000
namespace Mine

inductive Tb2 (oA : Obj) (cA : Addr) (ocA : Obj) (oB : Obj) (cB : Addr) (ocB : Obj) : List (Addr × Obj) → (Obj → Addr → Obj → Obj → Addr → Obj → List (Addr × Obj)) → Prop
  | base {rest} (h : ∀ p ∈ rest, p.1 ≠ 30 ∧ p.1 ≠ 37) : Tb2 oA cA ocA oB cB ocB ((30, oA) :: (cA, ocA) :: (37, oB) :: (cB, ocB) :: rest) (fun a b c d e f => (30, a) :: (b, c) :: (37, d) :: (e, f) :: rest)
  | cons {e news g} (h : e.1 ≠ 30 ∧ e.1 ≠ 37) (t : Tb2 oA cA ocA oB cB ocB news g) : Tb2 oA cA ocA oB cB ocB (e :: news) (fun a b c d x f => e :: g a b c d x f)
section
variable {oA ocA oB ocB : Obj} {cA cB : Addr} {news : List (Addr × Obj)} {g : Obj → Addr → Obj → Obj → Addr → Obj → List (Addr × Obj)}
theorem Tb2.a (U : Tb2 oA cA ocA oB cB ocB news g) (h : cB ≠ 30) : Tb1 30 oA cA ocA news (fun a b c => g a b c oB cB ocB) := by
  induction U with
  | base hr =>
    refine Tb1.base fun p hp => ?_
    rcases List.mem_cons.mp hp with rfl | hp
    · show (37 : Nat) ≠ 30; decide
    · rcases List.mem_cons.mp hp with rfl | hp
      · exact h
      · exact (hr p hp).1
  | cons he _ ih => exact Tb1.cons he.1 ih
theorem Tb2.b (U : Tb2 oA cA ocA oB cB ocB news g) (a : Obj) {b : Addr} (c : Obj) (h : b ≠ 37) : Tb1 37 oB cB ocB (g a b c oB cB ocB) (fun d e f => g a b c d e f) := by
  induction U with
  | base hr =>
    refine Tb1.cons (by show (30 : Nat) ≠ 37; decide) (Tb1.cons h (Tb1.base fun p hp => (hr p hp).2))
  | cons he _ ih => exact Tb1.cons he.2 ih
theorem Tb2.self (U : Tb2 oA cA ocA oB cB ocB news g) : g oA cA ocA oB cB ocB = news := by
  induction U with
  | base => rfl
  | cons _ _ ih => exact congrArg _ ih
theorem Tb2.mem30 (U : Tb2 oA cA ocA oB cB ocB news g) : (30, oA) ∈ news := by
  induction U with
  | base => exact .head _
  | cons _ _ ih => exact .tail _ ih
theorem Tb2.mem37 (U : Tb2 oA cA ocA oB cB ocB news g) : (37, oB) ∈ news := by
  induction U with
  | base => exact .tail _ (.tail _ (.head _))
  | cons _ _ ih => exact .tail _ ih
/-- what stands in the changed ledger stands where it stood, or is one of the two code objects -/
theorem Tb2.adr (U : Tb2 oA cA ocA oB cB ocB news g) {a : Obj} {b : Addr} {c d : Obj} {e : Addr} {f : Obj} : ∀ p ∈ g a b c d e f, (∃ q ∈ news, q.1 = p.1) ∨ p.1 = b ∨ p.1 = e := by
  induction U with
  | base =>
    intro p hp
    rcases List.mem_cons.mp hp with rfl | hp
    · exact .inl ⟨_, .head _, rfl⟩
    · rcases List.mem_cons.mp hp with rfl | hp
      · exact .inr (.inl rfl)
      · rcases List.mem_cons.mp hp with rfl | hp
        · exact .inl ⟨_, .tail _ (.tail _ (.head _)), rfl⟩
        · rcases List.mem_cons.mp hp with rfl | hp
          · exact .inr (.inr rfl)
          · exact .inl ⟨p, .tail _ (.tail _ (.tail _ (.tail _ hp))), rfl⟩
  | cons _ _ ih =>
    intro p hp
    rcases List.mem_cons.mp hp with rfl | hp
    · exact .inl ⟨_, .head _, rfl⟩
    · rcases ih p hp with ⟨q, hq, h⟩ | h
      · exact .inl ⟨q, .tail _ hq, h⟩
      · exact .inr h
end

theorem i2d_small {a : Int} {N : Nat} (h0 : 0 ≤ a) (hN : 0 < N) (h2 : a < 2 ^ (2 * N)) : i2dLen a (N : Int) ≤ 2 := by
  unfold i2dLen
  have hb := bits_le h0 h2
  rw [Int.fdiv_eq_ediv_of_nonneg _ (by omega)]
  have : ((Builtin.Int.intBits a : Int) + N - 1) / N < 3 := Int.ediv_lt_of_lt_mul (by omega) (by omega)
  omega
theorem i2d_fdiv {a : Int} {N : Nat} (h0 : 0 ≤ a) (hN : 0 < N) (h2 : a < 2 ^ (2 * N)) : ((Builtin.Int.intBits a : Int) + N - 1).fdiv N ≤ 200 := by
  have := i2d_small h0 hN h2
  exact Int.toNat_le.mp (Nat.le_trans this (by decide))
/-- the quotient's digits -/
theorem two_step {a b B d0 d1 : Int} (hb : 0 < b) (hB : 0 < B) (h0 : d0 = a % B) (h1 : d1 = a / B) :
    (d1 % b * B + d0) / b + B * (d1 / b) = a / b ∧ (d1 % b * B + d0) % b = a % b := by
  have e1 := Int.emod_add_mul_ediv a B
  have e2 := Int.emod_add_mul_ediv d1 b
  have e3 := Int.emod_add_mul_ediv (d1 % b * B + d0) b
  have key : (d1 % b * B + d0) % b + b * ((d1 % b * B + d0) / b + B * (d1 / b)) = a := by
    rw [Int.mul_add, ← Int.add_assoc, e3]
    have ha : a = d0 + B * (d1 % b + b * (d1 / b)) := by rw [e2, h0, h1]; omega
    rw [ha]
    clear e1 e3 h0 h1 ha e2
    generalize d1 % b = r
    generalize d1 / b = q
    rw [Int.mul_add, Int.mul_comm r B, ← Int.mul_assoc b B q, Int.mul_comm b B, Int.mul_assoc B b q]
    omega
  have hu := (Int.ediv_emod_unique (a := a) (b := b) (r := (d1 % b * B + d0) % b) (q := (d1 % b * B + d0) / b + B * (d1 / b)) hb).mpr ⟨key, Int.emod_nonneg _ (Int.ne_of_gt hb), Int.emod_lt_of_pos _ hb⟩
  exact ⟨hu.1.symm, hu.2.symm⟩
theorem no_pylong {x b : Int} (h0 : 0 < b) (hb : b < 2 ^ 200) : Builtin.divisionGoesByPylong x b = false := by
  have := bits_le (Int.le_of_lt h0) hb
  unfold Builtin.Int.intBits at this
  unfold Builtin.divisionGoesByPylong
  have hz : (b == 0) = false := by simp; omega
  simp only [hz, Bool.false_eq_true, if_false] at this ⊢
  have h2 : b.natAbs.log2 / 30 + 1 ≤ 300 := by omega
  simp only [Bool.and_eq_false_iff, decide_eq_false_iff_not]
  left; omega

theorem ints0 {vs : List Value} (h : IntsAre vs []) : vs = [] := by cases h; rfl
theorem ints1 {vs : List Value} {x : Int} (h : IntsAre vs [x]) : ∃ t, vs = [.int x t] := by
  cases h with | cons _ t h => cases h; exact ⟨t, rfl⟩
theorem ints2 {vs : List Value} {x y : Int} (h : IntsAre vs [x, y]) : ∃ t u, vs = [.int x t, .int y u] := by
  cases h with | cons _ t h => cases h with | cons _ u h => cases h; exact ⟨t, u, rfl⟩
theorem i2d3_spec {w : World} {a : Int} {N : Nat} {t1 t2 : Tok} {news : List (Addr × Obj)} {oA ocA oB ocB : Obj} {cA cB : Addr} {g : Obj → Addr → Obj → Obj → Addr → Obj → List (Addr × Obj)}
    {p : Program} {loose : List Str} {mean : ExcName → Option Value} {mg mb : Str → Option Value} {dp un : Nat} {gd : Option (List Code)} {cn : Str} {cs : Scope} {fa : Addr} {ccd : Value} {cl : List (Str × Addr)} {outer : List Env} {A₀ : Around} {base h₀ : Heap} {L : Addr} {m : Str → Option Value} {s : Shared} {Q E : Value → Shared → Prop}
    (B : Below A₀ base outer h₀) (F : Fr h₀ L s.heap m) (X : (hd.heap_39 w.params).In h₀) (Nw : News h₀ L s.heap news) (T : Top p loose mean mg mb h₀) (hk : cs.kind = .function)
    (U : Tb2 oA cA ocA oB cB ocB news g) (hT : TabP 30 32 4 q30 oA cA ocA) (hcA : cA ≠ 37) (hcB : cB ≠ 30) (h0 : 0 ≤ a) (hN : 0 < N) (hN2 : N ≤ 200) (h2 : a < 2 ^ (2 * N)) (hdp : dp + 300 < recursionLimit) (hun : un + 3000 < cLine)
    (r0 : (∀ (D : Addr) (u v : Tok) (oA' : Obj) (cA' : Addr) (ocA' : Obj) (h' : Heap) (tk' : Nat), a = 0 → TabF 30 32 4 q30 oA' cA' ocA' → (TabF 30 32 4 q30 oA cA ocA → oA' = oA ∧ cA' = cA ∧ ocA' = ocA) → (cA' = cA ∨ (D < cA' ∧ ∀ p ∈ news, p.1 < cA')) → cA' ≠ 37 → (∀ p ∈ news, p.1 < D) → @LT.lt Nat _ 37 D → Fr h₀ L h' m → News h₀ L h' ((D, listOf ([] : List Value).toArray 0) :: g oA' cA' ocA' oB cB ocB) → Q (.ref D) { s with heap := h', toks := tk' }))
    (r1 : (∀ (D : Addr) (u v : Tok) (oA' : Obj) (cA' : Addr) (ocA' : Obj) (h' : Heap) (tk' : Nat), 0 < a ∧ a < 2 ^ N → TabF 30 32 4 q30 oA' cA' ocA' → (TabF 30 32 4 q30 oA cA ocA → oA' = oA ∧ cA' = cA ∧ ocA' = ocA) → (cA' = cA ∨ (D < cA' ∧ ∀ p ∈ news, p.1 < cA')) → cA' ≠ 37 → (∀ p ∈ news, p.1 < D) → @LT.lt Nat _ 37 D → Fr h₀ L h' m → News h₀ L h' ((D, listOf [Value.int a u].toArray 0) :: g oA' cA' ocA' oB cB ocB) → Q (.ref D) { s with heap := h', toks := tk' }))
    (r2 : (∀ (D : Addr) (u v : Tok) (oA' : Obj) (cA' : Addr) (ocA' : Obj) (h' : Heap) (tk' : Nat), 2 ^ N ≤ a → TabF 30 32 4 q30 oA' cA' ocA' → (TabF 30 32 4 q30 oA cA ocA → oA' = oA ∧ cA' = cA ∧ ocA' = ocA) → (cA' = cA ∨ (D < cA' ∧ ∀ p ∈ news, p.1 < cA')) → cA' ≠ 37 → (∀ p ∈ news, p.1 < D) → @LT.lt Nat _ 37 D → Fr h₀ L h' m → News h₀ L h' ((D, listOf [Value.int (a % 2 ^ N) u, Value.int (a / 2 ^ N) v].toArray 0) :: g oA' cA' ocA' oB cB ocB) → Q (.ref D) { s with heap := h', toks := tk' })) :
      wpAny (model Challenge.rw_rs0150_01.row.prog w) (ktrTop dp un gd cn cs L fa ccd cl outer) (call (.ref 35) [.int a t1, .int (N : Int) t2]) Q E s := by
  refine i2d_spec B F X Nw T hk (U.a hcB) hT h0 (i2d_fdiv h0 hN h2) (by omega) (by omega) hdp hun fun D vs oA' cA' ocA' h' tk' hi hF hS hc hD F' N' => ?_
  have hc37 : cA' ≠ 37 := by
    rcases hc with rfl | hc
    · exact hcA
    · exact Nat.ne_of_gt (hc.2 _ U.mem37)
  have hlen := i2d_small h0 hN h2
  have hlt := i2d_lt (a := a) (n := (N : Int)) h0 (by omega)
  unfold i2d at hi
  rw [Int.toNat_natCast] at hi hlt
  by_cases hz : a = 0
  · subst hz
    rw [i2d_zero (by omega)] at hi
    have e := ints0 hi
    subst e
    exact r0 D 0 0 oA' cA' ocA' h' tk' rfl hF hS hc hc37 hD (hD _ U.mem37) F' N'
  · have hp := i2dLen_pos (a := a) (n := (N : Int)) (by omega) (by omega)
    have hB : (0 : Int) < 2 ^ N := two_pow_pos N
    rcases (show i2dLen a N = 1 ∨ i2dLen a N = 2 by omega) with h1 | h1
    · rw [h1] at hi hlt
      have hlt' : a < 2 ^ N := by rw [Int.pow_succ, Int.pow_zero, Int.one_mul] at hlt; exact hlt
      simp only [digs] at hi
      rw [Int.emod_eq_of_lt h0 hlt'] at hi
      obtain ⟨u, rfl⟩ := ints1 hi
      exact r1 D u 0 oA' cA' ocA' h' tk' ⟨by omega, hlt'⟩ hF hS hc hc37 hD (hD _ U.mem37) F' N'
    · have hge : 2 ^ N ≤ a := by
        apply Int.not_lt.mp
        intro hc
        have hb := bits_le h0 hc
        unfold i2dLen at h1
        rw [Int.fdiv_eq_ediv_of_nonneg _ (by omega)] at h1
        have : ((Builtin.Int.intBits a : Int) + N - 1) / N < 2 := Int.ediv_lt_of_lt_mul (by omega) (by omega)
        omega
      rw [h1] at hi hlt
      simp only [digs] at hi
      have hq : a / 2 ^ N < 2 ^ N := by
        refine Int.ediv_lt_of_lt_mul hB ?_
        have e : (2 : Int) ^ N * 2 ^ N = (2 ^ N) ^ 2 := by rw [Int.pow_succ, Int.pow_succ, Int.pow_zero, Int.one_mul]
        rw [e]; exact hlt
      rw [Int.emod_eq_of_lt (Int.ediv_nonneg h0 (Int.le_of_lt hB)) hq] at hi
      obtain ⟨u, v, rfl⟩ := ints2 hi
      exact r2 D u v oA' cA' ocA' h' tk' hge hF hS hc hc37 hD (hD _ U.mem37) F' N'
end Mine
end PartDmp0

section PartDmp1
open PySem PySem.Spec PySem.Calls PySem.W PyProof.Rows
set_option Elab.async false
set_option maxRecDepth 100000
set_option maxHeartbeats 8000000
namespace Mine

theorem bit_ok {x : Int} {N : Nat} (h0 : 0 ≤ x) (h : x < 2 ^ 500) : (Builtin.Int.intBits x : Int) - N ≤ 4000 := by
  have := bits_le h0 h
  omega
theorem fdiv_pos' {x b : Int} (hb : 0 < b) : x.fdiv b = x / b := Int.fdiv_eq_ediv_of_nonneg x (Int.le_of_lt hb)
theorem fmod_pos' {x b : Int} (hb : 0 < b) : x.fmod b = x % b := Int.fmod_eq_emod_of_nonneg x (Int.le_of_lt hb)
theorem pow_le_200 {N : Nat} (h : N ≤ 200) : (2 : Int) ^ N ≤ 2 ^ 200 := two_pow_mono h
theorem sec_bound {b d d1 : Int} {N : Nat} (hb : 0 < b) (hd0 : 0 ≤ d) (hd1 : d < 2 ^ N) : 0 ≤ d1 % b * 2 ^ N + d ∧ d1 % b * 2 ^ N + d < b * 2 ^ N := by
  have hB := two_pow_pos N
  have h1 := Int.emod_nonneg d1 (Int.ne_of_gt hb)
  have h2 := Int.emod_lt_of_pos d1 hb
  have h3 : 0 ≤ d1 % b * 2 ^ N := Int.mul_nonneg h1 (Int.le_of_lt hB)
  have h4 : (d1 % b + 1) * 2 ^ N ≤ b * 2 ^ N := Int.mul_le_mul_of_nonneg_right (by omega) (Int.le_of_lt hB)
  rw [Int.add_mul, Int.one_mul] at h4
  omega
theorem b_pow {b : Int} {N : Nat} (hb : 0 < b) (hb2 : b < 2 ^ 200) (hN : N ≤ 200) : b * 2 ^ N ≤ 2 ^ 400 := by
  have h1 := pow_le_200 hN
  have h2 : b * 2 ^ N ≤ 2 ^ 200 * 2 ^ 200 := mul_le_of (Int.le_of_lt hb) (Int.le_of_lt hb2) (Int.le_of_lt (two_pow_pos N)) h1
  have h3 : (2 : Int) ^ 200 * 2 ^ 200 = 2 ^ 400 := by decide
  omega

theorem div_first {w : World} {b d : Int} {N : Nat} {t1 t2 t3 : Tok} {news : List (Addr × Obj)}
    {p : Program} {loose : List Str} {mean : ExcName → Option Value} {mg mb : Str → Option Value} {dp un : Nat} {gd : Option (List Code)} {cn : Str} {cs : Scope} {fa : Addr} {ccd : Value} {cl : List (Str × Addr)} {outer : List Env} {A₀ : Around} {base h₀ : Heap} {L : Addr} {m : Str → Option Value} {s : Shared} {Q E : Value → Shared → Prop}
    (B : Below A₀ base outer h₀) (F : Fr h₀ L s.heap m) (X : (hd.heap_39 w.params).In h₀) (Nw : News h₀ L s.heap news) (T : Top p loose mean mg mb h₀) (hk : cs.kind = .function)
    (hb : 0 < b) (hb2 : b < 2 ^ 200) (hN : N ≤ 200) (hd0 : 0 ≤ d) (hd1 : d < 2 ^ N) (hdp : dp + 1 < recursionLimit) (hun : un + 8 < cLine)
    (hret : ∀ (q : Addr) (t1 t2 : Tok) (h' : Heap) (tk' : Nat), Fr h₀ L h' m → News h₀ L h' ((q, tup2 (d / b) t1 (d % b) t2) :: news) → AllLt q news → Q (.ref q) { s with heap := h', toks := tk' }) :
      wpAny (model Challenge.rw_rs0150_01.row.prog w) (ktrTop dp un gd cn cs L fa ccd cl outer) (call (.ref 21) [.int (0 * 2 ^ N + d) t1, .int b t2, .int (N : Int) t3]) Q E s := by
  have e : 0 * 2 ^ N + d = d := by omega
  have hp := pow_le_200 hN
  have h5 : (2 : Int) ^ 200 < 2 ^ 500 := by decide
  rw [e]
  refine div2n1n_spec B F X Nw T hk (by omega) (bit_ok hd0 (by omega)) (no_pylong hb hb2) hdp hun ?_
  rw [fdiv_pos' hb, fmod_pos' hb]
  exact hret

theorem div_second {w : World} {b d d1 : Int} {N : Nat} {t1 t2 t3 : Tok} {news : List (Addr × Obj)}
    {p : Program} {loose : List Str} {mean : ExcName → Option Value} {mg mb : Str → Option Value} {dp un : Nat} {gd : Option (List Code)} {cn : Str} {cs : Scope} {fa : Addr} {ccd : Value} {cl : List (Str × Addr)} {outer : List Env} {A₀ : Around} {base h₀ : Heap} {L : Addr} {m : Str → Option Value} {s : Shared} {Q E : Value → Shared → Prop}
    (B : Below A₀ base outer h₀) (F : Fr h₀ L s.heap m) (X : (hd.heap_39 w.params).In h₀) (Nw : News h₀ L s.heap news) (T : Top p loose mean mg mb h₀) (hk : cs.kind = .function)
    (hb : 0 < b) (hb2 : b < 2 ^ 200) (hN : N ≤ 200) (hd0 : 0 ≤ d) (hd1 : d < 2 ^ N) (hdp : dp + 1 < recursionLimit) (hun : un + 8 < cLine)
    (hret : ∀ (q : Addr) (t1 t2 : Tok) (h' : Heap) (tk' : Nat), Fr h₀ L h' m → News h₀ L h' ((q, tup2 ((d1 % b * 2 ^ N + d) / b) t1 ((d1 % b * 2 ^ N + d) % b) t2) :: news) → AllLt q news → Q (.ref q) { s with heap := h', toks := tk' }) :
      wpAny (model Challenge.rw_rs0150_01.row.prog w) (ktrTop dp un gd cn cs L fa ccd cl outer) (call (.ref 21) [.int (d1 % b * 2 ^ N + d) t1, .int b t2, .int (N : Int) t3]) Q E s := by
  have hs := sec_bound (d1 := d1) hb hd0 hd1
  have hp := b_pow hb hb2 hN
  have h5 : (2 : Int) ^ 400 < 2 ^ 500 := by decide
  refine div2n1n_spec B F X Nw T hk (by omega) (bit_ok hs.1 (by omega)) (no_pylong hb hb2) hdp hun ?_
  rw [fdiv_pos' hb, fmod_pos' hb]
  exact hret

section
variable {prog : Program} {w : World} {A : Around} {E : Value → Shared → Prop} {s : Shared} {Q : Value → Shared → Prop} {N : Nat} {t u : Tok}
theorem lshift_zero (hN : N ≤ 200) (h : Q (.int (0 * 2 ^ N) s.toks) { s with toks := s.toks + 1 }) : wpAny (model prog w) A (binaryOp .LShift (.int 0 t) (.int (N : Int) u)) Q E s :=
  lshift_int (by omega) (by have e : Builtin.Int.intBits 0 = 0 := rfl; rw [e]; omega) (by rw [Int.toNat_natCast]; exact h)
theorem lshift_rem {b d1 : Int} (hb : 0 < b) (hb2 : b < 2 ^ 200) (hN : N ≤ 200) (h : Q (.int (d1 % b * 2 ^ N) s.toks) { s with toks := s.toks + 1 }) : wpAny (model prog w) A (binaryOp .LShift (.int (d1 % b) t) (.int (N : Int) u)) Q E s :=
  lshift_int (by omega) (by
    have h1 := Int.emod_nonneg d1 (Int.ne_of_gt hb)
    have h2 := Int.emod_lt_of_pos d1 hb
    have := bits_le h1 (show d1 % b < 2 ^ 200 by omega)
    omega) (by rw [Int.toNat_natCast]; exact h)
end
section
variable {prog : Program} {w : World} {A : Around} {E : Value → Shared → Prop} {s : Shared} {env : Env} {h₀ : Heap} {m₀ : Str → Option Value} {x : Str} {body : List Stmt} {Q : Flow → Shared → Prop}
theorem iter_revL {ax I l : Addr} {ol : Obj} {vs : List Value} {n : Nat} {tl : List (Addr × Obj)} (hh : A.handled = none) (F : Fr h₀ env.locals s.heap m₀)
    (N : News h₀ env.locals s.heap ((I, revObj ax ((vs.length : Int) - 1)) :: (l, ol) :: (ax, listOf vs.toArray n) :: tl)) (hlt : @LT.lt Nat _ l I ∧ @LT.lt Nat _ ax I ∧ AllLt I tl)
    (rest : RevRest prog w A E h₀ env x body Q s I (ax, listOf vs.toArray n) vs.reverse m₀ ((l, ol) :: (ax, listOf vs.toArray n) :: tl)) :
    wpAny (model prog w) A (pyIter (.ref I)) (fun it s₂ => LoopAtV prog w A h₀ env x body Q E it s₂) E s := by
  refine iter_revUnr hh F N ?_ (.tail _ (.head _)) rfl rfl rest
  have h : AllLt I ((l, ol) :: (ax, listOf vs.toArray n) :: tl) := hlt
  generalize ((l, ol) :: (ax, listOf vs.toArray n) :: tl) = z at h
  clear N rest hlt
  induction z with
  | nil => trivial
  | cons p r ih => exact ⟨.inl (Nat.ne_of_lt h.1), ih h.2⟩
end
theorem unr_end1 {h₀ : Heap} {L I : Addr} {it : Obj} {rest : (Str → Option Value) → List (Addr × Obj) → Prop} {s₁ : Shared} {h' : Heap} {tk : Nat} {m' : Str → Option Value} {e : Addr × Obj} {l ax : Addr} {ol oa : Obj} {tl : List (Addr × Obj)}
    (F : Fr h₀ L h' m') (N : News h₀ L h' (e :: (I, it) :: (l, ol) :: (ax, oa) :: tl)) (hlt : @LT.lt Nat _ l I ∧ @LT.lt Nat _ ax I ∧ AllLt I tl) (r : rest m' ((l, ol) :: (ax, oa) :: tl)) :
    UnrEnd h₀ L s₁ I it rest { s₁ with heap := h', toks := tk } :=
  UnrEnd.intro F N ((l, ol) :: (ax, oa) :: tl) (fun p hp => .tail _ hp) (fun p hp => Nat.ne_of_lt (allLt_mem (show AllLt I ((l, ol) :: (ax, oa) :: tl) from hlt) p hp)) r
theorem allLt_ne {d : Nat} {l : List (Addr × Obj)} (h : AllLt d l) : ∀ p ∈ l, p.1 ≠ d := fun p hp => Nat.ne_of_lt (allLt_mem h p hp)

theorem hi_dig {a : Int} {N : Nat} (h0 : 0 ≤ a) (h : a < 2 ^ (2 * N)) : a / 2 ^ N < 2 ^ N := by
  refine Int.ediv_lt_of_lt_mul (two_pow_pos N) ?_
  have e : (2 : Int) ^ N * 2 ^ N = 2 ^ (2 * N) := by rw [← Int.pow_add]; congr 1; omega
  rw [e]; exact h
theorem hds1 {a b : Int} {N : Nat} (hb : 0 < b) (h : 0 < a ∧ a < 2 ^ N) : ∀ d ∈ [a / b], 0 ≤ d ∧ d < 2 ^ ((N : Int)).toNat := by
  intro d hd
  rw [List.mem_singleton.mp hd, Int.toNat_natCast]
  have := Int.ediv_nonneg (Int.le_of_lt h.1) (Int.le_of_lt hb)
  have h2 := Int.ediv_le_self b (Int.le_of_lt h.1)
  omega
theorem hds2 {a b : Int} {N : Nat} (hb : 0 < b) (h0 : 0 ≤ a) (h : a < 2 ^ (2 * N)) : ∀ d ∈ [(a / 2 ^ N % b * 2 ^ N + a % 2 ^ N) / b, a / 2 ^ N / b], 0 ≤ d ∧ d < 2 ^ ((N : Int)).toNat := by
  intro d hd
  rw [Int.toNat_natCast]
  have hB := two_pow_pos N
  have hm := Int.emod_nonneg a (Int.ne_of_gt hB)
  have hm2 := Int.emod_lt_of_pos a hB
  have hq := hi_dig h0 h
  have hq0 := Int.ediv_nonneg h0 (Int.le_of_lt hB)
  rcases List.mem_cons.mp hd with rfl | hd
  · have hs := sec_bound (d1 := a / 2 ^ N) hb hm hm2
    exact ⟨Int.ediv_nonneg hs.1 (Int.le_of_lt hb), Int.ediv_lt_of_lt_mul hb (by rw [Int.mul_comm (2 ^ N) b]; exact hs.2)⟩
  · rw [List.mem_singleton.mp hd]
    have h1 := Int.ediv_nonneg hq0 (Int.le_of_lt hb)
    have h2 := Int.ediv_le_self b hq0
    omega
theorem dval1 {a b B : Int} : dval B [a / b] = a / b := by simp [dval]
theorem dval2 {B x y : Int} : dval B [x, y] = x + B * y := by simp [dval]

theorem dmp_fin {a b x y : Int} {news : List (Addr × Obj)} {oA ocA oB ocB oA' ocA' oB' ocB' : Obj} {cA cB cA' cB' : Addr} {g : Obj → Addr → Obj → Obj → Addr → Obj → List (Addr × Obj)} {h₀ h' : Heap} {L : Addr} {m : Str → Option Value} {s : Shared} {Q : Value → Shared → Prop} {q D l : Addr} {tx ty : Tok} {tk' : Nat} {od ol : Obj} {lg : List (Addr × Obj)}
    (hret : (∀ (q : Addr) (tx ty : Tok) (oA' : Obj) (cA' : Addr) (ocA' : Obj) (oB' : Obj) (cB' : Addr) (ocB' : Obj) (h' : Heap) (tk' : Nat), TabF 30 32 4 q30 oA' cA' ocA' → TabF 37 47 4 q37 oB' cB' ocB' → (TabF 30 32 4 q30 oA cA ocA → oA' = oA ∧ cA' = cA ∧ ocA' = ocA) → (TabF 37 47 4 q37 oB cB ocB → oB' = oB ∧ cB' = cB ∧ ocB' = ocB) → cA' ≠ 37 → cB' ≠ 30 → (cA' = cA ∨ ∀ p ∈ news, p.1 < cA') → (cB' = cB ∨ ∀ p ∈ news, p.1 < cB') → AllLt q (g oA' cA' ocA' oB' cB' ocB') → Fr h₀ L h' m → News h₀ L h' ((q, tup2 (a / b) tx (a % b) ty) :: g oA' cA' ocA' oB' cB' ocB') → Q (.ref q) { s with heap := h', toks := tk' })) (N : News h₀ L h' ((q, tup2 x tx y ty) :: (l, ol) :: (D, od) :: g oA' cA' ocA' oB' cB' ocB')) (F : Fr h₀ L h' m)
    (hA : TabF 30 32 4 q30 oA' cA' ocA') (hB : TabF 37 47 4 q37 oB' cB' ocB') (sA : TabF 30 32 4 q30 oA cA ocA → oA' = oA ∧ cA' = cA ∧ ocA' = ocA) (sB : TabF 37 47 4 q37 oB cB ocB → oB' = oB ∧ cB' = cB ∧ ocB' = ocB) (hc37 : cA' ≠ 37) (hcB : cB ≠ 30) (hD37 : @LT.lt Nat _ 37 D)
    (hcA' : cA' = cA ∨ D < cA' ∧ ∀ p ∈ news, p.1 < cA') (hcB' : cB' = cB ∨ ∀ p ∈ (l, ol) :: (D, od) :: lg, p.1 < cB') (hlD : ∀ p ∈ news, p.1 < D) (hq : @LT.lt Nat _ l q ∧ @LT.lt Nat _ D q ∧ AllLt q (g oA' cA' ocA' oB' cB' ocB')) (hx : x = a / b) (hy : y = a % b) : Q (.ref q) { s with heap := h', toks := tk' } := by
  subst hx; subst hy
  have hDB : cB' = cB ∨ D < cB' := hcB'.imp id fun h => h (D, od) (.tail _ (.head _))
  refine hret q tx ty oA' cA' ocA' oB' cB' ocB' h' tk' hA hB sA sB hc37 ?_ (hcA'.imp id And.right) (hDB.imp id fun h p hp => Nat.lt_trans (hlD p hp) h) hq.2.2 F (news_sub N fun p hp => ?_)
  · rcases hDB with h | h
    · rw [h]; exact hcB
    · exact Nat.ne_of_gt (Nat.lt_trans (Nat.lt_trans (by decide) hD37) h)
  · rcases List.mem_cons.mp hp with rfl | hp
    · exact .head _
    · exact .tail _ (.tail _ (.tail _ hp))
end Mine
end PartDmp1

section PartDmp
open PySem PySem.Spec PySem.Calls PySem.W PyProof.Rows
set_option Elab.async false
set_option maxRecDepth 100000
set_option maxHeartbeats 8000000
namespace Mine
/-- the walk's lines are looked up afresh from here on -/
theorem syncDmp {M : Model} {A : Around} {E : Value → Shared → Prop} {s : Shared} {env : Env} {Q : Flow → Shared → Prop} (h : Q .next s) : wpAny M A (execs [] env) Q E s := by
  w_top off
  first | (walk1; exact h) | exact wpAny_execs_nil h

local macro_rules | `(tactic| k_all) => `(tactic| first | assumption | exact allLt_ne (by assumption) | exact allLt_ne (And.right (by assumption)) | exact allLt_ne (And.right (And.right (by assumption))))
local macro_rules | `(tactic| walk_at "binaryOp LShift int int") => `(tactic| (k_here; refine stop_here ?_))
local macro_rules | `(tactic| walk_at "pyIter ref") => `(tactic| (k_here; refine stop_here ?_))
local macro_rules | `(tactic| walk_at "UnrEnd") => `(tactic| (k_here; refine stop_here ?_))

theorem dmp_spec {w : World} {a b : Int} {t1 t2 : Tok} {news : List (Addr × Obj)} {oA ocA oB ocB : Obj} {cA cB : Addr} {g : Obj → Addr → Obj → Obj → Addr → Obj → List (Addr × Obj)}
    {p : Program} {loose : List Str} {mean : ExcName → Option Value} {mg mb : Str → Option Value} {dp un : Nat} {gd : Option (List Code)} {cn : Str} {cs : Scope} {fa : Addr} {ccd : Value} {cl : List (Str × Addr)} {outer : List Env} {A₀ : Around} {base h₀ : Heap} {L : Addr} {m : Str → Option Value} {s : Shared} {Q E : Value → Shared → Prop}
    (B : Below A₀ base outer h₀) (F : Fr h₀ L s.heap m) (X : (hd.heap_39 w.params).In h₀) (N : News h₀ L s.heap news) (T : Top p loose mean mg mb h₀) (hk : cs.kind = .function)
    (U : Tb2 oA cA ocA oB cB ocB news g) (hTA : TabP 30 32 4 q30 oA cA ocA) (hTB : TabP 37 47 4 q37 oB cB ocB) (hcA : cA ≠ 37) (hcB : cB ≠ 30) (h0 : 0 ≤ a) (hb : 0 < b) (hb2 : b < 2 ^ 200) (ha : a < 2 ^ (2 * Builtin.Int.intBits b)) (hdp : dp + 400 < recursionLimit) (hun : un + 4000 < cLine)
    (hret : (∀ (q : Addr) (tx ty : Tok) (oA' : Obj) (cA' : Addr) (ocA' : Obj) (oB' : Obj) (cB' : Addr) (ocB' : Obj) (h' : Heap) (tk' : Nat), TabF 30 32 4 q30 oA' cA' ocA' → TabF 37 47 4 q37 oB' cB' ocB' → (TabF 30 32 4 q30 oA cA ocA → oA' = oA ∧ cA' = cA ∧ ocA' = ocA) → (TabF 37 47 4 q37 oB cB ocB → oB' = oB ∧ cB' = cB ∧ ocB' = ocB) → cA' ≠ 37 → cB' ≠ 30 → (cA' = cA ∨ ∀ p ∈ news, p.1 < cA') → (cB' = cB ∨ ∀ p ∈ news, p.1 < cB') → AllLt q (g oA' cA' ocA' oB' cB' ocB') → Fr h₀ L h' m → News h₀ L h' ((q, tup2 (a / b) tx (a % b) ty) :: g oA' cA' ocA' oB' cB' ocB') → Q (.ref q) { s with heap := h', toks := tk' })) :
      wpAny (model Challenge.rw_rs0150_01.row.prog w) (ktrTop dp un gd cn cs L fa ccd cl outer) (call (.ref 49) [.int a t1, .int b t2]) Q E s := by
  have hN := bits_pos hb
  have hN2 := bits_le (Int.le_of_lt hb) hb2
  have hf1 := i2d_fdiv h0 hN ha
  have hf2 : 0 < (Builtin.Int.intBits b : Int) := by omega
  have hf3 : (Builtin.Int.intBits b : Int) ≤ 200 := by omega
  refine wpAny_call ?_
  k_dflt (refine' code_def ?k1 ?k2 ?k3 ?k4 ?k5 ?kA ?kF ?kK ?k6 ?k7 ?k8 ?k9 ?kB ?_ ?c2 ?c3 ?c4 ?c5; (case kA => exact rfl); (case kF => exact rfl); (case kK => assumption); (case k1 => k_asm); (case k2 => k_asm); (case k3 => k_asm); (case k4 => k_asm); (case k5 => k_asm); (case k6 => k_is); (case k7 => k_is); (case k8 => ktr_room); (case k9 => exact BindsTo.of_eq rfl); (case c5 => decide); (case kB => exact locs rfl); (case c2 => exact rfl); (case c3 => exact rfl); (case c4 => exact rfl); k_whole; intro g' L' h' FG' F' N' B' X' T'; (try dsimp only); (try k_lift B'); (try k_fold))
  refine gen_toks fun tk0 => ?_
  k_steps
  k_dflt (refine' i2d3_spec ?k1 ?k2 ?k3 ?k4 ?k5 ?kK ?U ?hT ?c1 ?c2 ?a1 ?a2 ?a3 ?a4 ?hd ?hu ?_ ?_ ?_; (case k1 => k_asm); (case k2 => k_asm); (case k3 => k_asm); (case k4 => k_asm); (case k5 => k_asm); (case kK => exact rfl); (case U => assumption); (case hT => assumption); (case c1 => assumption); (case c2 => assumption); (case a1 => assumption); (case a2 => assumption); (case a3 => assumption); (case a4 => assumption); (case hd => ktr_room); (case hu => ktr_units)); all_goals (intro D9 u9 v9 oA9 cA9 ocA9 h9 tk9 hA9 hTA9 hSA9 hcA9 hc37 hlD9 hD37 F9 N9; (try dsimp only))
  · k_steps
    k_dflt (refine' iter_revL ?ihh1 ?iF1 ?iN1 ?ilt1 ?_; (case ihh1 => rfl); (case iF1 => assumption); (case iN1 => assumption); (case ilt1 => assumption))
    k_steps
    k_dflt (refine' d2i_spec ?k1 ?k2 ?k3 ?k4 ?k5 ?kK ?U ?hT ?mm ?d1 ?ii ?l1 ?n1 ?n2 ?ds ?hd ?hu ?_; (case k1 => k_asm); (case k2 => k_asm); (case k3 => k_asm); (case k4 => k_asm); (case k5 => k_asm); (case kK => exact rfl); (case U => exact Tb1.cons (neN (by dsimp only; omega)) (Tb1.cons (neN (by dsimp only; omega)) (Tb2.b (by assumption) _ _ (by assumption)))); (case hT => assumption); (case mm => exact List.Mem.head _); (case d1 => (refine neN ?_; omega)); (case ii => exact .nil); (case l1 => exact Nat.le_of_ble_eq_true rfl); (case n1 => omega); (case n2 => assumption); (case ds => exact List.forall_mem_nil _); (case hd => ktr_room); (case hu => ktr_units)); intro t9 oB9 cB9 ocB9 h9 tk9 hTB9 hSB9 hcB9 F9 N9; (try dsimp only at N9); (try dsimp only)
    k_steps
    have hz : a = 0 := by assumption
    exact dmp_fin hret (by assumption) (by assumption) (by assumption) (by assumption) (by assumption) (by assumption) (by assumption) hcB (by assumption) (by assumption) (by assumption) (by assumption) (by assumption) (by rw [hz]; simp [dval]) (by rw [hz]; simp)
  · k_steps
    k_dflt (refine' iter_revL ?ihh2 ?iF2 ?iN2 ?ilt2 ?_; (case ihh2 => rfl); (case iF2 => assumption); (case iN2 => assumption); (case ilt2 => assumption))
    k_steps
    refine lshift_zero (by assumption) ?_
    k_steps
    k_dflt (refine' div_first ?k1 ?k2 ?k3 ?k4 ?k5 ?kK ?a1 ?a2 ?a3 ?b1 ?b2 ?hd ?hu ?_; (case k1 => k_asm); (case k2 => k_asm); (case k3 => k_asm); (case k4 => k_asm); (case k5 => k_asm); (case kK => exact rfl); (case a1 => assumption); (case a2 => assumption); (case a3 => assumption); (case b1 => omega); (case b2 => omega); (case hd => ktr_room); (case hu => ktr_units)); intro q9 u9 v9 h9 tk9 F9 N9 lq9; (try simp only [AllLt, and_true] at lq9); (try dsimp only)
    k_steps
    k_dflt (refine' unr_end1 ?eF2 ?eN2 ?el2 ?_; (case eF2 => assumption); (case eN2 => assumption); (case el2 => assumption)); refine ⟨.tail _ (.head _), ?_⟩
    k_steps
    k_dflt (refine' d2i_spec ?k1 ?k2 ?k3 ?k4 ?k5 ?kK ?U ?hT ?mm ?d1 ?ii ?l1 ?n1 ?n2 ?ds ?hd ?hu ?_; (case k1 => k_asm); (case k2 => k_asm); (case k3 => k_asm); (case k4 => k_asm); (case k5 => k_asm); (case kK => exact rfl); (case U => exact Tb1.cons (neN (by dsimp only; omega)) (Tb1.cons (neN (by dsimp only; omega)) (Tb2.b (by assumption) _ _ (by assumption)))); (case hT => assumption); (case mm => exact List.Mem.head _); (case d1 => (refine neN ?_; omega)); (case ii => exact .cons _ _ .nil); (case l1 => exact Nat.le_of_ble_eq_true rfl); (case n1 => omega); (case n2 => assumption); (case ds => exact hds1 (by assumption) (by assumption)); (case hd => ktr_room); (case hu => ktr_units)); intro t9 oB9 cB9 ocB9 h9 tk9 hTB9 hSB9 hcB9 F9 N9; (try dsimp only at N9); (try dsimp only)
    k_steps
    exact dmp_fin hret (by assumption) (by assumption) (by assumption) (by assumption) (by assumption) (by assumption) (by assumption) hcB (by assumption) (by assumption) (by assumption) (by assumption) (by assumption) dval1 rfl
  · k_steps
    k_dflt (refine' iter_revL ?ihh3 ?iF3 ?iN3 ?ilt3 ?_; (case ihh3 => rfl); (case iF3 => assumption); (case iN3 => assumption); (case ilt3 => assumption))
    k_steps
    refine lshift_zero (by assumption) ?_
    k_steps
    k_dflt (refine' div_first ?k1 ?k2 ?k3 ?k4 ?k5 ?kK ?a1 ?a2 ?a3 ?b1 ?b2 ?hd ?hu ?_; (case k1 => k_asm); (case k2 => k_asm); (case k3 => k_asm); (case k4 => k_asm); (case k5 => k_asm); (case kK => exact rfl); (case a1 => assumption); (case a2 => assumption); (case a3 => assumption); (case b1 => exact Int.ediv_nonneg (by assumption) (Int.le_of_lt (two_pow_pos _))); (case b2 => exact hi_dig (by assumption) (by assumption)); (case hd => ktr_room); (case hu => ktr_units)); intro q9 u9 v9 h9 tk9 F9 N9 lq9; (try simp only [AllLt, and_true] at lq9); (try dsimp only)
    k_steps
    k_dflt (refine' unr_end1 ?eF4 ?eN4 ?el4 ?_; (case eF4 => assumption); (case eN4 => assumption); (case el4 => assumption)); refine ⟨.tail _ (.head _), ?_⟩
    k_steps
    refine lshift_rem (by assumption) (by assumption) (by assumption) ?_
    k_steps
    k_dflt (refine' div_second ?k1 ?k2 ?k3 ?k4 ?k5 ?kK ?a1 ?a2 ?a3 ?b1 ?b2 ?hd ?hu ?_; (case k1 => k_asm); (case k2 => k_asm); (case k3 => k_asm); (case k4 => k_asm); (case k5 => k_asm); (case kK => exact rfl); (case a1 => assumption); (case a2 => assumption); (case a3 => assumption); (case b1 => exact Int.emod_nonneg _ (Int.ne_of_gt (two_pow_pos _))); (case b2 => exact Int.emod_lt_of_pos _ (two_pow_pos _)); (case hd => ktr_room); (case hu => ktr_units)); intro q9 u9 v9 h9 tk9 F9 N9 lq9; (try simp only [AllLt, and_true] at lq9); (try dsimp only)
    k_steps
    k_dflt (refine' unr_end1 ?eF3 ?eN3 ?el3 ?_; (case eF3 => assumption); (case eN3 => assumption); (case el3 => assumption)); refine ⟨.tail _ (.head _), ?_⟩
    k_steps
    k_dflt (refine' d2i_spec ?k1 ?k2 ?k3 ?k4 ?k5 ?kK ?U ?hT ?mm ?d1 ?ii ?l1 ?n1 ?n2 ?ds ?hd ?hu ?_; (case k1 => k_asm); (case k2 => k_asm); (case k3 => k_asm); (case k4 => k_asm); (case k5 => k_asm); (case kK => exact rfl); (case U => exact Tb1.cons (neN (by dsimp only; omega)) (Tb1.cons (neN (by dsimp only; omega)) (Tb2.b (by assumption) _ _ (by assumption)))); (case hT => assumption); (case mm => exact List.Mem.head _); (case d1 => (refine neN ?_; omega)); (case ii => exact .cons _ _ (.cons _ _ .nil)); (case l1 => exact Nat.le_of_ble_eq_true rfl); (case n1 => omega); (case n2 => assumption); (case ds => exact hds2 (by assumption) (by assumption) (by assumption)); (case hd => ktr_room); (case hu => ktr_units)); intro t9 oB9 cB9 ocB9 h9 tk9 hTB9 hSB9 hcB9 F9 N9; (try dsimp only at N9); (try dsimp only)
    k_steps
    have e2 := two_step (a := a) (b := b) (B := 2 ^ Builtin.Int.intBits b) hb (two_pow_pos _) rfl rfl
    exact dmp_fin hret (by assumption) (by assumption) (by assumption) (by assumption) (by assumption) (by assumption) (by assumption) hcB (by assumption) (by assumption) (by assumption) (by assumption) (by assumption) (by rw [dval2, Int.toNat_natCast]; exact e2.1) e2.2
end Mine
end PartDmp

section PartIdm
open PySem PySem.Spec PySem.Calls PySem.W PyProof.Rows
set_option Elab.async false
set_option maxRecDepth 100000
set_option maxHeartbeats 8000000
namespace Mine
/-- the walk's lines are looked up afresh from here on -/
theorem syncIdm {M : Model} {A : Around} {E : Value → Shared → Prop} {s : Shared} {env : Env} {Q : Flow → Shared → Prop} (h : Q .next s) : wpAny M A (execs [] env) Q E s := by
  w_top off
  first | (walk1; exact h) | exact wpAny_execs_nil h

theorem idm_fin {x y x' y' : Int} {news : List (Addr × Obj)} {oA ocA oB ocB oA' ocA' oB' ocB' : Obj} {cA cB cA' cB' : Addr} {g : Obj → Addr → Obj → Obj → Addr → Obj → List (Addr × Obj)} {h₀ h' : Heap} {L : Addr} {m : Str → Option Value} {s : Shared} {Q : Value → Shared → Prop} {q D : Addr} {tx ty : Tok} {tk' : Nat} {od : Obj}
    (hret : (∀ (q : Addr) (tx ty : Tok) (oA' : Obj) (cA' : Addr) (ocA' : Obj) (oB' : Obj) (cB' : Addr) (ocB' : Obj) (h' : Heap) (tk' : Nat), TabF 30 32 4 q30 oA' cA' ocA' → TabF 37 47 4 q37 oB' cB' ocB' → (TabF 30 32 4 q30 oA cA ocA → oA' = oA ∧ cA' = cA ∧ ocA' = ocA) → (TabF 37 47 4 q37 oB cB ocB → oB' = oB ∧ cB' = cB ∧ ocB' = ocB) → cA' ≠ 37 → cB' ≠ 30 → (cA' = cA ∨ ∀ p ∈ news, p.1 < cA') → (cB' = cB ∨ ∀ p ∈ news, p.1 < cB') → AllLt q (g oA' cA' ocA' oB' cB' ocB') → Fr h₀ L h' m → News h₀ L h' ((q, tup2 (x') tx (y') ty) :: g oA' cA' ocA' oB' cB' ocB') → Q (.ref q) { s with heap := h', toks := tk' })) (N : News h₀ L h' ((q, tup2 x tx y ty) :: (D, od) :: g oA' cA' ocA' oB' cB' ocB')) (F : Fr h₀ L h' m)
    (hA : TabF 30 32 4 q30 oA' cA' ocA') (hB : TabF 37 47 4 q37 oB' cB' ocB') (sA : TabF 30 32 4 q30 oA cA ocA → oA' = oA ∧ cA' = cA ∧ ocA' = ocA) (sB : TabF 37 47 4 q37 oB cB ocB → oB' = oB ∧ cB' = cB ∧ ocB' = ocB) (hc37 : cA' ≠ 37) (hc30 : cB' ≠ 30)
    (fA : cA' = cA ∨ ∀ p ∈ news, p.1 < cA') (fB : cB' = cB ∨ ∀ p ∈ news, p.1 < cB') (hq : @LT.lt Nat _ D q ∧ AllLt q (g oA' cA' ocA' oB' cB' ocB')) (hx : x = x') (hy : y = y') : Q (.ref q) { s with heap := h', toks := tk' } := by
  subst hx; subst hy
  refine hret q tx ty oA' cA' ocA' oB' cB' ocB' h' tk' hA hB sA sB hc37 hc30 fA fB hq.2 F (news_sub N fun p hp => ?_)
  rcases List.mem_cons.mp hp with rfl | hp
  · exact .head _
  · exact .tail _ (.tail _ hp)
theorem neg_step {a b : Int} (hb : 0 < b) : -((-a - 1) / b) - 1 = a / b ∧ b + (-((-a - 1) % b) - 1) = a % b := by
  have e := Int.emod_add_mul_ediv (-a - 1) b
  have h1 := Int.emod_nonneg (-a - 1) (Int.ne_of_gt hb)
  have h2 := Int.emod_lt_of_pos (-a - 1) hb
  have hu := (Int.ediv_emod_unique (a := a) (b := b) (r := b + (-((-a - 1) % b) - 1)) (q := -((-a - 1) / b) - 1) hb).mpr ⟨by rw [Int.mul_sub, Int.mul_neg, Int.mul_one]; omega, by omega, by omega⟩
  exact ⟨hu.1.symm, hu.2.symm⟩


theorem idm_pos {w : World} {a b : Int} {t1 t2 : Tok} {news : List (Addr × Obj)} {oA ocA oB ocB : Obj} {cA cB : Addr} {g : Obj → Addr → Obj → Obj → Addr → Obj → List (Addr × Obj)}
    {p : Program} {loose : List Str} {mean : ExcName → Option Value} {mg mb : Str → Option Value} {dp un : Nat} {gd : Option (List Code)} {cn : Str} {cs : Scope} {fa : Addr} {ccd : Value} {cl : List (Str × Addr)} {outer : List Env} {A₀ : Around} {base h₀ : Heap} {L : Addr} {m : Str → Option Value} {s : Shared} {Q E : Value → Shared → Prop}
    (B : Below A₀ base outer h₀) (F : Fr h₀ L s.heap m) (X : (hd.heap_39 w.params).In h₀) (N : News h₀ L s.heap news) (T : Top p loose mean mg mb h₀) (hk : cs.kind = .function)
    (U : Tb2 oA cA ocA oB cB ocB news g) (hTA : TabP 30 32 4 q30 oA cA ocA) (hTB : TabP 37 47 4 q37 oB cB ocB) (hcA : cA ≠ 37) (hcB : cB ≠ 30) (h0 : 0 ≤ a) (hb : 0 < b) (hb2 : b < 2 ^ 200) (ha : a < 2 ^ (2 * Builtin.Int.intBits b)) (hdp : dp + 402 < recursionLimit) (hun : un + 4020 < cLine)
    (hret : (∀ (q : Addr) (tx ty : Tok) (oA' : Obj) (cA' : Addr) (ocA' : Obj) (oB' : Obj) (cB' : Addr) (ocB' : Obj) (h' : Heap) (tk' : Nat), TabF 30 32 4 q30 oA' cA' ocA' → TabF 37 47 4 q37 oB' cB' ocB' → (TabF 30 32 4 q30 oA cA ocA → oA' = oA ∧ cA' = cA ∧ ocA' = ocA) → (TabF 37 47 4 q37 oB cB ocB → oB' = oB ∧ cB' = cB ∧ ocB' = ocB) → cA' ≠ 37 → cB' ≠ 30 → (cA' = cA ∨ ∀ p ∈ news, p.1 < cA') → (cB' = cB ∨ ∀ p ∈ news, p.1 < cB') → AllLt q (g oA' cA' ocA' oB' cB' ocB') → Fr h₀ L h' m → News h₀ L h' ((q, tup2 (a / b) tx (a % b) ty) :: g oA' cA' ocA' oB' cB' ocB') → Q (.ref q) { s with heap := h', toks := tk' })) :
      wpAny (model Challenge.rw_rs0150_01.row.prog w) (ktrTop dp un gd cn cs L fa ccd cl outer) (call (.ref 56) [.int a t1, .int b t2]) Q E s := by
  refine wpAny_call ?_
  k_dflt (refine' code_def ?k1 ?k2 ?k3 ?k4 ?k5 ?kA ?kF ?kK ?k6 ?k7 ?k8 ?k9 ?kB ?_ ?c2 ?c3 ?c4 ?c5; (case kA => exact rfl); (case kF => exact rfl); (case kK => assumption); (case k1 => k_asm); (case k2 => k_asm); (case k3 => k_asm); (case k4 => k_asm); (case k5 => k_asm); (case k6 => k_is); (case k7 => k_is); (case k8 => ktr_room); (case k9 => exact BindsTo.of_eq rfl); (case c5 => decide); (case kB => exact locs rfl); (case c2 => exact rfl); (case c3 => exact rfl); (case c4 => exact rfl); k_whole; intro g' L' h' FG' F' N' B' X' T'; (try dsimp only); (try k_lift B'); (try k_fold))
  refine gen_toks fun tk0 => ?_
  k_steps
  all_goals (try (exfalso; omega))
  k_dflt (refine' dmp_spec ?k1 ?k2 ?k3 ?k4 ?k5 ?kK ?U ?hTA ?hTB ?hcA ?hcB ?a1 ?a2 ?a3 ?a4 ?hd ?hu ?_; (case k1 => k_asm); (case k2 => k_asm); (case k3 => k_asm); (case k4 => k_asm); (case k5 => k_asm); (case kK => exact rfl); (case U => assumption); (case hTA => assumption); (case hTB => assumption); (case hcA => assumption); (case hcB => assumption); (case a1 => assumption); (case a2 => assumption); (case a3 => assumption); (case a4 => assumption); (case hd => ktr_room); (case hu => ktr_units)); intro q9 tx9 ty9 oA9 cA9 ocA9 oB9 cB9 ocB9 h9 tk9 hA9 hB9 sA9 sB9 hcA9 hcB9 fA9 fB9 lq9 F9 N9; (try dsimp only)
  k_steps
  exact hret _ _ _ _ _ _ _ _ _ _ _ (by assumption) (by assumption) (by assumption) (by assumption) (by assumption) (by assumption) (by assumption) (by assumption) (by assumption) (by assumption) (by assumption)


theorem idm_any {w : World} {a b : Int} {t1 t2 : Tok} {news : List (Addr × Obj)} {oA ocA oB ocB : Obj} {cA cB : Addr} {g : Obj → Addr → Obj → Obj → Addr → Obj → List (Addr × Obj)}
    {p : Program} {loose : List Str} {mean : ExcName → Option Value} {mg mb : Str → Option Value} {dp un : Nat} {gd : Option (List Code)} {cn : Str} {cs : Scope} {fa : Addr} {ccd : Value} {cl : List (Str × Addr)} {outer : List Env} {A₀ : Around} {base h₀ : Heap} {L : Addr} {m : Str → Option Value} {s : Shared} {Q E : Value → Shared → Prop}
    (B : Below A₀ base outer h₀) (F : Fr h₀ L s.heap m) (X : (hd.heap_39 w.params).In h₀) (N : News h₀ L s.heap news) (T : Top p loose mean mg mb h₀) (hk : cs.kind = .function)
    (U : Tb2 oA cA ocA oB cB ocB news g) (hTA : TabP 30 32 4 q30 oA cA ocA) (hTB : TabP 37 47 4 q37 oB cB ocB) (hcA : cA ≠ 37) (hcB : cB ≠ 30) (hb : 0 < b) (hb2 : b < 2 ^ 200) (ha : a < 2 ^ (2 * Builtin.Int.intBits b)) (ha2 : -a - 1 < 2 ^ (2 * Builtin.Int.intBits b)) (hdp : dp + 404 < recursionLimit) (hun : un + 4040 < cLine)
    (hret : (∀ (q : Addr) (tx ty : Tok) (oA' : Obj) (cA' : Addr) (ocA' : Obj) (oB' : Obj) (cB' : Addr) (ocB' : Obj) (h' : Heap) (tk' : Nat), TabF 30 32 4 q30 oA' cA' ocA' → TabF 37 47 4 q37 oB' cB' ocB' → (TabF 30 32 4 q30 oA cA ocA → oA' = oA ∧ cA' = cA ∧ ocA' = ocA) → (TabF 37 47 4 q37 oB cB ocB → oB' = oB ∧ cB' = cB ∧ ocB' = ocB) → cA' ≠ 37 → cB' ≠ 30 → (cA' = cA ∨ ∀ p ∈ news, p.1 < cA') → (cB' = cB ∨ ∀ p ∈ news, p.1 < cB') → AllLt q (g oA' cA' ocA' oB' cB' ocB') → Fr h₀ L h' m → News h₀ L h' ((q, tup2 (a / b) tx (a % b) ty) :: g oA' cA' ocA' oB' cB' ocB') → Q (.ref q) { s with heap := h', toks := tk' })) :
      wpAny (model Challenge.rw_rs0150_01.row.prog w) (ktrTop dp un gd cn cs L fa ccd cl outer) (call (.ref 56) [.int a t1, .int b t2]) Q E s := by
  by_cases h0 : 0 ≤ a
  · exact idm_pos B F X N T hk U hTA hTB hcA hcB h0 hb hb2 ha (by omega) (by omega) hret
  have h1 : 0 ≤ -a - 1 := by omega
  refine wpAny_call ?_
  k_dflt (refine' code_def ?k1 ?k2 ?k3 ?k4 ?k5 ?kA ?kF ?kK ?k6 ?k7 ?k8 ?k9 ?kB ?_ ?c2 ?c3 ?c4 ?c5; (case kA => exact rfl); (case kF => exact rfl); (case kK => assumption); (case k1 => k_asm); (case k2 => k_asm); (case k3 => k_asm); (case k4 => k_asm); (case k5 => k_asm); (case k6 => k_is); (case k7 => k_is); (case k8 => ktr_room); (case k9 => exact BindsTo.of_eq rfl); (case c5 => decide); (case kB => exact locs rfl); (case c2 => exact rfl); (case c3 => exact rfl); (case c4 => exact rfl); k_whole; intro g' L' h' FG' F' N' B' X' T'; (try dsimp only); (try k_lift B'); (try k_fold))
  refine gen_toks fun tk0 => ?_
  k_steps
  all_goals (try (exfalso; omega))
  k_dflt (refine' idm_pos ?k1 ?k2 ?k3 ?k4 ?k5 ?kK ?U ?hTA ?hTB ?hcA ?hcB ?a1 ?a2 ?a3 ?a4 ?hd ?hu ?_; (case k1 => k_asm); (case k2 => k_asm); (case k3 => k_asm); (case k4 => k_asm); (case k5 => k_asm); (case kK => exact rfl); (case U => assumption); (case hTA => assumption); (case hTB => assumption); (case hcA => assumption); (case hcB => assumption); (case a1 => assumption); (case a2 => assumption); (case a3 => assumption); (case a4 => assumption); (case hd => ktr_room); (case hu => ktr_units)); intro q9 tx9 ty9 oA9 cA9 ocA9 oB9 cB9 ocB9 h9 tk9 hA9 hB9 sA9 sB9 hcA9 hcB9 fA9 fB9 lq9 F9 N9; (try dsimp only)
  k_steps
  exact idm_fin hret (by assumption) (by assumption) (by assumption) (by assumption) (by assumption) (by assumption) (by assumption) (by assumption) (by assumption) (by assumption) (by assumption) (neg_step hb).1 (neg_step hb).2


theorem idm_neg {w : World} {a b : Int} {t1 t2 : Tok} {news : List (Addr × Obj)} {oA ocA oB ocB : Obj} {cA cB : Addr} {g : Obj → Addr → Obj → Obj → Addr → Obj → List (Addr × Obj)}
    {p : Program} {loose : List Str} {mean : ExcName → Option Value} {mg mb : Str → Option Value} {dp un : Nat} {gd : Option (List Code)} {cn : Str} {cs : Scope} {fa : Addr} {ccd : Value} {cl : List (Str × Addr)} {outer : List Env} {A₀ : Around} {base h₀ : Heap} {L : Addr} {m : Str → Option Value} {s : Shared} {Q E : Value → Shared → Prop}
    (B : Below A₀ base outer h₀) (F : Fr h₀ L s.heap m) (X : (hd.heap_39 w.params).In h₀) (N : News h₀ L s.heap news) (T : Top p loose mean mg mb h₀) (hk : cs.kind = .function)
    (U : Tb2 oA cA ocA oB cB ocB news g) (hTA : TabP 30 32 4 q30 oA cA ocA) (hTB : TabP 37 47 4 q37 oB cB ocB) (hcA : cA ≠ 37) (hcB : cB ≠ 30) (hb : b < 0) (hb2 : -b < 2 ^ 200) (ha : -a < 2 ^ (2 * Builtin.Int.intBits (-b))) (ha2 : - -a - 1 < 2 ^ (2 * Builtin.Int.intBits (-b))) (hdp : dp + 406 < recursionLimit) (hun : un + 4060 < cLine)
    (hret : (∀ (q : Addr) (tx ty : Tok) (oA' : Obj) (cA' : Addr) (ocA' : Obj) (oB' : Obj) (cB' : Addr) (ocB' : Obj) (h' : Heap) (tk' : Nat), TabF 30 32 4 q30 oA' cA' ocA' → TabF 37 47 4 q37 oB' cB' ocB' → (TabF 30 32 4 q30 oA cA ocA → oA' = oA ∧ cA' = cA ∧ ocA' = ocA) → (TabF 37 47 4 q37 oB cB ocB → oB' = oB ∧ cB' = cB ∧ ocB' = ocB) → cA' ≠ 37 → cB' ≠ 30 → (cA' = cA ∨ ∀ p ∈ news, p.1 < cA') → (cB' = cB ∨ ∀ p ∈ news, p.1 < cB') → AllLt q (g oA' cA' ocA' oB' cB' ocB') → Fr h₀ L h' m → News h₀ L h' ((q, tup2 (-a / -b) tx (-(-a % -b)) ty) :: g oA' cA' ocA' oB' cB' ocB') → Q (.ref q) { s with heap := h', toks := tk' })) :
      wpAny (model Challenge.rw_rs0150_01.row.prog w) (ktrTop dp un gd cn cs L fa ccd cl outer) (call (.ref 56) [.int a t1, .int b t2]) Q E s := by
  have h1 : 0 < -b := by omega
  refine wpAny_call ?_
  k_dflt (refine' code_def ?k1 ?k2 ?k3 ?k4 ?k5 ?kA ?kF ?kK ?k6 ?k7 ?k8 ?k9 ?kB ?_ ?c2 ?c3 ?c4 ?c5; (case kA => exact rfl); (case kF => exact rfl); (case kK => assumption); (case k1 => k_asm); (case k2 => k_asm); (case k3 => k_asm); (case k4 => k_asm); (case k5 => k_asm); (case k6 => k_is); (case k7 => k_is); (case k8 => ktr_room); (case k9 => exact BindsTo.of_eq rfl); (case c5 => decide); (case kB => exact locs rfl); (case c2 => exact rfl); (case c3 => exact rfl); (case c4 => exact rfl); k_whole; intro g' L' h' FG' F' N' B' X' T'; (try dsimp only); (try k_lift B'); (try k_fold))
  refine gen_toks fun tk0 => ?_
  k_steps
  all_goals (try (exfalso; omega))
  k_dflt (refine' idm_any ?k1 ?k2 ?k3 ?k4 ?k5 ?kK ?U ?hTA ?hTB ?hcA ?hcB ?a2 ?a3 ?a4 ?a5 ?hd ?hu ?_; (case k1 => k_asm); (case k2 => k_asm); (case k3 => k_asm); (case k4 => k_asm); (case k5 => k_asm); (case kK => exact rfl); (case U => assumption); (case hTA => assumption); (case hTB => assumption); (case hcA => assumption); (case hcB => assumption); (case a2 => assumption); (case a3 => assumption); (case a4 => assumption); (case a5 => assumption); (case hd => ktr_room); (case hu => ktr_units)); intro q9 tx9 ty9 oA9 cA9 ocA9 oB9 cB9 ocB9 h9 tk9 hA9 hB9 sA9 sB9 hcA9 hcB9 fA9 fB9 lq9 F9 N9; (try dsimp only)
  k_steps
  exact idm_fin hret (by assumption) (by assumption) (by assumption) (by assumption) (by assumption) (by assumption) (by assumption) (by assumption) (by assumption) (by assumption) (by assumption) rfl rfl
end Mine
end PartIdm

section PartGen0
open PySem PySem.Spec PySem.Calls PySem.W PySem.W.X PyProof.Rows
set_option Elab.async false
set_option maxRecDepth 100000
set_option maxHeartbeats 8000000
namespace Mine
section
variable {prog : Program} {w : World} {A : Around} {c : Code} {fs : List Frame} {P : End → Shared → Prop} {s : Shared} {env : Env} {K : Flow → Sem Fin} {H : Value → Sem Fin} {gd : Bool → Bool} {lv : List Value → List Value}

theorem sx_wrap {α : Type} {m : Sem α} {K : α → Sem Fin} {H : Value → Sem Fin} (h : wpAny (model prog w) (A.over c fs) m (fun a s' => SegX (model prog w) A c (K a) fs s' P) (fun _ _ => False) s) :
    SegX (model prog w) A c (m.wrap K H gd lv) fs s P := by
  rintro Γ p rfl hΓ
  obtain ⟨e, s', hr, hq⟩ := runs_wrap_of_wp (Φ := fun e s' => e.quiet = true ∧ P e s') K H gd lv m (h (Γ.over fs) p (hΓ.over fs)) (fun a p' s' h' => h' Γ p' rfl hΓ) (fun x p' s' h' => h'.elim)
  exact ⟨e, s', hr, hq⟩
theorem sx_at {q : Pos} {k : Unit → Sem Fin} (h : SegX (model prog w) A c (k ()) fs s P) : SegX (model prog w) A c (.at q k) fs s P := s_skim prog w A c fs P s _ 1 h
theorem sx_point {l : List Value} {k : Unit → Sem Fin} (h : SegX (model prog w) A c (k ()) fs s P) : SegX (model prog w) A c (.point l k) fs s P := s_skim prog w A c fs P s _ 1 h
theorem sx_nil (h : SegX (model prog w) A c (K .next) fs s P) : SegX (model prog w) A c ((execs [] env).wrap K H gd lv) fs s P := h
theorem sx_cons {st : Stmt} {rest : List Stmt} (h : SegX (model prog w) A c ((exec st env).wrap (fun f => match f with | .next => (execs rest env).wrap K H gd lv | f => K f) H gd lv) fs s P) :
    SegX (model prog w) A c ((execs (st :: rest) env).wrap K H gd lv) fs s P := by rw [execs_cons_wrap]; exact h
theorem sx_If {test : Expr} {body orelse : List Stmt} {pos : Pos}
    (h : wpAny (model prog w) (A.over c fs) (isTrue test env (eval test env)) (fun b s' => if b = true then SegX (model prog w) A c ((execs body env).wrap K H gd lv) fs s' P else SegX (model prog w) A c ((execs orelse env).wrap K H gd lv) fs s' P) (fun _ _ => False) s) :
    SegX (model prog w) A c ((exec (.If test body orelse pos) env).wrap K H gd lv) fs s P := by
  rw [exec_If]
  show SegX _ A c (.at pos fun _ => (isTrue test env (eval test env) >>= fun b => if b = true then execs body env else execs orelse env).wrap K H gd lv) fs s P
  refine sx_at ?_
  rw [Sem.bind_eq_wrap', Sem.wrap_wrap]
  refine sx_wrap (wpAny_mono h (fun b s' hb => ?_) fun _ _ x => x)
  cases b with
  | true => exact hb
  | false => exact hb
/-- a yield as a statement of its own: what is kept goes on behind it, whoever wakes it -/
theorem sx_yield {e : Expr} {ypos pos : Pos} (hfs : splitAtGen fs = none) (hgd : gd false = false) (hfg : fs.any Frame.guarded = false)
    (h : wpAny (model prog w) (A.over c fs) (eval e env) (fun v s' => ∀ (l : List Value) (k : Resume → Sem Fin) (p : Pos), (∀ A' s'' P', SegX (model prog w) A' c (K .next) fs s'' P' → SegX (model prog w) A' c (k (.send .none)) fs s'' P') → P (.susp v false l k c p fs) s') (fun _ _ => False) s)
    (hco : env.scope.isCoroutine = false := by rfl) (hi : interactive env = false := by rfl) :
    SegX (model prog w) A c ((exec (.Expr (.Yield (some e) ypos) pos) env).wrap K H gd lv) fs s P := by
  rw [exec_Expr env _ pos hi rfl]
  show SegX _ A c (.at pos fun _ => ((eval e env >>= fun v => (standAt ypos >>= fun _ => yieldOut env v)) >>= fun x => dropValue (.Yield (some e) ypos) pos x).wrap K H gd lv) fs s P
  have hy : ∀ v, yieldOut env v = yieldValue v := fun v => by simp only [yieldOut, hco, Bool.false_eq_true, if_false]
  simp only [hy]
  refine sx_at ?_
  rw [Sem.bind_eq_wrap', Sem.bind_eq_wrap', Sem.wrap_wrap, Sem.wrap_wrap]
  refine sx_wrap (wpAny_mono h (fun v s' h' => ?_) fun _ _ x => x)
  refine sx_at ?_
  show SegX _ A c (.yield v (gd false) _ _) fs s' P
  rw [hgd]
  exact s_yield prog w A c fs P s' v _ _ hfs hfg fun p => h' _ _ p fun A' s'' P' x => x
theorem sx_While {test : Expr} {body orelse : List Stmt} {pos : Pos}
    (h : ∀ p, SegX (model prog w) A (.whileLoop test body orelse env) (denote table (.whileLoop test body orelse env))
      (.ret (fun r => ((match r with | .ok f => (.pure f : Sem Flow) | .error e => .raise e).onRaise fun (x : Value) => do
        if (← field x 1) == Value.none then unsupported "frame.own-activation:exception-without-traceback"
        setFlight x env.frame).wrap K H gd lv) none (gd false) (lv []) c p [] :: fs) s P) :
    SegX (model prog w) A c ((exec (.While test body orelse pos) env).wrap K H gd lv) fs s P :=
  sx_at (s_call prog w A c fs P s _ _ _ _ _ h)
theorem sx_whileLoop {test : Expr} {body orelse : List Stmt}
    (h : wpAny (model prog w) (A.over (.whileLoop test body orelse env) fs) (isTrue test env (eval test env)) (fun b s' => b = true ∧
          SegX (model prog w) A (.whileLoop test body orelse env) ((execs body env).wrap (fun f => match f with
            | .next | .cont => .pure (.again (.whileLoop test body orelse env))
            | .brk => .pure (.done .next)
            | .ret v => .pure (.done (.ret v))) (fun e => (do noteFrame e env; theTreesLotGoes e : Sem Unit).wrap (fun _ => .raise e) .raise id id) id id) fs s' P) (fun _ _ => False) s) :
    SegX (model prog w) A (.whileLoop test body orelse env) (denote table (.whileLoop test body orelse env)) fs s P := by
  show SegX _ A _ ((whileTurn test body orelse env).onRaise (fun x => do noteFrame x env; theTreesLotGoes x)) fs s P
  unfold whileTurn
  rw [Sem.onRaise_eq_wrap, Sem.bind_eq_wrap', Sem.wrap_wrap]
  refine sx_wrap (wpAny_mono h (fun b s' hb => ?_) fun x s' hx => hx)
  obtain ⟨rfl, hb⟩ := hb
  show SegX _ A _ (Sem.wrap _ _ _ _ (if true = true then _ else _)) fs s' P
  rw [if_pos rfl, Sem.bind_eq_wrap', Sem.wrap_wrap]
  rw [Sem.wrap_congr (execs body env) _ _ (K' := fun f => match f with
        | .next | .cont => .pure (.again (.whileLoop test body orelse env))
        | .brk => .pure (.done .next)
        | .ret v => .pure (.done (.ret v))) (H' := (fun e => (do noteFrame e env; theTreesLotGoes e : Sem Unit).wrap (fun _ => .raise e) .raise id id))
    (fun f => by cases f <;> rfl)
    (fun e => by first | exact Sem.bind_eq_wrap _ _ | (show (do noteFrame e env; theTreesLotGoes e : Sem Unit).bind (fun _ => .raise e) = _; rw [Sem.bind_eq_wrap]))]
  exact hb
theorem sx_func {body : List Stmt}
    (h : SegX (model prog w) A (.func body env) ((execs body env).wrap (fun f => .pure (.done (.ret (match f with | .ret v => v | _ => .none))))
      (fun e => (leaving env e).wrap (fun _ => .raise e) .raise id id) id id) fs s P) :
    SegX (model prog w) A (.func body env) (denote table (.func body env)) fs s P := by
  show SegX _ A _ (.point [] fun _ => ((execs body env).onRaise (leaving env)) >>= _) fs s P
  refine sx_point ?_
  rw [Sem.onRaise_eq_wrap, Sem.bind_eq_wrap', Sem.wrap_wrap]
  rw [Sem.wrap_congr (execs body env) _ _ (K' := fun f => .pure (.done (.ret (match f with | .ret v => v | _ => .none))))
    (H' := fun e => (leaving env e).wrap (fun _ => .raise e) .raise id id) (fun f => by cases f <;> rfl)
    (fun e => by rw [Sem.bind_eq_wrap, Sem.wrap_wrap]; rfl)]
  exact h
theorem sx_For {target iter : Expr} {body orelse : List Stmt} {pos : Pos}
    (h : wpAny (model prog w) (A.over c fs) (eval iter env) (fun x s₁ => foldedSetIterable iter env x = pure x ∧ wpAny (model prog w) (A.over c fs) (pyIter x) (fun it s₂ =>
      ∀ p, SegX (model prog w) A (.forLoop target it body orelse env) (denote table (.forLoop target it body orelse env))
      (.ret (fun r => ((match r with | .ok f => (.pure f : Sem Flow) | .error e => .raise e).onRaise fun (x : Value) => do
        if (← field x 1) == Value.none then unsupported "frame.own-activation:exception-without-traceback"
        setFlight x env.frame).wrap K H gd lv) none (gd false) (lv []) c p [] :: fs) s₂ P) (fun _ _ => False) s₁) (fun _ _ => False) s) :
    SegX (model prog w) A c ((exec (.For target iter body orelse pos) env).wrap K H gd lv) fs s P := by
  rw [exec_For]
  refine sx_at ?_
  show SegX _ A c ((eval iter env >>= _).wrap K H gd lv) fs s P
  rw [Sem.bind_eq_wrap', Sem.wrap_wrap]
  refine sx_wrap (wpAny_mono h (fun x s₁ h₁ => ?_) fun _ _ y => y)
  obtain ⟨hf, h₁⟩ := h₁
  rw [hf]
  refine sx_at ?_
  show SegX _ A c ((holding [x] (pyIter x) >>= _).wrap K H gd lv) fs s₁ P
  rw [Sem.bind_eq_wrap', Sem.wrap_wrap]
  refine sx_wrap (wpAny_holding (wpAny_mono h₁ (fun it s₂ h₂ => ?_) fun _ _ y => y))
  exact s_call prog w A c fs P s₂ _ _ _ _ _ h₂
theorem sx_forLoop {target : Expr} {it : Value} {body orelse : List Stmt} (hlet : ∀ v, letOwnedTupleGo target it v = pure ())
    (h : wpAny (model prog w) (A.over (.forLoop target it body orelse env) fs) (pyNext it) (fun o s₁ => match o with
      | none => SegX (model prog w) A (.block orelse env) (denote table (.block orelse env)) fs s₁ P
      | some v => wpAny (model prog w) (A.over (.forLoop target it body orelse env) fs) (assign target env v) (fun _ s₂ =>
          SegX (model prog w) A (.forLoop target it body orelse env) ((execs body env).wrap (fun f => match f with
            | .next | .cont => .pure (.again (.forLoop target it body orelse env))
            | .brk => .pure (.done .next)
            | .ret v => .pure (.done (.ret v))) (fun e => (do noteFrame e env; theTreesLotGoes e : Sem Unit).wrap (fun _ => .raise e) .raise id id) id id) fs s₂ P) (fun _ _ => False) s₁) (fun _ _ => False) s) :
    SegX (model prog w) A (.forLoop target it body orelse env) (denote table (.forLoop target it body orelse env)) fs s P := by
  show SegX _ A _ ((forTurn target it body orelse env).onRaise (fun x => do noteFrame x env; theTreesLotGoes x)) fs s P
  unfold forTurn
  rw [Sem.onRaise_eq_wrap]
  refine sx_at ?_
  show SegX _ A _ (((pyNext it).onRaise (fun _ => standAt { target.pos with line := 0 }) >>= _).wrap _ _ _ _) fs s P
  rw [Sem.bind_eq_wrap', Sem.wrap_wrap]
  refine sx_wrap (wpAny_onRaise (wpAny_mono h (fun o s₁ h₁ => ?_) fun _ _ x => x.elim))
  cases o with
  | none => exact s_again prog w A _ fs P s₁ _ rfl h₁
  | some v =>
    dsimp only at h₁ ⊢
    rw [hlet v]
    show SegX _ A _ ((assign target env v >>= _).wrap _ _ _ _) fs s₁ P
    rw [Sem.bind_eq_wrap', Sem.wrap_wrap]
    refine sx_wrap (wpAny_mono h₁ (fun _ s₂ h₂ => ?_) fun _ _ x => x)
    rw [Sem.bind_eq_wrap', Sem.wrap_wrap]
    rw [Sem.wrap_congr (execs body env) _ _ (K' := fun f => match f with
          | .next | .cont => .pure (.again (.forLoop target it body orelse env))
          | .brk => .pure (.done .next)
          | .ret v => .pure (.done (.ret v))) (H' := (fun e => (do noteFrame e env; theTreesLotGoes e : Sem Unit).wrap (fun _ => .raise e) .raise id id))
      (fun f => by cases f <;> rfl)
      (fun e => by first | exact Sem.bind_eq_wrap _ _ | (show (do noteFrame e env; theTreesLotGoes e : Sem Unit).bind (fun _ => .raise e) = _; rw [Sem.bind_eq_wrap]))]
    exact h₂
theorem sx_block_nil (h : SegX (model prog w) A (.block [] env) (.pure (.done .next)) fs s P) : SegX (model prog w) A (.block [] env) (denote table (.block [] env)) fs s P := h
end
end Mine
end PartGen0

section PartGen1
open PySem PySem.Spec PySem.Calls PySem.W PySem.W.X PyProof.Rows
set_option Elab.async false
set_option maxRecDepth 100000
set_option maxHeartbeats 8000000
namespace Mine
noncomputable def Wk (prog : Program) (w : World) (A : Around) (gs : GenState) (s : Shared) (P : End → Shared → Prop) : Prop := match gs with
  | .fresh c => SegX (model prog w) A c (denote table c) [] s P
  | .suspended k _ c _ fs _ => SegX (model prog w) A c (k (.send .none)) fs s P
  | _ => False
noncomputable def GPost (g : Nat) (Q : Option Value → Shared → Prop) (e : End) (s₁ : Shared) : Prop := match e with
  | .ret r => r = .ok (.ret .none) ∧ ∀ h', (∀ b o, s₁.heap.get? b = some o → h'.get? b = some o) → Q none { s₁.setGen g .finished with heap := h' }
  | .susp v gd l k c p fs => Q (some v) (s₁.setGen g (End.susp v gd l k c p fs).genState)
theorem pyNext_genX {prog : Program} {w : World} {A : Around} {E : Value → Shared → Prop} {s : Shared} {a : Addr} {g : Nat} {gs : GenState} {Q : Option Value → Shared → Prop} (hh : A.handled = none)
    (hl : s.heap.NoLimit) (hroom : A.depth < recursionLimit) (hg : s.heap.IsGen a g) (hgs : s.gens[g]? = some gs)
    (x : Wk prog w A.in1 gs (s.setGen g .running) (GPost g Q)) :
    wpAny (model prog w) A (pyNext (.ref a)) Q E s := by
  unfold pyNext
  refine wpAny_bind (wpAny_attempt (wpAny_callSpecial?_slot (name := Str.ofString "__next__") hg.typeIs slot_gen_next
    (wpAny_call_entry slot_gen_next hg.typeIs entry_gen_next ?_ (args_gen_next _))))
  show wpAny _ _ (Builtin.Generator.genWake (.ref a) (.send .none)) _ _ s
  unfold Builtin.Generator.genWake
  refine wpAny_bind (wpAny_holding (wpAny_genNumber hg (wpAny_bind (wpAny_genState hgs ?_))))
  have fin : ∀ {R : Fin → Shared → Prop} {E' : Value → Shared → Prop} (e : End) (s₁ : Shared), True := fun _ _ => trivial
  cases gs with
  | running => exact x.elim
  | finished => exact x.elim
  | fresh c =>
    refine wpAny_bind (wpAny_roomToWake hl hroom ?_)
    show wpAny _ _ (.resume g (.send .none) [] _) _ _ s
    refine wake_any _ prog w hgs (.inl ⟨rfl, rfl, rfl, rfl⟩) (fun Γ => Γ.In _) (fun _ h => h) (SegX.mono x fun e s₁ h₁ Γ p hΓ => ?_)
    revert Γ p
    show wpAny _ _ _ _ _ _
    cases e with
    | susp v gd l k c p fs => exact wpAny_pure ⟨v, rfl, wpAny_pure h₁⟩
    | ret r =>
      obtain ⟨rfl, hp⟩ := h₁
      show wpAny _ _ (newExc (.type "StopIteration") [] >>= _) _ _ _
      refine wpAny_bind ?_
      simp only [newExc, newTuple]
      refine wpAny_bind (wpAny_newObj_type ?_ (by size_fits))
      refine wpAny_bind (m := firstArgMember _ _) (wpAny_of_eq (a := Value.none) (by first | rfl | (simp only [firstArgMember]; rfl)) ?_)
      refine wpAny_newObj_type ?_ (by size_fits)
      simp only [raiseNew]
      refine wpAny_bind (wpAny_bind (wpAny_handled ?_))
      rw [show A.in1.handled = none from hh]
      refine wpAny_throw ?_
      refine wpAny_bind (wpAny_isInstance (T := "StopIteration") (b := true) ⟨_, Heap.get?_push_size _ rfl, rfl⟩ isSubtype_stop ?_)
      exact wpAny_pure (hp _ fun b o hb => Heap.get?_push_of_some _ (Heap.get?_push_of_some _ hb))
  | suspended k₀ l₀ c₀ p₀ fs₀ cl₀ =>
    refine wpAny_bind (wpAny_roomToWake hl hroom ?_)
    show wpAny _ _ (.resume g (.send .none) [] _) _ _ s
    refine wake_any _ prog w hgs (.inr ⟨k₀, l₀, p₀, cl₀, rfl, rfl⟩) (fun Γ => Γ.In _) (fun _ h => h) (SegX.mono x fun e s₁ h₁ Γ p hΓ => ?_)
    revert Γ p
    show wpAny _ _ _ _ _ _
    cases e with
    | susp v gd l k c p fs => exact wpAny_pure ⟨v, rfl, wpAny_pure h₁⟩
    | ret r =>
      obtain ⟨rfl, hp⟩ := h₁
      show wpAny _ _ (newExc (.type "StopIteration") [] >>= _) _ _ _
      refine wpAny_bind ?_
      simp only [newExc, newTuple]
      refine wpAny_bind (wpAny_newObj_type ?_ (by size_fits))
      refine wpAny_bind (m := firstArgMember _ _) (wpAny_of_eq (a := Value.none) (by first | rfl | (simp only [firstArgMember]; rfl)) ?_)
      refine wpAny_newObj_type ?_ (by size_fits)
      simp only [raiseNew]
      refine wpAny_bind (wpAny_bind (wpAny_handled ?_))
      rw [show A.in1.handled = none from hh]
      refine wpAny_throw ?_
      refine wpAny_bind (wpAny_isInstance (T := "StopIteration") (b := true) ⟨_, Heap.get?_push_size _ rfl, rfl⟩ isSubtype_stop ?_)
      exact wpAny_pure (hp _ fun b o hb => Heap.get?_push_of_some _ (Heap.get?_push_of_some _ hb))
end Mine
end PartGen1

section PartGen2
open PySem PySem.Spec PySem.Calls PySem.W PySem.W.X PyProof.Rows
set_option Elab.async false
set_option maxRecDepth 100000
set_option maxHeartbeats 8000000
namespace Mine
/-- the walk's lines are looked up afresh from here on -/
theorem syncGen2 {M : Model} {A : Around} {E : Value → Shared → Prop} {s : Shared} {env : Env} {Q : Flow → Shared → Prop} (h : Q .next s) : wpAny M A (execs [] env) Q E s := by
  w_top off
  first | (walk1; exact h) | exact wpAny_execs_nil h

/-- an object that is a namespace with these names -/
noncomputable def NsO (o : Obj) (m : Str → Option Value) : Prop := ∃ es ep, o.data = .dict es ep ∧ StrKeys es ∧ ∀ name, nsFind es name = m name
theorem NsO.at {o : Obj} {m : Str → Option Value} {h : Heap} {a : Addr} (x : NsO o m) (e : h.get? a = some o) : h.Ns a m := let ⟨es, ep, r⟩ := x; ⟨o, es, ep, e, r⟩
theorem nsO_of {h : Heap} {a : Addr} {m : Str → Option Value} (x : h.Ns a m) : ∃ o, h.get? a = some o ∧ NsO o m := let ⟨o, es, ep, e, r⟩ := x; ⟨o, e, es, ep, r⟩

noncomputable abbrev lawProg : Program := Challenge.rw_rs0150_01.row.prog
noncomputable abbrev rowO (r0 : Int) (t0 : Tok) (r1 : Int) (t1 : Tok) (r2 : Int) (t2 : Tok) (n : Nat) : Obj := listOf [Value.int r0 t0, Value.int r1 t1, Value.int r2 t2].toArray n
noncomputable abbrev itO (l : Addr) (i : Nat) : Obj := { cls := .type "list_iterator", data := .fields #[.ref l, .int i 0] }

noncomputable def GenOK (w : World) (Lg It Rw : Addr) (oR : Obj) : Nat → (Nat → Option Int) → GenState → Obj → Obj → Prop
  | 0, _, _, _, _ => True
  | k + 1, st, gs, oG, oI => gs.bare = true ∧ ∀ (A : Around) (h₀ : Heap) (news : List (Addr × Obj)) (s : Shared) (P : End → Shared → Prop) (p : Program) (loose : List Str) (mean : ExcName → Option Value) (mg mb : Str → Option Value),
      A.handled = none → (hd.heap_39 w.params).In h₀ → Top p loose mean mg mb h₀ → h₀.objs.size ≤ Lg → (∀ b o, h₀.get? b = some o → s.heap.get? b = some o) → s.heap.get? Lg = some oG → News h₀ Lg s.heap ((It, oI) :: (Rw, oR) :: news) → (∀ q ∈ (Rw, oR) :: news, q.1 ≠ It) →
      (match st 0 with
        | some v => ∀ (e : End) (t : Tok) (h' : Heap) (tk' : Nat) (oG' oI' : Obj), e.result = .yielded (.int v t) → GenOK w Lg It Rw oR k (fun n => st (n + 1)) e.genState oG' oI' → (∀ b o, h₀.get? b = some o → h'.get? b = some o) → h'.get? Lg = some oG' → News h₀ Lg h' ((It, oI') :: (Rw, oR) :: news) → P e { s with heap := h', toks := tk' }
        | none => ∀ (h' : Heap) (tk' : Nat) (oG' : Obj), (∀ b o, h₀.get? b = some o → h'.get? b = some o) → h'.get? Lg = some oG' → News h₀ Lg h' ((Rw, oR) :: news) → P (.ret (.ok (.ret .none))) { s with heap := h', toks := tk' }) →
      Wk lawProg w A gs s P

noncomputable def stream (r0 r1 r2 : Int) : Nat → Option Int
  | 0 => some r0
  | 1 => if r1 = 127 then none else if r1 = 0 then some r0 else some r1
  | n + 2 => if r1 = 127 then none else if r1 = 0 then some r0 else if r2 = 127 then none else if r2 = 0 then some r1 else if n = 0 then some r2 else none

theorem itO_is {h : Heap} {It l : Addr} {i : Nat} (e : h.get? It = some (itO l i)) : h.IsListIter It l i := ⟨_, e, rfl, rfl⟩
section
variable {h₀ h h' : Heap} {L It : Addr} {m : Str → Option Value} {rest : List (Addr × Obj)} {o o' : Obj}
theorem turn_it (F : Fr h₀ L h m) (N : News h₀ L h ((It, o) :: rest)) (hne : ∀ q ∈ rest, q.1 ≠ It) (hs : Heap.SameBut It h h') (e : h'.get? It = some o') : Fr h₀ L h' m ∧ News h₀ L h' ((It, o') :: rest) := by
  have z := N (It, o) (.head _)
  refine ⟨F.change hs z.2.1 z.2.2, fun p hp => ?_⟩
  rcases List.mem_cons.mp hp with rfl | hp
  · exact ⟨e, z.2⟩
  · have y := N p (.tail _ hp)
    exact ⟨(hs.2 p.1 (hne p hp)).trans y.1, y.2⟩
theorem ext_it (F : Fr h₀ L h m) (N : News h₀ L h ((It, o) :: rest)) (hne : ∀ q ∈ rest, q.1 ≠ It) (hs : Heap.ExtBut It h h') : Fr h₀ L h' m ∧ News h₀ L h' rest := by
  have z := N (It, o) (.head _)
  refine ⟨⟨F.ns.extBut hs z.2.1.symm, fun b ob eb => hs b ob (fun q => ?_) (F.keep b ob eb), F.above⟩, fun p hp => ?_⟩
  · rw [q, z.2.2] at eb; cases eb
  · have y := N p (.tail _ hp)
    exact ⟨hs p.1 p.2 (hne p hp) y.1, y.2⟩
end


section
variable {w : World} {Lg It Rw : Addr} {name qual : Str} {params : Arguments} {scope : Scope} {dV kV doc pm cdv ct oc : Value} {an od : Option Addr} {osl : Array (Option Value)}
  {st0 if1 if3 yst ast : Stmt} {target iter t2 test : PySem.Expr} {wbody worelse e2 orelse : List Stmt} {wpos p2 fpos : Pos}

/-- the closed loop gives the same number again and again -/
theorem fr_say {h₀ h : Heap} {L : Addr} {m : Str → Option Value} {a b : Str} {x : Option Value} {z : Value} (F : Fr h₀ L h (fun y => if y = a then x else m y)) (hb : m b = some z) : Fr h₀ L h (fun y => if y = a then x else if y = b then some z else m y) := by
  have e : (fun y => if y = a then x else if y = b then some z else m y) = fun y => if y = a then x else m y := by
    funext y
    by_cases h1 : y = a
    · simp [h1]
    · by_cases h2 : y = b
      · subst h2; simp [h1, hb]
      · simp [h1, h2]
  rw [e]; exact F
theorem gen_while {oR : Obj}
    (ho : (hd.heap_39 w.params).lookup 97 = some ⟨oc, od, .func (fnOf name qual params [st0, .For target iter [if1, .If t2 [if3, .While test wbody worelse wpos] e2 p2, yst, ast] orelse fpos] scope dV kV doc pm an cdv ct), osl⟩)
    {v : Int} {tv : Tok} {fs : List Frame} (hfs : splitAtGen fs = none) (hfg : fs.any Frame.guarded = false) {m : Str → Option Value} (hm : m (Str.ofString "last_interval") = some (.int v tv)) {oG : Obj} (hoG : NsO oG m) (oI : Obj) :
    ∀ (k : Nat) (l : List Value) (kk : Resume → Sem Fin) (p₀ : Pos), (∀ A' s'' P', SegX (model lawProg w) A' (.whileLoop test wbody worelse (envOf qual scope Lg 97 cdv)) (.pure (.again (.whileLoop test wbody worelse (envOf qual scope Lg 97 cdv)))) fs s'' P' → SegX (model lawProg w) A' (.whileLoop test wbody worelse (envOf qual scope Lg 97 cdv)) (kk (.send .none)) fs s'' P') →
      GenOK w Lg It Rw oR k (fun _ => some v) (.suspended kk l (.whileLoop test wbody worelse (envOf qual scope Lg 97 cdv)) p₀ fs false) oG oI := by
  apply gen_open ho (show (hd.heap_39 w.params).lookup 97 = some _ by k_is) gen_inj
  clear ho
  intro k
  induction k with
  | zero => intros; trivial
  | succ k ih =>
    intro l kk p₀ hk
    refine ⟨rfl, ?_⟩
    intro A h₀ news s P p loose mean mg mb hh X T ha hkeep hG N hne hP
    have F : Fr h₀ Lg s.heap m := ⟨hoG.at hG, hkeep, ha⟩
    show SegX _ _ _ _ _ _ _
    refine hk _ _ _ (s_again lawProg w A _ fs P s _ rfl (sx_whileLoop ?_))
    k_steps
    refine sx_cons (sx_yield hfs rfl hfg ?_)
    refine ld F hm ?_
    intro l' k' p' hk'
    exact hP (.susp (.int v tv) false l' k' _ p' fs) tv s.heap s.toks oG oI rfl (by show GenOK _ _ _ _ _ _ _ (.suspended k' l' _ p' fs (false || fs.any Frame.guarded)) _ _; rw [hfg]; exact ih l' k' p' hk') hkeep hG N

noncomputable def TurnOK (w : World) (cF : Code) (fs : List Frame) (Lg It Rw : Addr) (oR : Obj) (i : Nat) (lastv : Value) (st : Nat → Option Int) (k : Nat) : Prop :=
  ∀ (A : Around) (h₀ : Heap) (news : List (Addr × Obj)) (s : Shared) (P : End → Shared → Prop) (p : Program) (loose : List Str) (mean : ExcName → Option Value) (mg mb : Str → Option Value) (m : Str → Option Value) (oI₀ : Obj), oI₀.cls = .type "list_iterator" → oI₀.data = .fields #[.ref Rw, .int i 0] →
      A.handled = none → (hd.heap_39 w.params).In h₀ → Top p loose mean mg mb h₀ → Fr h₀ Lg s.heap m → m (Str.ofString "last_interval") = some lastv → News h₀ Lg s.heap ((It, oI₀) :: (Rw, oR) :: news) → (∀ q ∈ (Rw, oR) :: news, q.1 ≠ It) →
      (match st 0 with
        | some v => ∀ (e : End) (t : Tok) (h' : Heap) (tk' : Nat) (oG' oI' : Obj), e.result = .yielded (.int v t) → GenOK w Lg It Rw oR k (fun n => st (n + 1)) e.genState oG' oI' → (∀ b o, h₀.get? b = some o → h'.get? b = some o) → h'.get? Lg = some oG' → News h₀ Lg h' ((It, oI') :: (Rw, oR) :: news) → P e { s with heap := h', toks := tk' }
        | none => ∀ (h' : Heap) (tk' : Nat) (oG' : Obj), (∀ b o, h₀.get? b = some o → h'.get? b = some o) → h'.get? Lg = some oG' → News h₀ Lg h' ((Rw, oR) :: news) → P (.ret (.ok (.ret .none))) { s with heap := h', toks := tk' }) →
      SegX (model lawProg w) A cF (denote table cF) fs s P
/-- the frame below the loop: whatever flow comes, the generator ends -/
noncomputable def EndsBelow (w : World) (kf : Result → Sem Fin) (c0 : Code) : Prop := ∀ A s P f, (f = .next ∨ f = .ret .none) → P (.ret (.ok (.ret .none))) s → SegX (model lawProg w) A c0 (kf (.ok f)) [] s P

variable {r0 r1 r2 : Int} {t0 t1 t2' : Tok} {nR : Nat} {kf : Result → Sem Fin} {c0 : Code} {p0 : Pos} {lvv : List Value}
theorem turn_end
    (ho : (hd.heap_39 w.params).lookup 97 = some ⟨oc, od, .func (fnOf name qual params [st0, .For target iter [if1, .If t2 [if3, .While test wbody worelse wpos] e2 p2, yst, ast] orelse fpos] scope dV kV doc pm an cdv ct), osl⟩)
    (hE : EndsBelow w kf c0) {lastv : Value} {st : Nat → Option Int} (hst : st 0 = none) (k : Nat) :
    TurnOK w (.forLoop target (.ref It) [if1, .If t2 [if3, .While test wbody worelse wpos] e2 p2, yst, ast] orelse (envOf qual scope Lg 97 cdv)) [.ret kf none false lvv c0 p0 []] Lg It Rw (rowO r0 t0 r1 t1 r2 t2' nR) 3 lastv st k := by
  apply gen_open ho (show (hd.heap_39 w.params).lookup 97 = some _ by k_is) gen_inj
  clear ho
  intro A h₀ news s P p loose mean mg mb m oI₀ hc₀ hd₀ hh X T F hm N hne hP
  rw [hst] at hP
  refine sx_forLoop (fun _ => rfl) ?_
  have hl : s.heap.IsList Rw [Value.int r0 t0, Value.int r1 t1, Value.int r2 t2'].toArray := News.isList N (.tail _ (.head _))
  refine wpAny_pyNext_list_end (by show (marksOver _ (A.handled, A.handled)).1 = none; rw [hh]; rfl) ⟨oI₀, N.get (.head _), hc₀, hd₀⟩ hl rfl fun h' hx => ?_
  obtain ⟨F', N'⟩ := ext_it F N hne hx
  refine sx_block_nil (s_pop lawProg w A _ [] P _ (.ok .next) _ rfl kf none false lvv c0 p0 [] (hE _ _ _ _ (.inl rfl) ?_))
  obtain ⟨oG, hG, _⟩ := nsO_of F'.ns
  exact hP h' s.toks oG F'.keep hG N'
theorem turn_stop
    (ho : (hd.heap_39 w.params).lookup 97 = some ⟨oc, od, .func (fnOf name qual params [st0, .For target iter [if1, .If t2 [if3, .While test wbody worelse wpos] e2 p2, yst, ast] orelse fpos] scope dV kV doc pm an cdv ct), osl⟩)
    (hE : EndsBelow w kf c0) {i : Nat} {lastv : Value} {st : Nat → Option Int} {tx : Tok} (hx : [Value.int r0 t0, Value.int r1 t1, Value.int r2 t2'][i]? = some (.int 127 tx)) (hst : st 0 = none) (k : Nat) :
    TurnOK w (.forLoop target (.ref It) [if1, .If t2 [if3, .While test wbody worelse wpos] e2 p2, yst, ast] orelse (envOf qual scope Lg 97 cdv)) [.ret kf none false lvv c0 p0 []] Lg It Rw (rowO r0 t0 r1 t1 r2 t2' nR) i lastv st k := by
  apply gen_open ho (show (hd.heap_39 w.params).lookup 97 = some _ by k_is) gen_inj
  clear ho
  intro A h₀ news s P p loose mean mg mb m oI₀ hc₀ hd₀ hh X T F hm N hne hP
  rw [hst] at hP
  refine sx_forLoop (fun _ => rfl) ?_
  have hl : s.heap.IsList Rw [Value.int r0 t0, Value.int r1 t1, Value.int r2 t2'].toArray := News.isList N (.tail _ (.head _))
  refine wpAny_pyNext_list_item ⟨oI₀, N.get (.head _), hc₀, hd₀⟩ hl (by simpa using hx) fun h' hi hs => ?_
  obtain ⟨oI, hoI, _⟩ := id hi
  obtain ⟨F1, N1⟩ := turn_it F N hne hs hoI
  clear F N
  dsimp only
  k_steps
  refine sx_cons (sx_If ?_)
  k_steps
  refine sx_cons (sx_wrap ?_)
  k_steps
  rename_i h9 F9 N9
  obtain ⟨oG, hG, _⟩ := nsO_of F9.ns
  refine s_pop lawProg w A _ [] P _ (.ok (.ret .none)) _ rfl kf none false lvv c0 p0 [] (hE _ _ _ _ (.inr rfl) ?_)
  exact hP _ _ oG F9.keep hG (news_drop N9)
theorem turn_zero
    (ho : (hd.heap_39 w.params).lookup 97 = some ⟨oc, od, .func (fnOf name qual params [st0, .For target iter [if1, .If t2 [if3, .While test wbody worelse wpos] e2 p2, yst, ast] orelse fpos] scope dV kV doc pm an cdv ct), osl⟩)
    {i : Nat} {v : Int} {tv : Tok} {st : Nat → Option Int} {tx : Tok} (hx : [Value.int r0 t0, Value.int r1 t1, Value.int r2 t2'][i]? = some (.int 0 tx)) (hst : ∀ n, st n = some v) (k : Nat) :
    TurnOK w (.forLoop target (.ref It) [if1, .If t2 [if3, .While test wbody worelse wpos] e2 p2, yst, ast] orelse (envOf qual scope Lg 97 cdv)) [.ret kf none false lvv c0 p0 []] Lg It Rw (rowO r0 t0 r1 t1 r2 t2' nR) i (.int v tv) st k := by
  apply gen_open ho (show (hd.heap_39 w.params).lookup 97 = some _ by k_is) gen_inj
  clear ho
  intro A h₀ news s P p loose mean mg mb m oI₀ hc₀ hd₀ hh X T F hm N hne hP
  rw [hst] at hP
  refine sx_forLoop (fun _ => rfl) ?_
  have hl : s.heap.IsList Rw [Value.int r0 t0, Value.int r1 t1, Value.int r2 t2'].toArray := News.isList N (.tail _ (.head _))
  refine wpAny_pyNext_list_item ⟨oI₀, N.get (.head _), hc₀, hd₀⟩ hl (by simpa using hx) fun h' hi hs => ?_
  obtain ⟨oI, hoI, _⟩ := id hi
  obtain ⟨F1, N1⟩ := turn_it F N hne hs hoI
  clear F N
  dsimp only
  k_steps
  refine sx_cons (sx_If ?_)
  k_steps
  refine sx_nil ?_
  refine sx_cons (sx_If ?_)
  k_steps
  rename_i h9 F9 N9
  have F10 := fr_say F9 hm
  clear F9
  refine sx_cons (sx_If ?_)
  k_steps
  refine sx_nil ?_
  refine sx_cons (sx_While fun p9 => ?_)
  refine sx_whileLoop ?_
  k_steps
  refine sx_cons (sx_yield rfl rfl rfl ?_)
  refine ld F10 rfl ?_
  intro l' k' p' hk'
  obtain ⟨oG, hG, hnG⟩ := nsO_of F10.ns
  have e1 : (fun n => st (n + 1)) = fun _ => some v := funext fun n => hst (n + 1)
  rw [e1] at hP
  exact hP (.susp (.int v tv) false l' k' _ p' _) tv _ _ oG oI rfl (gen_while (Lg := Lg) (show (hd.heap_39 w.params).lookup 97 = some _ by k_is) rfl rfl rfl hnG oI k l' k' p' hk') F10.keep hG N9

theorem turn_norm
    (ho : (hd.heap_39 w.params).lookup 97 = some ⟨oc, od, .func (fnOf name qual params [st0, .For target iter [if1, .If t2 [if3, .While test wbody worelse wpos] e2 p2, yst, ast] orelse fpos] scope dV kV doc pm an cdv ct), osl⟩)
    {i : Nat} {x : Int} {lastv : Value} {st : Nat → Option Int} {tx : Tok} (hx : [Value.int r0 t0, Value.int r1 t1, Value.int r2 t2'][i]? = some (.int x tx)) (hx0 : x ≠ 0) (hx1 : x ≠ 127) (hst : st 0 = some x)
    (nxt : ∀ k, TurnOK w (.forLoop target (.ref It) [if1, .If t2 [if3, .While test wbody worelse wpos] e2 p2, yst, ast] orelse (envOf qual scope Lg 97 cdv)) [.ret kf none false lvv c0 p0 []] Lg It Rw (rowO r0 t0 r1 t1 r2 t2' nR) (i + 1) (.int x tx) (fun n => st (n + 1)) k) (k : Nat) :
    TurnOK w (.forLoop target (.ref It) [if1, .If t2 [if3, .While test wbody worelse wpos] e2 p2, yst, ast] orelse (envOf qual scope Lg 97 cdv)) [.ret kf none false lvv c0 p0 []] Lg It Rw (rowO r0 t0 r1 t1 r2 t2' nR) i lastv st k := by
  revert nxt
  apply gen_open ho (show (hd.heap_39 w.params).lookup 97 = some _ by k_is) gen_inj
  clear ho
  intro nxt
  intro A h₀ news s P p loose mean mg mb m oI₀ hc₀ hd₀ hh X T F hm N hne hP
  rw [hst] at hP
  refine sx_forLoop (fun _ => rfl) ?_
  have hl : s.heap.IsList Rw [Value.int r0 t0, Value.int r1 t1, Value.int r2 t2'].toArray := News.isList N (.tail _ (.head _))
  refine wpAny_pyNext_list_item ⟨oI₀, N.get (.head _), hc₀, hd₀⟩ hl (by simpa using hx) fun h' hi hs => ?_
  obtain ⟨oI, hoI, hcI, hdI⟩ := id hi
  obtain ⟨F1, N1⟩ := turn_it F N hne hs hoI
  clear F N
  dsimp only
  k_steps
  refine sx_cons (sx_If ?_)
  k_steps
  refine sx_nil ?_
  refine sx_cons (sx_If ?_)
  k_steps
  refine sx_nil ?_
  rename_i h9 F9 N9
  refine sx_cons (sx_yield rfl rfl rfl ?_)
  refine ld F9 rfl ?_
  intro l' k' p' hk'
  obtain ⟨oG, hG, hnG⟩ := nsO_of F9.ns
  refine hP (.susp (.int x tx) false l' k' _ p' _) tx _ _ oG oI rfl ?_ F9.keep hG N9
  cases k with
  | zero => trivial
  | succ k =>
    refine ⟨rfl, ?_⟩
    intro A2 h2 news2 s2 P2 p2 loose2 mean2 mg2 mb2 hh2 X2 T2 ha2 hkeep2 hG2 N2 hne2 hP2
    have F2 : Fr h2 Lg s2.heap _ := ⟨hnG.at hG2, hkeep2, ha2⟩
    show SegX _ _ _ _ _ _ _
    refine hk' _ _ _ ?_
    refine sx_cons (sx_wrap ?_)
    k_steps
    rename_i h8 F8 N8
    refine sx_nil ?_
    refine s_again lawProg w A2 _ _ P2 _ _ rfl ?_
    exact nxt k A2 h2 news2 _ P2 p2 loose2 mean2 mg2 mb2 _ oI hcI hdI hh2 X2 T2 F8 rfl N8 hne2 hP2
end

theorem gen_fresh {w : World} {Lg Rw : Addr} {r0 r1 r2 : Int} {t0 t1 t2 : Tok} {nR : Nat} {name qual : Str} {params : Arguments} {body : List Stmt} {scope : Scope} {dV kV doc pm cdv ct oc : Value} {an od : Option Addr} {osl : Array (Option Value)}
    (ho : (hd.heap_39 w.params).lookup 97 = some ⟨oc, od, .func (fnOf name qual params body scope dV kV doc pm an cdv ct), osl⟩) (hr0 : r0 ≠ 0) (hr1 : r0 ≠ 127) (k : Nat)
    {A : Around} {h₀ : Heap} {news : List (Addr × Obj)} {s : Shared} {P : End → Shared → Prop} {p : Program} {loose : List Str} {mean : ExcName → Option Value} {mg mb : Str → Option Value}
    (hh : A.handled = none) (X : (hd.heap_39 w.params).In h₀) (T : Top p loose mean mg mb h₀)
    (F : Fr h₀ Lg s.heap (fun y => [(Str.ofString "grouping", Value.ref Rw)].reverse.lookup y)) (N : News h₀ Lg s.heap ((Rw, rowO r0 t0 r1 t1 r2 t2 nR) :: news))
    (hP : ∀ (e : End) (t : Tok) (h' : Heap) (tk' : Nat) (It : Addr) (oG' oI' : Obj), e.result = .yielded (.int r0 t) → GenOK w Lg It Rw (rowO r0 t0 r1 t1 r2 t2 nR) k (fun n => stream r0 r1 r2 (n + 1)) e.genState oG' oI' → (∀ b o, h₀.get? b = some o → h'.get? b = some o) → h'.get? Lg = some oG' →
      News h₀ Lg h' ((It, oI') :: (Rw, rowO r0 t0 r1 t1 r2 t2 nR) :: news) → (∀ q ∈ (Rw, rowO r0 t0 r1 t1 r2 t2 nR) :: news, q.1 < It) → @LT.lt Nat _ Lg It → P e { s with heap := h', toks := tk' }) :
    Wk lawProg w A (.fresh (.func body (envOf qual scope Lg 97 cdv))) s P := by
  apply obj_elim ho (show (hd.heap_39 w.params).lookup 97 = some _ by k_is)
  clear ho
  show SegX _ _ _ _ _ _ _
  refine sx_func ?_
  refine sx_cons (sx_wrap ?_)
  k_steps
  refine sx_cons (sx_For ?_)
  rename_i h8 F8 N8
  refine ld F8 rfl ⟨rfl, ?_⟩
  have hl : h8.IsList Rw [Value.int r0 t0, Value.int r1 t1, Value.int r2 t2].toArray := News.isList N8 (.head _)
  refine wpAny_pyIter_list hl ?_
  intro p9
  have hlt : ∀ q ∈ (Rw, rowO r0 t0 r1 t1 r2 t2 nR) :: news, q.1 < h8.objs.size := fun q hq => Heap.lt_size (N8 q hq).1
  have F9 := F8.push (itO Rw 0)
  have N9 := News.push F8 N8 (itO Rw 0)
  refine turn_norm (i := 0) (lastv := Value.none) (st := stream r0 r1 r2) (tx := t0) (show (hd.heap_39 w.params).lookup 97 = some _ by k_is) rfl hr0 hr1 rfl ?nxt k A h₀ news _ P p loose mean mg mb _ (itO Rw 0) rfl rfl hh X T F9 rfl N9 (fun q hq => Nat.ne_of_lt (hlt q hq)) ?last
  case last =>
    exact fun e t h' tk' oG' oI' h1 h2 h3 h4 h5 => hP e t h' tk' _ oG' oI' h1 h2 h3 h4 h5 hlt (Heap.lt_size (nsO_of F8.ns).choose_spec.1)
  case nxt =>
    intro k
    by_cases c1 : r1 = 127
    · subst c1
      exact turn_stop (show (hd.heap_39 w.params).lookup 97 = some _ by k_is) (by intro A s P f hf hp; rcases hf with rfl | rfl <;> exact s_end lawProg w A _ P s (.ok (.ret .none)) _ rfl hp) (tx := t1) rfl (by simp [stream]) k
    · by_cases c2 : r1 = 0
      · subst c2
        exact turn_zero (show (hd.heap_39 w.params).lookup 97 = some _ by k_is) (tx := t1) rfl (by intro n; cases n <;> simp [stream]) k
      · refine turn_norm (show (hd.heap_39 w.params).lookup 97 = some _ by k_is) (tx := t1) rfl c2 c1 (by simp [stream, c1, c2]) ?_ k
        intro k
        by_cases c3 : r2 = 127
        · subst c3
          exact turn_stop (show (hd.heap_39 w.params).lookup 97 = some _ by k_is) (by intro A s P f hf hp; rcases hf with rfl | rfl <;> exact s_end lawProg w A _ P s (.ok (.ret .none)) _ rfl hp) (tx := t2) rfl (by simp [stream, c1, c2]) k
        · by_cases c4 : r2 = 0
          · subst c4
            exact turn_zero (show (hd.heap_39 w.params).lookup 97 = some _ by k_is) (tx := t2) rfl (by intro n; simp [stream, c1, c2]) k
          · refine turn_norm (show (hd.heap_39 w.params).lookup 97 = some _ by k_is) (tx := t2) rfl c4 c3 (by simp [stream, c1, c2, c3, c4]) ?_ k
            intro k
            exact turn_end (show (hd.heap_39 w.params).lookup 97 = some _ by k_is) (by intro A s P f hf hp; rcases hf with rfl | rfl <;> exact s_end lawProg w A _ P s (.ok (.ret .none)) _ rfl hp) (by simp [stream, c1, c2, c3, c4]) k
end Mine
end PartGen2

section PartGen3
open PySem PySem.Spec PySem.Calls PySem.W PySem.W.X PyProof.Rows
set_option Elab.async false
set_option maxRecDepth 100000
set_option maxHeartbeats 8000000
namespace Mine

section
variable {prog : Program} {w : World} {A : Around} {E : Value → Shared → Prop} {s : Shared} {env : Env} {target : PySem.Expr} {it : Value} {body orelse : List Stmt} {Q : Flow → Shared → Prop}
noncomputable def ForRest (prog : Program) (w : World) (A : Around) (E : Value → Shared → Prop) (env : Env) (target : PySem.Expr) (it : Value) (body orelse : List Stmt) (Q : Flow → Shared → Prop) (s : Shared) : Prop :=
  codeAny (model prog w) A (.forLoop target it body orelse env) (fun r s' => match r with | .ok f => Q f s' | .error e => cameBackBy (model prog w) A env E e s') s
noncomputable def ForPost (prog : Program) (w : World) (A : Around) (E : Value → Shared → Prop) (env : Env) (target : PySem.Expr) (it : Value) (body orelse : List Stmt) (Q : Flow → Shared → Prop) (f : Flow) (s : Shared) : Prop :=
  match f with
  | .next => ForRest prog w A E env target it body orelse Q s
  | .cont => ForRest prog w A E env target it body orelse Q s
  | .brk => Q .next s
  | .ret v => Q (.ret v) s
theorem for_start {iter : PySem.Expr} {pos : Pos}
    (h : wpAny (model prog w) A (eval iter env) (fun x s₁ => wpAny (model prog w) A (pyIter x) (fun it s₂ => ForRest prog w A E env target it body orelse Q s₂) E s₁) E s)
    (hs : ∀ x, foldedSetIterable iter env x = pure x := by intro _; rfl) : wpAny (model prog w) A (exec (.For target iter body orelse pos) env) Q E s := wpAny_For h hs
theorem for_turn (hlet : ∀ v, letOwnedTupleGo target it v = pure ())
    (h : wpAny (model prog w) A (pyNext it) (fun o s₁ => match o with
      | none => wpAny (model prog w) A (execs orelse env) Q (fun _ _ => False) s₁
      | some v => wpAny (model prog w) A (assign target env v) (fun _ s₂ => wpAny (model prog w) A (execs body env) (ForPost prog w A E env target it body orelse Q) (fun _ _ => False) s₂) (fun _ _ => False) s₁) (fun _ _ => False) s) :
    ForRest prog w A E env target it body orelse Q s := by
  refine codeAny_of_tree ?_
  show wpAny _ A ((forTurn target it body orelse env).onRaise (fun x => do noteFrame x env; theTreesLotGoes x)) _ _ s
  refine wpAny_noted ?_
  simp only [forTurn]
  refine wpAny_bind (wpAny_standAt (wpAny_bind (wpAny_onRaise (wpAny_mono h (fun o s₁ h₁ => ?_) fun _ _ x => x.elim))))
  cases o with
  | none => exact wpAny_pure ⟨rfl, codeAny_block (wpAny_mono h₁ (fun _ _ x => x) fun _ _ x => x.elim)⟩
  | some v =>
    dsimp only at h₁ ⊢
    rw [hlet v]
    refine wpAny_bind (wpAny_pure ?_)
    refine wpAny_bind (wpAny_mono h₁ (fun _ s₂ h₂ => wpAny_bind (wpAny_mono h₂ (fun f s₃ h₃ => ?_) fun _ _ x => x.elim)) fun _ _ x => x.elim)
    cases f with
    | next => exact wpAny_pure ⟨rfl, h₃⟩
    | cont => exact wpAny_pure ⟨rfl, h₃⟩
    | brk => exact wpAny_pure h₃
    | ret v => exact wpAny_pure h₃
end

/-- the object of a generator, with its number -/
noncomputable def GenO (o : Obj) (g : Nat) : Prop := ∃ nm qn, o.cls = .type "generator" ∧ o.data = .fields #[.int g 0, nm, qn] ∧ o.slots = #[]
/-- a generator that has not begun -/
noncomputable def FreshG (w : World) (Lg : Addr) (gs : GenState) : Prop := ∃ (name qual : Str) (params : Arguments) (body : List Stmt) (scope : Scope) (dV kV doc pm cdv ct oc : Value) (an od : Option Addr) (osl : Array (Option Value)),
  (hd.heap_39 w.params).lookup 97 = some ⟨oc, od, .func (fnOf name qual params body scope dV kV doc pm an cdv ct), osl⟩ ∧ gs = .fresh (.func body (envOf qual scope Lg 97 cdv))

theorem grp_call0 {w : World} {Rw : Addr} {news : List (Addr × Obj)} {name qual : Str} {params : Arguments} {body : List Stmt} {scope : Scope} {dV kV doc pm cdv ct oc : Value} {an od : Option Addr} {osl : Array (Option Value)}
    {p : Program} {loose : List Str} {mean : ExcName → Option Value} {mg mb : Str → Option Value} {A : Around} {h₀ : Heap} {L : Addr} {m : Str → Option Value} {s : Shared} {Q E : Value → Shared → Prop}
    (ho : (hd.heap_39 w.params).lookup 97 = some ⟨oc, od, .func (fnOf name qual params body scope dV kV doc pm an cdv ct), osl⟩)
    (F : Fr h₀ L s.heap m) (X : (hd.heap_39 w.params).In h₀) (N : News h₀ L s.heap news) (T : Top p loose mean mg mb h₀) (hroom : A.depth < recursionLimit)
    (hret : ∀ (Gn Lg : Addr) (oGn oL : Obj) (h' : Heap) (tk' : Nat), GenO oGn s.gens.size → NsO oL (fun y => [(Str.ofString "grouping", Value.ref Rw)].reverse.lookup y) → (∀ q ∈ news, q.1 < Lg) → @LT.lt Nat _ Lg Gn → @LT.lt Nat _ L Lg →
      Fr h₀ L h' m → News h₀ L h' ((Gn, oGn) :: (Lg, oL) :: news) → Q (.ref Gn) { s with heap := h', toks := tk', gens := s.gens.push (.fresh (.func body (envOf qual scope Lg 97 cdv))) }) :
      wpAny (model lawProg w) A (call (.ref 97) [.ref Rw]) Q E s := by
  have hcd : codeIn (hd.heap_39 w.params) cdv qual = true := by
    clear hret
    apply obj_elim ho (show (hd.heap_39 w.params).lookup 97 = some _ by k_is)
    clear ho
    first | kernel_rfl | rfl | (trace_state; k_is)
  have Xs := X.keeps F.keep
  refine wpAny_call ?_
  refine codeAny_call_generator (fd := fnOf name qual params body scope dV kV doc pm an cdv ct) (body := body) hroom (Xs _ _ ho) rfl ?_ ?_ rfl (codeRec_of Xs hcd) ?_
  · clear hret
    apply obj_elim ho (show (hd.heap_39 w.params).lookup 97 = some _ by k_is)
    clear ho
    rfl
  · clear hret
    apply obj_elim ho (show (hd.heap_39 w.params).lookup 97 = some _ by k_is)
    clear ho
    rfl
  have hb : BindsTo s (fnOf name qual params body scope dV kV doc pm an cdv ct) ⟨[.ref Rw], []⟩ [(Str.ofString "grouping", Value.ref Rw)] := by
    clear hret
    apply obj_elim ho (show (hd.heap_39 w.params).lookup 97 = some _ by k_is)
    clear ho
    exact BindsTo.of_eq rfl
  refine hb _ _ _ _ ?_
  refine wpAny_newFunctionEnv ?_ ?_ (fun h1 hns hs => ?_) ?_
  · clear hret
    apply obj_elim ho (show (hd.heap_39 w.params).lookup 97 = some _ by k_is)
    clear ho
    decide
  · clear hret
    apply obj_elim ho (show (hd.heap_39 w.params).lookup 97 = some _ by k_is)
    clear ho
    exact locs rfl
  · have hsz := Heap.lt_size (nsO_of F.ns).choose_spec.1
    have up : ∀ b o, s.heap.get? b = some o → h1.get? b = some o := fun b o e => (hs.2 b (Nat.ne_of_lt (Heap.lt_size e))).trans (Heap.get?_push_of_some _ e)
    obtain ⟨oL, hoL, hnL⟩ := nsO_of hns
    refine ⟨(T.nolimit.keeps F.keep).keeps up, ?_⟩
    have hlt1 := Heap.lt_size hoL
    refine hret h1.objs.size s.heap.objs.size { cls := .type "generator", data := .fields #[.int s.gens.size 0, .str name (s.toks + 1), .str qual (s.toks + 1 + 1)] } oL _ _ ?_ hnL (fun q hq => Heap.lt_size (N q hq).1) hlt1 hsz ?_ ?_
    · exact ⟨_, _, rfl, rfl, rfl⟩
    · exact Fr.push ⟨F.ns.keeps up, fun b o e => up b o (F.keep b o e), F.above⟩ _
    · have F1 : Fr h₀ L h1 m := ⟨F.ns.keeps up, fun b o e => up b o (F.keep b o e), F.above⟩
      refine News.push F1 ?_ _
      intro q hq
      rcases List.mem_cons.mp hq with rfl | hq
      · exact ⟨hoL, Nat.ne_of_gt hsz, Heap.get?_none_of_le (Nat.le_trans F.above (Nat.le_of_lt hsz))⟩
      · exact ⟨up _ _ (N q hq).1, (N q hq).2⟩
  · clear hret
    apply obj_elim ho (show (hd.heap_39 w.params).lookup 97 = some _ by k_is)
    clear ho
    rfl

theorem grp_call {w : World} {Rw : Addr} {news : List (Addr × Obj)}
    {p : Program} {loose : List Str} {mean : ExcName → Option Value} {mg mb : Str → Option Value} {A : Around} {h₀ : Heap} {L : Addr} {m : Str → Option Value} {s : Shared} {Q E : Value → Shared → Prop}
    (F : Fr h₀ L s.heap m) (X : (hd.heap_39 w.params).In h₀) (N : News h₀ L s.heap news) (T : Top p loose mean mg mb h₀) (hroom : A.depth < recursionLimit)
    (hret : ∀ (Gn Lg : Addr) (oGn oL : Obj) (gs : GenState) (h' : Heap) (tk' : Nat), GenO oGn s.gens.size → FreshG w Lg gs → NsO oL (fun y => [(Str.ofString "grouping", Value.ref Rw)].reverse.lookup y) → (∀ q ∈ news, q.1 < Lg) → @LT.lt Nat _ Lg Gn → @LT.lt Nat _ L Lg →
      Fr h₀ L h' m → News h₀ L h' ((Gn, oGn) :: (Lg, oL) :: news) → Q (.ref Gn) { s with heap := h', toks := tk', gens := s.gens.push gs }) :
      wpAny (model lawProg w) A (call (.ref 97) [.ref Rw]) Q E s :=
  have ho := (show (hd.heap_39 w.params).lookup 97 = some _ by k_is)
  grp_call0 ho F X N T hroom fun Gn Lg oGn oL h' tk' a1 a2 a3 a4 a5 F' N' => hret Gn Lg oGn oL _ h' tk' a1 ⟨_, _, _, _, _, _, _, _, _, _, _, _, _, _, _, ho, rfl⟩ a2 a3 a4 a5 F' N'

/-- the view of the same heap from the other frame -/
theorem other_view {h₀ h : Heap} {L Lg : Addr} {m : Str → Option Value} {oG : Obj} {rest : List (Addr × Obj)} (F : Fr h₀ L h m) (N : News h₀ L h ((Lg, oG) :: rest)) (hne : ∀ q ∈ rest, q.1 ≠ Lg) (hLg : @LT.lt Nat _ L Lg) :
    h.get? Lg = some oG ∧ h₀.objs.size ≤ Lg ∧ ∃ oL, NsO oL m ∧ News h₀ Lg h (rest ++ [(L, oL)]) := by
  obtain ⟨oL, hoL, hnL⟩ := nsO_of F.ns
  have z := N (Lg, oG) (.head _)
  refine ⟨z.1, Nat.le_trans F.above (Nat.le_of_lt hLg), oL, hnL, fun q hq => ?_⟩
  rcases List.mem_append.mp hq with hq | hq
  · have y := N q (.tail _ hq)
    exact ⟨y.1, hne q hq, y.2.2⟩
  · rcases List.mem_cons.mp hq with rfl | hq
    · exact ⟨hoL, Nat.ne_of_lt hLg, Heap.get?_none_of_le F.above⟩
    · cases hq
theorem view_back {h₀ h : Heap} {L Lg : Addr} {m : Str → Option Value} {oG oL : Obj} {rest : List (Addr × Obj)} (hk : ∀ b o, h₀.get? b = some o → h.get? b = some o) (hG : h.get? Lg = some oG) (N : News h₀ Lg h (rest ++ [(L, oL)])) (hn : NsO oL m) (hL : h₀.objs.size ≤ L) (hLg : @LT.lt Nat _ L Lg) (hne : ∀ q ∈ rest, q.1 ≠ L) :
    Fr h₀ L h m ∧ News h₀ L h ((Lg, oG) :: rest) := by
  refine ⟨⟨hn.at (N (L, oL) (by simp)).1, hk, hL⟩, fun q hq => ?_⟩
  rcases List.mem_cons.mp hq with rfl | hq
  · exact ⟨hG, Nat.ne_of_gt hLg, Heap.get?_none_of_le (Nat.le_trans hL (Nat.le_of_lt hLg))⟩
  · have y := N q (List.mem_append_left _ hq)
    exact ⟨y.1, hne q hq, y.2.2⟩

theorem GenO.is {o : Obj} {g : Nat} {h : Heap} {a : Addr} (x : GenO o g) (e : h.get? a = some o) : h.IsGen a g := let ⟨nm, qn, r⟩ := x; ⟨o, nm, qn, e, r⟩

/-- the next number of a generator under way -/
theorem grp_next {w : World} {Rw It Gn Lg : Addr} {oR oI oG oGn : Obj} {news : List (Addr × Obj)} {g k : Nat} {gs : GenState} {st : Nat → Option Int}
    {p : Program} {loose : List Str} {mean : ExcName → Option Value} {mg mb : Str → Option Value} {A : Around} {h₀ : Heap} {L : Addr} {m : Str → Option Value} {s : Shared} {Q : Option Value → Shared → Prop} {E : Value → Shared → Prop}
    (hh : A.handled = none) (F : Fr h₀ L s.heap m) (X : (hd.heap_39 w.params).In h₀) (N : News h₀ L s.heap ((Lg, oG) :: (It, oI) :: (Rw, oR) :: (Gn, oGn) :: news)) (T : Top p loose mean mg mb h₀) (hroom : A.depth < recursionLimit)
    (hn1 : ∀ q ∈ (It, oI) :: (Rw, oR) :: (Gn, oGn) :: news, q.1 ≠ Lg) (hn2 : ∀ q ∈ (Rw, oR) :: (Gn, oGn) :: news, q.1 ≠ It) (hLg : @LT.lt Nat _ L Lg) (hg : GenO oGn g) (hgs : s.gens[g]? = some gs) (hG : GenOK w Lg It Rw oR (k + 1) st gs oG oI)
    (hQ : match st 0 with
      | some v => ∀ (t : Tok) (h' : Heap) (tk' : Nat) (gs' : GenState) (oG' oI' : Obj), GenOK w Lg It Rw oR k (fun n => st (n + 1)) gs' oG' oI' → Fr h₀ L h' m → News h₀ L h' ((Lg, oG') :: (It, oI') :: (Rw, oR) :: (Gn, oGn) :: news) → Q (some (.int v t)) { s with heap := h', toks := tk', gens := s.gens.setIfInBounds g gs' }
      | none => ∀ (h' : Heap) (tk' : Nat) (oG' : Obj), Fr h₀ L h' m → News h₀ L h' ((Lg, oG') :: (Rw, oR) :: (Gn, oGn) :: news) → Q none { s with heap := h', toks := tk', gens := s.gens.setIfInBounds g .finished }) :
    wpAny (model lawProg w) A (pyNext (.ref Gn)) Q E s := by
  obtain ⟨hGet, hLe, oL, hnL, N2⟩ := other_view F N hn1 hLg
  have hnL1 : ∀ q ∈ (It, oI) :: (Rw, oR) :: (Gn, oGn) :: news, q.1 ≠ L := fun q hq => (N q (.tail _ hq)).2.1
  have hItL : L ≠ It := fun h => hnL1 (It, oI) (.head _) h.symm
  refine pyNext_genX (gs := gs) hh (T.nolimit.keeps F.keep) hroom (hg.is (N (Gn, oGn) (by simp)).1) hgs ?_
  have N3 : News h₀ Lg s.heap ((It, oI) :: (Rw, oR) :: ((Gn, oGn) :: news ++ [(L, oL)])) := N2
  refine hG.2 A.in1 h₀ ((Gn, oGn) :: news ++ [(L, oL)]) (s.setGen g .running) _ p loose mean mg mb hh X T hLe F.keep hGet N3 ?_ ?_
  · intro q hq
    rcases List.mem_cons.mp hq with rfl | hq
    · exact hn2 _ (.head _)
    rcases List.mem_append.mp hq with hq | hq
    · exact hn2 q (.tail _ hq)
    · rcases List.mem_cons.mp hq with rfl | hq
      · exact hItL
      · cases hq
  · have hset : ∀ x, ((s.gens.setIfInBounds g .running).setIfInBounds g x) = s.gens.setIfInBounds g x := fun x => by simp
    cases hst : st 0 with
    | some v =>
      rw [hst] at hQ
      intro e t h' tk' oG' oI' he hOK hk' hG' N'
      obtain ⟨F4, N4⟩ := view_back (rest := (It, oI') :: (Rw, oR) :: (Gn, oGn) :: news) hk' hG' N' hnL F.above hLg (by
        intro q hq
        rcases List.mem_cons.mp hq with rfl | hq
        · exact fun h => hItL h.symm
        · exact hnL1 q (.tail _ hq))
      cases e with
      | ret r => 
        cases r with
        | ok f => cases f <;> cases he
        | error e => cases he
      | susp v' gd l k' c p fs =>
        have hv : v' = .int v t := by cases he; rfl
        subst hv
        have := hQ t h' tk' _ oG' oI' hOK F4 N4
        show Q _ _
        rw [← hset] at this
        exact this
    | none =>
      rw [hst] at hQ
      intro h' tk' oG' hk' hG' N'
      obtain ⟨F4, N4⟩ := view_back (rest := (Rw, oR) :: (Gn, oGn) :: news) hk' hG' N' hnL F.above hLg (fun q hq => hnL1 q (.tail _ hq))
      refine ⟨rfl, fun h'' hkeep => ?_⟩
      have F5 : Fr h₀ L h'' m := ⟨F4.ns.keeps hkeep, fun b o e => hkeep _ _ (F4.keep b o e), F4.above⟩
      have N5 : News h₀ L h'' ((Lg, oG') :: (Rw, oR) :: (Gn, oGn) :: news) := fun q hq => ⟨hkeep _ _ (N4 q hq).1, (N4 q hq).2⟩
      have := hQ h'' tk' oG' F5 N5
      rw [← hset] at this
      exact this
/-- the first number of a generator -/
theorem grp_first {w : World} {Rw Gn Lg : Addr} {r0 r1 r2 : Int} {t0 t1 t2 : Tok} {nR : Nat} {oG oGn : Obj} {news : List (Addr × Obj)} {g : Nat} (k : Nat) {gs : GenState}
    {p : Program} {loose : List Str} {mean : ExcName → Option Value} {mg mb : Str → Option Value} {A : Around} {h₀ : Heap} {L : Addr} {m : Str → Option Value} {s : Shared} {Q : Option Value → Shared → Prop} {E : Value → Shared → Prop}
    (hr0 : r0 ≠ 0) (hr1 : r0 ≠ 127)
    (hh : A.handled = none) (F : Fr h₀ L s.heap m) (X : (hd.heap_39 w.params).In h₀) (N : News h₀ L s.heap ((Lg, oG) :: (Rw, rowO r0 t0 r1 t1 r2 t2 nR) :: (Gn, oGn) :: news)) (T : Top p loose mean mg mb h₀) (hroom : A.depth < recursionLimit)
    (hn1 : ∀ q ∈ (Rw, rowO r0 t0 r1 t1 r2 t2 nR) :: (Gn, oGn) :: news, q.1 ≠ Lg) (hLg : @LT.lt Nat _ L Lg) (hg : GenO oGn g) (hgs : s.gens[g]? = some gs) (hfr : FreshG w Lg gs) (hoG : NsO oG (fun y => [(Str.ofString "grouping", Value.ref Rw)].reverse.lookup y))
    (hQ : ∀ (t : Tok) (h' : Heap) (tk' : Nat) (gs' : GenState) (It : Addr) (oG' oI' : Obj), GenOK w Lg It Rw (rowO r0 t0 r1 t1 r2 t2 nR) k (fun n => stream r0 r1 r2 (n + 1)) gs' oG' oI' → (∀ q ∈ (Lg, oG) :: (Rw, rowO r0 t0 r1 t1 r2 t2 nR) :: (Gn, oGn) :: news, q.1 < It) → Fr h₀ L h' m → News h₀ L h' ((Lg, oG') :: (It, oI') :: (Rw, rowO r0 t0 r1 t1 r2 t2 nR) :: (Gn, oGn) :: news) → Q (some (.int r0 t)) { s with heap := h', toks := tk', gens := s.gens.setIfInBounds g gs' }) :
    wpAny (model lawProg w) A (pyNext (.ref Gn)) Q E s := by
  obtain ⟨hGet, hLe, oL, hnL, N2⟩ := other_view F N hn1 hLg
  have hnL1 : ∀ q ∈ (Rw, rowO r0 t0 r1 t1 r2 t2 nR) :: (Gn, oGn) :: news, q.1 ≠ L := fun q hq => (N q (.tail _ hq)).2.1
  refine pyNext_genX (gs := gs) hh (T.nolimit.keeps F.keep) hroom (hg.is (N (Gn, oGn) (by simp)).1) hgs ?_
  obtain ⟨_, _, _, _, _, _, _, _, _, _, _, _, _, _, _, ho, rfl⟩ := hfr
  refine gen_fresh (s := s.setGen g .running) (news := (Gn, oGn) :: news ++ [(L, oL)]) ho hr0 hr1 k hh X T ⟨hoG.at hGet, F.keep, hLe⟩ N2 ?_
  intro e t h' tk' It oG' oI' he hOK hk' hG' N' hIt hLgIt0
  have hset : ∀ x, ((s.gens.setIfInBounds g .running).setIfInBounds g x) = s.gens.setIfInBounds g x := fun x => by simp
  have hLIt : @LT.lt Nat _ L It := hIt (L, oL) (by simp)
  have hLgIt : ∀ q ∈ (Lg, oG) :: (Rw, rowO r0 t0 r1 t1 r2 t2 nR) :: (Gn, oGn) :: news, q.1 < It := by
    intro q hq
    rcases List.mem_cons.mp hq with rfl | hq
    · exact hLgIt0
    · refine hIt q ?_
      rcases List.mem_cons.mp hq with rfl | hq
      · exact .head _
      · exact .tail _ (List.mem_append_left _ hq)
  obtain ⟨F4, N4⟩ := view_back (rest := (It, oI') :: (Rw, rowO r0 t0 r1 t1 r2 t2 nR) :: (Gn, oGn) :: news) hk' hG' N' hnL F.above hLg (by
    intro q hq
    rcases List.mem_cons.mp hq with rfl | hq
    · exact Nat.ne_of_gt hLIt
    · exact hnL1 q hq)
  cases e with
  | ret r => 
    cases r with
    | ok f => cases f <;> cases he
    | error e => cases he
  | susp v' gd l k' c p fs =>
    have hv : v' = .int r0 t := by cases he; rfl
    subst hv
    have := hQ t h' tk' _ It oG' oI' hOK hLgIt F4 N4
    show Q _ _
    rw [← hset] at this
    exact this
end Mine
end PartGen3

section PartPla
open PySem PySem.Spec PySem.Calls PySem.W PyProof.Rows
set_option Elab.async false
set_option maxRecDepth 100000
set_option maxHeartbeats 8000000
namespace Mine
/-- the walk's lines are looked up afresh from here on -/
theorem syncPla {M : Model} {A : Around} {E : Value → Shared → Prop} {s : Shared} {env : Env} {Q : Flow → Shared → Prop} (h : Q .next s) : wpAny M A (execs [] env) Q E s := by
  w_top off
  first | (walk1; exact h) | exact wpAny_execs_nil h

/-- the row of places that the loop leaves -/
noncomputable def runP (ring : Int) : Nat → Int → List Int → (Nat → Option Int) → List Int
  | 0, _, ps, _ => ps
  | k + 1, mk, ps, st => match st 0 with
    | none => ps
    | some v => runP ring k (mk + v) (insSorted ps ((mk + v) % ring)) (fun n => st (n + 1))
theorem bits64 {b : Int} (h : 4 ≤ b) : (64 : Int) ≤ 2 ^ (2 * Builtin.Int.intBits b) := by
  have h3 : 3 ≤ Builtin.Int.intBits b := by
    rcases Nat.lt_or_ge (Builtin.Int.intBits b) 3 with h1 | h1
    · have h2 := (bits_lt_iff (x := b) (by omega) (k := 2)).mp (by omega)
      omega
    · exact h1
  have : (2 : Int) ^ 6 ≤ 2 ^ (2 * Builtin.Int.intBits b) := by
    have := Nat.pow_le_pow_right (n := 2) (by decide) (show 6 ≤ 2 * Builtin.Int.intBits b by omega)
    exact_mod_cast this
  omega



theorem fr_pad {h₀ h : Heap} {L : Addr} {m : Str → Option Value} (F : Fr h₀ L h m) (a : Str) {x : Option Value} (hm : m a = x) : Fr h₀ L h (fun y => if y = a then x else m y) := by
  have e : (fun y => if y = a then x else m y) = m := by
    funext y
    by_cases h1 : y = a
    · subst h1; simp [hm]
    · simp [h1]
  rw [e]; exact F
noncomputable abbrev plM (x : Option Value) (mk : Int) (tmk : Tok) (D : Addr) (many : Int) (tm : Tok) (ring : Int) (tr : Tok) (m0 : Str → Option Value) : Str → Option Value :=
  fun y => if y = Str.ofString "size" then x else if y = Str.ofString "mark" then some (.int mk tmk) else if y = Str.ofString "places" then some (.ref D) else if y = Str.ofString "many" then some (.int many tm) else if y = Str.ofString "ring" then some (.int ring tr) else m0 y

theorem places_body {w : World} {many ring mk v : Int} {tm tr tmk tv : Tok} {D Lg It Gn L' : Addr} {n : Nat} {vs : List Value} {ps : List Int} {oG oI oGn : Obj} {rest : List (Addr × Obj)} {oA ocA oB ocB : Obj} {cA cB : Addr} {g : Obj → Addr → Obj → Obj → Addr → Obj → List (Addr × Obj)} {x : Option Value} {m0 : Str → Option Value}
    {name qual : Str} {params : Arguments} {scope : Scope} {dV kV doc pm cdv ct oc : Value} {an od : Option Addr} {osl : Array (Option Value)} {st0 st1 st3 : Stmt} {target iter : PySem.Expr} {fbody orelse : List Stmt} {fpos : Pos}
    {p : Program} {loose : List Str} {mean : ExcName → Option Value} {mg mb : Str → Option Value} {dp un : Nat} {gd : Option (List Code)} {cn : Str} {cs : Scope} {fa : Addr} {ccd : Value} {cl : List (Str × Addr)} {outer : List Env} {base g' : Heap} {L : Addr} {s : Shared} {Q : Flow → Shared → Prop} {E : Value → Shared → Prop}
    (ho : (hd.heap_39 w.params).lookup 104 = some ⟨oc, od, .func (fnOf name qual params [st0, st1, .For target iter fbody orelse fpos, st3] scope dV kV doc pm an cdv ct), osl⟩)
    (B' : Below (ktrTop dp un gd cn cs L fa ccd cl outer) base (envX cn cs L fa ccd cl :: outer) g') (F : Fr g' L' s.heap (plM x mk tmk D many tm ring tr m0)) (X' : (hd.heap_39 w.params).In g') (N : News g' L' s.heap ((D, listOf vs.toArray n) :: (Lg, oG) :: (It, oI) :: (Gn, oGn) :: rest)) (T' : Top p loose mean mg mb g')
    (U : Tb2 oA cA ocA oB cB ocB rest g) (hTA : TabF 30 32 4 q30 oA cA ocA) (hTB : TabF 37 47 4 q37 oB cB ocB) (hcA : cA ≠ 37) (hcB : cB ≠ 30)
    (hrD : ∀ q ∈ rest, q.1 < D) (hDL : @LT.lt Nat _ D Lg) (hLG : @LT.lt Nat _ Lg Gn) (hGI : @LT.lt Nat _ Gn It)
    (hi : IntsAre vs ps) (hso : ps.Pairwise (· ≤ ·)) (hlen : ps.length ≤ 5) (hmk : -20 ≤ mk + v ∧ mk + v ≤ 50) (hr : 4 ≤ ring ∧ ring ≤ 12) (hdp : dp + 409 < recursionLimit) (hun : un + 4090 < cLine)
    (hbrk : (ps.length : Int) = many → ∀ (m' : Str → Option Value) (h' : Heap) (tk' : Nat), Fr g' L' h' (fun y => if y = Str.ofString "places" then some (.ref D) else m' y) → News g' L' h' ((D, listOf vs.toArray n) :: (Lg, oG) :: (It, oI) :: (Gn, oGn) :: rest) → Q .next { s with heap := h', toks := tk' })
    (hgo : (ps.length : Int) ≠ many → ∀ (n' : Nat) (vs' : List Value) (x' : Option Value) (tmk' : Tok) (m' : Str → Option Value) (h' : Heap) (tk' : Nat), IntsAre vs' (insSorted ps ((mk + v) % ring)) → Fr g' L' h' (plM x' (mk + v) tmk' D many tm ring tr m') → News g' L' h' ((D, listOf vs'.toArray n') :: (Lg, oG) :: (It, oI) :: (Gn, oGn) :: rest) →
      ForRest lawProg w ((ktrTop dp un gd cn cs L fa ccd cl outer).deeper (envOf qual scope L' 104 cdv)) E (envOf qual scope L' 104 cdv) target (.ref Gn) fbody orelse Q { s with heap := h', toks := tk' }) :
    wpAny (model lawProg w) ((ktrTop dp un gd cn cs L fa ccd cl outer).deeper (envOf qual scope L' 104 cdv)) (assign target (envOf qual scope L' 104 cdv) (.int v tv)) (fun _ s₂ => wpAny (model lawProg w) ((ktrTop dp un gd cn cs L fa ccd cl outer).deeper (envOf qual scope L' 104 cdv)) (execs fbody (envOf qual scope L' 104 cdv)) (ForPost lawProg w ((ktrTop dp un gd cn cs L fa ccd cl outer).deeper (envOf qual scope L' 104 cdv)) E (envOf qual scope L' 104 cdv) target (.ref Gn) fbody orelse Q) (fun _ _ => False) s₂) (fun _ _ => False) s := by
  revert hgo
  apply for_open ho (show (hd.heap_39 w.params).lookup 104 = some _ by k_is) (fun e => for_inj (nth2 e))
  clear ho
  intro hgo
  have h64 := bits64 hr.1
  have hp2 : ring < 2 ^ 200 := Int.lt_of_le_of_lt hr.2 (by decide)
  have h30 := hrD _ U.mem30
  have h37 := hrD _ U.mem37
  have U2 : Tb2 oA cA ocA oB cB ocB ((D, listOf vs.toArray n) :: (Lg, oG) :: (It, oI) :: (Gn, oGn) :: rest) _ :=
    .cons (by constructor <;> (apply Nat.ne_of_gt; assumption)) (.cons (by constructor <;> (apply Nat.ne_of_gt; exact Nat.lt_trans (by assumption) hDL)) (.cons (by constructor <;> (apply Nat.ne_of_gt; exact Nat.lt_trans (Nat.lt_trans (Nat.lt_trans (by assumption) hDL) hLG) hGI)) (.cons (by constructor <;> (apply Nat.ne_of_gt; exact Nat.lt_trans (Nat.lt_trans (by assumption) hDL) hLG)) U)))
  have hTA' : TabP 30 32 4 q30 oA cA ocA := .inr hTA
  have hTB' : TabP 37 47 4 q37 oB cB ocB := .inr hTB
  k_steps
  · rename_i F9 N9 _ _
    refine hbrk (by assumption) _ _ _ (fr_pad F9 (Str.ofString "places") rfl) N9
  · k_dflt (refine' idm_any ?k1 ?k2 ?k3 ?k4 ?k5 ?kK ?U ?hTA ?hTB ?hcA ?hcB ?a2 ?a3 ?a4 ?a5 ?hd ?hu ?_; (case k1 => k_asm); (case k2 => k_asm); (case k3 => k_asm); (case k4 => k_asm); (case k5 => k_asm); (case kK => exact rfl); (case U => assumption); (case hTA => assumption); (case hTB => assumption); (case hcA => assumption); (case hcB => assumption); (case a2 => omega); (case a3 => omega); (case a4 => omega); (case a5 => omega); (case hd => ktr_room); (case hu => ktr_units)); intro q9 tx9 ty9 oA9 cA9 ocA9 oB9 cB9 ocB9 h9 tk9 hA9 hB9 sA9 sB9 hcA9 hcB9 fA9 fB9 lq9 F9 N9; (try dsimp only)
    k_steps
    rename Fr _ _ _ _ => F9
    rename News _ _ _ _ => N9
    obtain ⟨rfl, rfl, rfl⟩ := sA9 hTA
    obtain ⟨rfl, rfl, rfl⟩ := sB9 hTB
    have N10 := news_drop N9
    rw [U.self] at N10
    refine insort_left_spec (ns := ps) B' F9 X' N10 T' rfl ?_ hi hso (by omega) (by ktr_room) (by ktr_units) ?_
    · intro q hq
      rcases List.mem_cons.mp hq with rfl | hq
      · exact Nat.ne_of_gt hDL
      rcases List.mem_cons.mp hq with rfl | hq
      · exact Nat.ne_of_gt (Nat.lt_trans (Nat.lt_trans hDL hLG) hGI)
      rcases List.mem_cons.mp hq with rfl | hq
      · exact Nat.ne_of_gt (Nat.lt_trans hDL hLG)
      · exact Nat.ne_of_lt (hrD q hq)
    · intro n' vs' h' tk' hi' F11 N11
      refine wpAny_execs_nil ?_
      exact hgo (by assumption) n' vs' _ _ _ h' tk' hi' (fr_pad (fr_pad (fr_pad (fr_pad (fr_pad F11 (Str.ofString "ring") rfl) (Str.ofString "many") rfl) (Str.ofString "places") rfl) (Str.ofString "mark") rfl) (Str.ofString "size") rfl) N11

/-- the same, by recursion -/
noncomputable def insR : List Int → Int → List Int
  | [], x => [x]
  | a :: ps, x => if a < x then a :: insR ps x else x :: a :: ps
theorem cnt_zero {ps : List Int} {x : Int} (h : ∀ y ∈ ps, x ≤ y) : cntLt ps x = 0 := by
  unfold cntLt
  rw [List.filter_eq_nil_iff.mpr]
  · rfl
  · intro y hy
    have := h y hy
    simp; omega
theorem insSorted_eq {ps : List Int} {x : Int} (h : ps.Pairwise (· ≤ ·)) : insSorted ps x = insR ps x := by
  induction ps with
  | nil => rfl
  | cons a ps ih =>
    have h2 := List.pairwise_cons.mp h
    unfold insR
    by_cases ha : a < x
    · rw [if_pos ha, ← ih h2.2]
      have e : cntLt (a :: ps) x = cntLt ps x + 1 := by
        unfold cntLt
        rw [List.filter_cons_of_pos (by simpa using ha)]
        simp
      have h3 := (cntLt_le ps x).1
      unfold insSorted
      rw [e, Int.toNat_add h3 (by decide)]
      simp
    · rw [if_neg ha]
      have e : cntLt (a :: ps) x = 0 := cnt_zero fun y hy => by
        rcases List.mem_cons.mp hy with rfl | hy
        · omega
        · have := h2.1 y hy; omega
      unfold insSorted
      rw [e]; rfl
theorem insR_mem {ps : List Int} {x y : Int} : y ∈ insR ps x ↔ y = x ∨ y ∈ ps := by
  induction ps with
  | nil => simp [insR]
  | cons a ps ih =>
    unfold insR
    split
    · simp [ih]; grind
    · simp
theorem insR_pairwise {ps : List Int} {x : Int} (h : ps.Pairwise (· ≤ ·)) : (insR ps x).Pairwise (· ≤ ·) := by
  induction ps with
  | nil => simp [insR]
  | cons a ps ih =>
    have h2 := List.pairwise_cons.mp h
    unfold insR
    split
    · refine List.pairwise_cons.mpr ⟨fun y hy => ?_, ih h2.2⟩
      rcases insR_mem.mp hy with rfl | hy
      · omega
      · exact h2.1 y hy
    · refine List.pairwise_cons.mpr ⟨fun y hy => ?_, h⟩
      rcases List.mem_cons.mp hy with rfl | hy
      · omega
      · have := h2.1 y hy; omega
theorem ins_pairwise {ps : List Int} {x : Int} (h : ps.Pairwise (· ≤ ·)) : (insSorted ps x).Pairwise (· ≤ ·) := by
  rw [insSorted_eq h]
  exact insR_pairwise h
theorem ins_length {ps : List Int} {x : Int} : (insSorted ps x).length = ps.length + 1 := by
  have hc := toNat_len (cntLt_le ps x).2
  unfold insSorted
  rw [List.length_append, List.length_take, List.length_cons, List.length_drop, Nat.min_eq_left hc, ← Nat.add_assoc, Nat.add_sub_cancel' hc]
theorem bare_set {a : Array GenState} {g : Nat} {y : GenState} (h : AllBare a) (hy : y.bare = true) : AllBare (a.setIfInBounds g y) := fun z hz => by
  rcases Array.mem_or_eq_of_mem_setIfInBounds hz with h1 | h1
  · exact h z h1
  · rw [h1]; exact hy
theorem gens_set {a : Array GenState} {g : Nat} {x y : GenState} (h : a[g]? = some x) : (a.setIfInBounds g y)[g]? = some y := by
  have hg : g < a.size := by
    rcases Nat.lt_or_ge g a.size with h1 | h1
    · exact h1
    · rw [Array.getElem?_eq_none h1] at h; cases h
  rw [Array.getElem?_setIfInBounds]; simp [hg]

theorem perm1 {α : Type} {a b c d r : α} {rest : List α} (h : r ∈ rest) : ∀ q ∈ a :: b :: r :: c :: d :: rest, q ∈ d :: a :: b :: c :: rest := by
  intro q hq
  simp only [List.mem_cons] at hq ⊢
  rcases hq with rfl | rfl | rfl | rfl | rfl | hq <;> simp [*]
theorem perm2 {α : Type} {a b c d r : α} {rest : List α} : ∀ q ∈ d :: a :: b :: c :: rest, q ∈ a :: b :: r :: c :: d :: rest := by
  intro q hq
  simp only [List.mem_cons] at hq ⊢
  rcases hq with rfl | rfl | rfl | rfl | hq <;> simp [*]
theorem perm3 {α : Type} {a c d r : α} {rest : List α} : ∀ q ∈ d :: rest, q ∈ a :: r :: c :: d :: rest := by
  intro q hq
  simp only [List.mem_cons] at hq ⊢
  rcases hq with rfl | hq <;> simp [*]
theorem perm4 {α : Type} {a b c d : α} {rest : List α} : ∀ q ∈ d :: rest, q ∈ d :: a :: b :: c :: rest := by
  intro q hq
  simp only [List.mem_cons] at hq ⊢
  rcases hq with rfl | hq <;> simp [*]
theorem perm5 {α : Type} {a c d r : α} {rest : List α} (h : r ∈ rest) : ∀ q ∈ a :: r :: c :: d :: rest, q ∈ c :: a :: d :: rest := by
  intro q hq
  simp only [List.mem_cons] at hq ⊢
  rcases hq with rfl | rfl | rfl | rfl | hq <;> simp [*]
theorem Tb2.re {oA ocA oB ocB : Obj} {cA cB : Addr} {news : List (Addr × Obj)} {g : Obj → Addr → Obj → Obj → Addr → Obj → List (Addr × Obj)} (U : Tb2 oA cA ocA oB cB ocB news g) {a c d f : Obj} {b e : Addr} (_ : b ≠ 37) (_ : e ≠ 30) : Tb2 a b c d e f (g a b c d e f) g := by
  induction U with
  | base hr => exact .base hr
  | cons he _ ih => exact .cons he ih
theorem places_loop {w : World} {many ring r0 r1 r2 : Int} {tm tr t0 t1 t2 : Tok} {D Lg It Gn L' Rw : Addr} {nR gi : Nat} {oGn : Obj} {rest : List (Addr × Obj)} {oA ocA oB ocB : Obj} {cA cB : Addr} {g : Obj → Addr → Obj → Obj → Addr → Obj → List (Addr × Obj)}
    {name qual : Str} {params : Arguments} {scope : Scope} {dV kV doc pm cdv ct oc : Value} {an od : Option Addr} {osl : Array (Option Value)} {st0 st1 st3 : Stmt} {target iter : PySem.Expr} {fbody orelse : List Stmt} {fpos : Pos}
    {p : Program} {loose : List Str} {mean : ExcName → Option Value} {mg mb : Str → Option Value} {dp un : Nat} {gd : Option (List Code)} {cn : Str} {cs : Scope} {fa : Addr} {ccd : Value} {cl : List (Str × Addr)} {outer : List Env} {base g' : Heap} {L : Addr} {Q : Flow → Shared → Prop} {E : Value → Shared → Prop}
    (ho : (hd.heap_39 w.params).lookup 104 = some ⟨oc, od, .func (fnOf name qual params [st0, st1, .For target iter fbody orelse fpos, st3] scope dV kV doc pm an cdv ct), osl⟩) (hoe : orelse = []) (hlet : ∀ v, letOwnedTupleGo target (.ref Gn) v = pure ())
    (B' : Below (ktrTop dp un gd cn cs L fa ccd cl outer) base (envX cn cs L fa ccd cl :: outer) g') (X' : (hd.heap_39 w.params).In g') (T' : Top p loose mean mg mb g')
    (U : Tb2 oA cA ocA oB cB ocB rest g) (hTA : TabF 30 32 4 q30 oA cA ocA) (hTB : TabF 37 47 4 q37 oB cB ocB) (hcA : cA ≠ 37) (hcB : cB ≠ 30)
    (hRw : (Rw, rowO r0 t0 r1 t1 r2 t2 nR) ∈ rest) (hrD : ∀ q ∈ rest, q.1 < D) (hDL : @LT.lt Nat _ D Lg) (hLG : @LT.lt Nat _ Lg Gn) (hGI : @LT.lt Nat _ Gn It) (hLL : @LT.lt Nat _ L' Lg) (hoGn : GenO oGn gi) (hr : 4 ≤ ring ∧ ring ≤ 12) (hm5 : many ≤ 5) (hdp : dp + 409 < recursionLimit) (hun : un + 4090 < cLine) :
    ∀ (k : Nat) (s : Shared) (mk : Int) (tmk : Tok) (n : Nat) (vs : List Value) (ps : List Int) (st : Nat → Option Int) (gs : GenState) (oG oI : Obj) (x : Option Value) (m0 : Str → Option Value),
      GenOK w Lg It Rw (rowO r0 t0 r1 t1 r2 t2 nR) (k + 2) st gs oG oI → (∀ n v, st n = some v → 1 ≤ v ∧ v ≤ 6) → IntsAre vs ps → ps.Pairwise (· ≤ ·) → (ps.length : Int) + k = many → -20 ≤ mk → mk + 6 * k ≤ 44 → s.gens[gi]? = some gs →
      Fr g' L' s.heap (plM x mk tmk D many tm ring tr m0) → News g' L' s.heap ((D, listOf vs.toArray n) :: (Lg, oG) :: (It, oI) :: (Gn, oGn) :: rest) →
      (∀ (n' : Nat) (vs' : List Value) (gens' : Array GenState) (m' : Str → Option Value) (h' : Heap) (tk' : Nat), IntsAre vs' (runP ring k mk ps st) → (AllBare s.gens → AllBare gens') → Fr g' L' h' (fun y => if y = Str.ofString "places" then some (.ref D) else m' y) → News g' L' h' ((D, listOf vs'.toArray n') :: rest) → Q .next { s with heap := h', toks := tk', gens := gens' }) →
      ForRest lawProg w ((ktrTop dp un gd cn cs L fa ccd cl outer).deeper (envOf qual scope L' 104 cdv)) E (envOf qual scope L' 104 cdv) target (.ref Gn) fbody orelse Q s := by
  have hRD := hrD _ hRw
  have hn1 : ∀ (vs : List Value) (n : Nat) (oI : Obj), ∀ q ∈ (It, oI) :: (Rw, rowO r0 t0 r1 t1 r2 t2 nR) :: (Gn, oGn) :: (D, listOf vs.toArray n) :: rest, q.1 ≠ Lg := by
    intro vs n oI q hq
    rcases List.mem_cons.mp hq with rfl | hq
    · exact Nat.ne_of_gt (Nat.lt_trans hLG hGI)
    rcases List.mem_cons.mp hq with rfl | hq
    · exact Nat.ne_of_lt (Nat.lt_trans hRD hDL)
    rcases List.mem_cons.mp hq with rfl | hq
    · exact Nat.ne_of_gt hLG
    rcases List.mem_cons.mp hq with rfl | hq
    · exact Nat.ne_of_lt hDL
    · exact Nat.ne_of_lt (Nat.lt_trans (hrD q hq) hDL)
  have hn2 : ∀ (vs : List Value) (n : Nat), ∀ q ∈ (Rw, rowO r0 t0 r1 t1 r2 t2 nR) :: (Gn, oGn) :: (D, listOf vs.toArray n) :: rest, q.1 ≠ It := by
    intro vs n q hq
    have hDI := Nat.lt_trans (Nat.lt_trans hDL hLG) hGI
    rcases List.mem_cons.mp hq with rfl | hq
    · exact Nat.ne_of_lt (Nat.lt_trans hRD hDI)
    rcases List.mem_cons.mp hq with rfl | hq
    · exact Nat.ne_of_lt hGI
    rcases List.mem_cons.mp hq with rfl | hq
    · exact Nat.ne_of_lt hDI
    · exact Nat.ne_of_lt (Nat.lt_trans (hrD q hq) hDI)
  subst hoe
  intro k
  induction k with
  | zero =>
    intro s mk tmk n vs ps st gs oG oI x m0 hG hst hi hso hk h1 h2 hgs F N hQ
    refine for_turn hlet ?_
    refine grp_next (k := 1) (news := (D, listOf vs.toArray n) :: rest) rfl F X' (news_sub N (perm1 hRw)) T' (by ktr_room) (hn1 _ _ _) (hn2 _ _) hLL hoGn hgs hG ?_
    cases h0 : st 0 with
    | none =>
      dsimp only
      intro h' tk' oG' F' N'
      refine wpAny_execs_nil ?_
      exact hQ n vs _ _ h' tk' hi (fun hb => bare_set hb rfl) (fr_pad F' (Str.ofString "places") rfl) (news_sub N' perm3)
    | some v =>
      dsimp only
      intro t h' tk' gs' oG' oI' hG' F' N'
      have hv := hst 0 v h0
      refine places_body (n := n) (vs := vs) (ps := ps) ho B' F' X' (news_sub N' perm2) T' U hTA hTB hcA hcB hrD hDL hLG hGI hi hso (by omega) (by omega) hr hdp hun ?_ ?_
      · intro _ m' h'' tk'' F'' N''
        exact hQ n vs _ _ h'' tk'' hi (fun hb => bare_set hb hG'.1) F'' (news_sub N'' perm4)
      · intro hne; exfalso; omega
  | succ k ih =>
    intro s mk tmk n vs ps st gs oG oI x m0 hG hst hi hso hk h1 h2 hgs F N hQ
    refine for_turn hlet ?_
    refine grp_next (k := k + 2) (news := (D, listOf vs.toArray n) :: rest) rfl F X' (news_sub N (perm1 hRw)) T' (by ktr_room) (hn1 _ _ _) (hn2 _ _) hLL hoGn hgs hG ?_
    cases h0 : st 0 with
    | none =>
      dsimp only
      intro h' tk' oG' F' N'
      refine wpAny_execs_nil ?_
      exact hQ n vs _ _ h' tk' (by unfold runP; rw [h0]; exact hi) (fun hb => bare_set hb rfl) (fr_pad F' (Str.ofString "places") rfl) (news_sub N' perm3)
    | some v =>
      dsimp only
      intro t h' tk' gs' oG' oI' hG' F' N'
      have hv := hst 0 v h0
      refine places_body (n := n) (vs := vs) (ps := ps) ho B' F' X' (news_sub N' perm2) T' U hTA hTB hcA hcB hrD hDL hLG hGI hi hso (by omega) (by omega) hr hdp hun ?_ ?_
      · intro he; exfalso; omega
      · intro _ n' vs' x' tmk' m' h'' tk'' hi' F'' N''
        refine ih _ (mk + v) tmk' n' vs' (insSorted ps ((mk + v) % ring)) (fun n => st (n + 1)) gs' oG' oI' x' m' hG' (fun n v h => hst (n + 1) v h) hi' (ins_pairwise hso) (by rw [ins_length]; push_cast; omega) (by omega) (by push_cast at h2; omega) (gens_set hgs) F'' N'' ?_
        intro n3 vs3 gens3 m3 h3 tk3 hi3 hb3 F3 N3
        exact hQ n3 vs3 gens3 m3 h3 tk3 (by unfold runP; rw [h0]; exact hi3) (fun hb => hb3 (bare_set hb hG'.1)) F3 N3

theorem places_spec {w : World} {start many ring r0 r1 r2 : Int} {ts tm tr t0 t1 t2 : Tok} {Rw : Addr} {nR : Nat} {news : List (Addr × Obj)} {oA ocA oB ocB : Obj} {cA cB : Addr} {g : Obj → Addr → Obj → Obj → Addr → Obj → List (Addr × Obj)}
    {p : Program} {loose : List Str} {mean : ExcName → Option Value} {mg mb : Str → Option Value} {dp un : Nat} {gd : Option (List Code)} {cn : Str} {cs : Scope} {fa : Addr} {ccd : Value} {cl : List (Str × Addr)} {outer : List Env} {A₀ : Around} {base h₀ : Heap} {L : Addr} {m : Str → Option Value} {s : Shared} {Q E : Value → Shared → Prop}
    (B : Below A₀ base outer h₀) (F : Fr h₀ L s.heap m) (X : (hd.heap_39 w.params).In h₀) (N : News h₀ L s.heap news) (T : Top p loose mean mg mb h₀) (hk : cs.kind = .function)
    (U : Tb2 oA cA ocA oB cB ocB news g) (hTA : TabP 30 32 4 q30 oA cA ocA) (hTB : TabP 37 47 4 q37 oB cB ocB) (hcA : cA ≠ 37) (hcB : cB ≠ 30)
    (hRw : ∀ oA cA ocA oB cB ocB, (Rw, rowO r0 t0 r1 t1 r2 t2 nR) ∈ g oA cA ocA oB cB ocB) (hr0 : 1 ≤ r0 ∧ r0 ≤ 6) (hst : ∀ n v, stream r0 r1 r2 n = some v → 1 ≤ v ∧ v ≤ 6) (hs : -20 ≤ start ∧ start ≤ 20) (hm : 2 ≤ many ∧ many ≤ 5) (hr : 4 ≤ ring ∧ ring ≤ 12) (hdp : dp + 410 < recursionLimit) (hun : un + 4100 < cLine)
    (hret : (∀ (D : Addr) (n' : Nat) (vs' : List Value) (gens' : Array GenState) (oA' : Obj) (cA' : Addr) (ocA' : Obj) (oB' : Obj) (cB' : Addr) (ocB' : Obj) (h' : Heap) (tk' : Nat), IntsAre vs' (runP ring (many - 1).toNat start [start % ring] (stream r0 r1 r2)) → (AllBare s.gens → AllBare gens') → TabF 30 32 4 q30 oA' cA' ocA' → TabF 37 47 4 q37 oB' cB' ocB' → (TabF 30 32 4 q30 oA cA ocA → oA' = oA ∧ cA' = cA ∧ ocA' = ocA) → (TabF 37 47 4 q37 oB cB ocB → oB' = oB ∧ cB' = cB ∧ ocB' = ocB) → cA' ≠ 37 → cB' ≠ 30 → (cA' = cA ∨ ∀ p ∈ news, p.1 < cA') → (cB' = cB ∨ ∀ p ∈ news, p.1 < cB') → AllLt D (g oA' cA' ocA' oB' cB' ocB') → Fr h₀ L h' m → News h₀ L h' ((D, listOf vs'.toArray n') :: g oA' cA' ocA' oB' cB' ocB') → Q (.ref D) { s with heap := h', toks := tk', gens := gens' })) :
      wpAny (model Challenge.rw_rs0150_01.row.prog w) (ktrTop dp un gd cn cs L fa ccd cl outer) (call (.ref 104) [.int start ts, .ref Rw, .int many tm, .int ring tr]) Q E s := by
  have h64 := bits64 hr.1
  have hp2 : ring < 2 ^ 200 := Int.lt_of_le_of_lt hr.2 (by decide)
  (k_with "exec For Name Call cons nil" => (with_unfolding_all refine' for_start ?_ ?hs; (case hs => exact fun _ => rfl); k_whole))
  refine wpAny_call ?_
  k_dflt (refine' code_def ?k1 ?k2 ?k3 ?k4 ?k5 ?kA ?kF ?kK ?k6 ?k7 ?k8 ?k9 ?kB ?_ ?c2 ?c3 ?c4 ?c5; (case kA => exact rfl); (case kF => exact rfl); (case kK => assumption); (case k1 => k_asm); (case k2 => k_asm); (case k3 => k_asm); (case k4 => k_asm); (case k5 => k_asm); (case k6 => k_is); (case k7 => k_is); (case k8 => ktr_room); (case k9 => exact BindsTo.of_eq rfl); (case c5 => decide); (case kB => exact locs rfl); (case c2 => exact rfl); (case c3 => exact rfl); (case c4 => exact rfl); k_whole; intro g' L' h' FG' F' N' B' X' T'; (try dsimp only); (try k_lift B'); (try k_fold))
  refine gen_toks fun tk0 => ?_
  k_steps
  k_dflt (refine' idm_any ?k1 ?k2 ?k3 ?k4 ?k5 ?kK ?U ?hTA ?hTB ?hcA ?hcB ?a2 ?a3 ?a4 ?a5 ?hd ?hu ?_; (case k1 => k_asm); (case k2 => k_asm); (case k3 => k_asm); (case k4 => k_asm); (case k5 => k_asm); (case kK => exact rfl); (case U => assumption); (case hTA => assumption); (case hTB => assumption); (case hcA => assumption); (case hcB => assumption); (case a2 => omega); (case a3 => omega); (case a4 => omega); (case a5 => omega); (case hd => ktr_room); (case hu => ktr_units)); intro q9 tx9 ty9 oA9 cA9 ocA9 oB9 cB9 ocB9 h9 tk9 hA9 hB9 sA9 sB9 hcA9 hcB9 fA9 fB9 lq9 F9 N9; (try dsimp only)
  k_steps
  rename_i D h8 lD h7 FF NN
  have ho := (show (hd.heap_39 w.params).lookup 104 = some _ by k_is)
  have NN2 := news_sub NN (show ∀ q ∈ (D, listOf [Value.int (start % ring) ty9].toArray 0) :: g oA9 cA9 ocA9 oB9 cB9 ocB9, q ∈ (D, listOf [Value.int (start % ring) ty9].toArray 0) :: (q9, tup2 (start / ring) tx9 (start % ring) ty9) :: g oA9 cA9 ocA9 oB9 cB9 ocB9 from fun q hq => by
    rcases List.mem_cons.mp hq with rfl | hq
    · exact .head _
    · exact .tail _ (.tail _ hq))
  have U9 : Tb2 oA9 cA9 ocA9 oB9 cB9 ocB9 (g oA9 cA9 ocA9 oB9 cB9 ocB9) g := U.re hcA9 hcB9
  have lD2 := allLt_mem lD.2
  refine grp_call FF X' NN2 T' (by ktr_room) ?_
  intro Gn Lg oGn oL gs h1 tk1 hGn hfr hoL hltL hLgG hLLg F1 N1
  refine wpAny_pyIter_gen (hGn.is (N1 _ (.head _)).1) ?_
  have hDL := hltL (D, _) (.head _)
  have hRD := lD2 _ (hRw oA9 cA9 ocA9 oB9 cB9 ocB9)
  refine for_turn ?hlt ?_
  case hlt => exact fun _ => rfl
  refine grp_first (news := (D, listOf [Value.int (start % ring) ty9].toArray 0) :: g oA9 cA9 ocA9 oB9 cB9 ocB9) (g := s.gens.size) ((many - 2).toNat + 2) (by omega) (by omega) rfl F1 X' (news_sub N1 (perm5 (hRw oA9 cA9 ocA9 oB9 cB9 ocB9))) T' (by ktr_room) ?_ hLLg hGn (by simp) hfr hoL ?_
  · intro q hq
    rcases List.mem_cons.mp hq with rfl | hq
    · exact Nat.ne_of_lt (Nat.lt_trans hRD hDL)
    rcases List.mem_cons.mp hq with rfl | hq
    · exact Nat.ne_of_gt hLgG
    exact Nat.ne_of_lt (hltL q hq)
  intro t h2 tk2 gs2 It oG2 oI2 hG2 hItl F2 N2
  dsimp only
  have hGI := hItl (Gn, oGn) (.tail _ (.tail _ (.head _)))
  have hrun : runP ring (many - 1).toNat start [start % ring] (stream r0 r1 r2) = runP ring (many - 2).toNat (start + r0) (insSorted [start % ring] ((start + r0) % ring)) (fun n => stream r0 r1 r2 (n + 1)) := by
    rw [show (many - 1).toNat = (many - 2).toNat + 1 by rw [show many - 1 = (many - 2) + 1 by omega, Int.toNat_add (by omega) (by decide)]; rfl]; rfl
  have hso : [start % ring].Pairwise (· ≤ ·) := List.pairwise_singleton _ _
  refine places_body (s := { s with heap := h2, toks := tk2, gens := _ }) (n := 0) (vs := [Value.int (start % ring) ty9]) (ps := [start % ring]) ho B' (fr_pad (fr_pad (fr_pad (fr_pad (fr_pad F2 (Str.ofString "ring") rfl) (Str.ofString "many") rfl) (Str.ofString "places") rfl) (Str.ofString "mark") rfl) (Str.ofString "size") rfl) X' (news_sub N2 perm2) T' U9 hA9 hB9 hcA9 hcB9 lD2 hDL hLgG hGI (.cons _ _ .nil) hso (by simp) (by omega) hr (by omega) (by omega) ?_ ?_
  · intro he; exfalso; simp at he; omega
  · intro _ n' vs' x' tmk' m' h'' tk'' hi' F'' N''
    refine places_loop (r0 := r0) (r1 := r1) (r2 := r2) (Rw := Rw) ho rfl (fun _ => rfl) B' X' T' U9 hA9 hB9 hcA9 hcB9 (hRw oA9 cA9 ocA9 oB9 cB9 ocB9) lD2 hDL hLgG hGI hLLg hGn hr hm.2 (by omega) (by omega) (many - 2).toNat _ (start + r0) tmk' n' vs' (insSorted [start % ring] ((start + r0) % ring)) (fun n => stream r0 r1 r2 (n + 1)) gs2 oG2 oI2 x' m' hG2 (fun n v h => hst (n + 1) v h) hi' (ins_pairwise hso) (by rw [ins_length]; show ((1 + 1 : Nat) : Int) + _ = _; omega) (by omega) (by omega) (gens_set (by simp; rfl)) F'' N'' ?_
    intro n3 vs3 gens3 m3 h3 tk3 hi3 hb3 F3 N3
    k_steps
    refine hret D n3 vs3 gens3 oA9 cA9 ocA9 oB9 cB9 ocB9 h3 tk3 (by rw [hrun]; exact hi3) (fun hb => hb3 (bare_set (AllBare.push hb ?_) hG2.1)) hA9 hB9 sA9 sB9 hcA9 hcB9 fA9 fB9 lD.2 (by assumption) (by assumption)
    obtain ⟨_, _, _, _, _, _, _, _, _, _, _, _, _, _, _, _, rfl⟩ := hfr
    rfl
end Mine
end PartPla

section PartLaw0
open PySem PySem.Spec PySem.Calls PySem.W PyProof.Rows
set_option Elab.async false
set_option maxRecDepth 100000
set_option maxHeartbeats 8000000
namespace Mine
/-- the end of the law: True, what was there is there, the generators hold no cleanup -/
noncomputable def EndX (s₁ : Shared) (tabs : List (Addr × Addr)) (r : Result) (s' : Shared) : Prop :=
  r = .ok (.ret (.bool true)) ∧ (∀ b o, (ghostOf s₁.heap tabs).get? b = some o → s'.heap.get? b = some o) ∧ s'.os = s₁.os ∧ AllBare s'.gens ∧ GrownAll tabs s'.heap
theorem kn_postG {M : Model} {A : Around} {cd : Code} {s s₁ : Shared} {cw : ClaimW} {cl : Str → Option Addr} {mean : ExcName → Option Value} {args : List WData} {tabs : List (Addr × Addr)} (hT : TabsAt tabs s₁.heap) (hr : ∀ a x, cw.raises a x = false) (hp : cw.post args (.bool true) args = true)
    (h : codeAny M A cd (EndX s₁ tabs) s) : codeAny M A cd (GoodWG cw cl mean args s₁) s :=
  codeAny_mono h fun r s' ⟨hc, hk, hos, hg, hgr⟩ => by
    have keep : ∀ b o, b ∉ tabs.map (·.2) → s₁.heap.get? b = some o → s'.heap.get? b = some o := fun b o hb e => hk b o (ghost_ne e hb)
    have grown : ∀ b o, b ∈ tabs.map (·.2) → s₁.heap.get? b = some o → isCodeTable s₁.heap b ∧ o = tabObj #[] ∧ ∃ ps, s'.heap.get? b = some (tabObj ps) := fun b o hb e => by
      obtain ⟨q, hq, rfl⟩ := List.mem_map.mp hb
      have e2 := (hT q hq).2
      rw [e] at e2
      exact ⟨((hT q hq).1.tab (hT q hq).2).isCodeTable, Option.some.inj e2, hgr.get q hq⟩
    refine ⟨.inl ⟨.bool true, .bool true, [], hc, fun _ => hr _ _, .bool true, hp, fun _ => ⟨List.nodup_nil, fun _ h => by cases h⟩⟩, ⟨fun b o e => ?_, fun b o e => ?_⟩, hos, hg⟩
    · by_cases hb : b ∈ tabs.map (·.2)
      · obtain ⟨ht, rfl, ps, hP⟩ := grown b o hb e
        exact .inr (.inl ⟨ht, rfl, #[], ps, rfl, by rw [Array.empty_append]; exact hP⟩)
      · exact .inl (keep b o hb e)
    · by_cases hb : b ∈ tabs.map (·.2)
      · obtain ⟨_, _, ps, hP⟩ := grown b o hb e
        exact ⟨_, hP⟩
      · exact ⟨o, keep b o hb e⟩

end Mine
end PartLaw0

section PartLaw1
open PySem PySem.Spec PySem.Calls PySem.W PyProof.Rows
set_option Elab.async false
set_option maxRecDepth 100000
set_option maxHeartbeats 8000000
namespace Mine
/-- the walk's lines are looked up afresh from here on -/
theorem syncLaw1 {M : Model} {A : Around} {E : Value → Shared → Prop} {s : Shared} {env : Env} {Q : Flow → Shared → Prop} (h : Q .next s) : wpAny M A (execs [] env) Q E s := by
  w_top off
  first | (walk1; exact h) | exact wpAny_execs_nil h

section
variable {prog : Program} {w : World} {A : Around} {E : Value → Shared → Prop} {s : Shared} {env : Env} {target : PySem.Expr} {it : Value} {body orelse : List Stmt} {Q : Flow → Shared → Prop}
theorem for_turn2
    (h : wpAny (model prog w) A (pyNext it) (fun o s₁ => match o with
      | none => wpAny (model prog w) A (execs orelse env) Q (fun _ _ => False) s₁
      | some v => wpAny (model prog w) A (letOwnedTupleGo target it v) (fun _ s₁' => wpAny (model prog w) A (assign target env v) (fun _ s₂ => wpAny (model prog w) A (execs body env) (ForPost prog w A E env target it body orelse Q) (fun _ _ => False) s₂) (fun _ _ => False) s₁') (fun _ _ => False) s₁) (fun _ _ => False) s) :
    ForRest prog w A E env target it body orelse Q s := by
  refine codeAny_of_tree ?_
  show wpAny _ A ((forTurn target it body orelse env).onRaise (fun x => do noteFrame x env; theTreesLotGoes x)) _ _ s
  refine wpAny_noted ?_
  simp only [forTurn]
  refine wpAny_bind (wpAny_standAt (wpAny_bind (wpAny_onRaise (wpAny_mono h (fun o s₁ h₁ => ?_) fun _ _ x => x.elim))))
  cases o with
  | none => exact wpAny_pure ⟨rfl, codeAny_block (wpAny_mono h₁ (fun _ _ x => x) fun _ _ x => x.elim)⟩
  | some v =>
    refine wpAny_bind (wpAny_mono h₁ (fun _ s₁' h₁' => ?_) fun _ _ x => x.elim)
    refine wpAny_bind (wpAny_mono h₁' (fun _ s₂ h₂ => wpAny_bind (wpAny_mono h₂ (fun f s₃ h₃ => ?_) fun _ _ x => x.elim)) fun _ _ x => x.elim)
    cases f with
    | next => exact wpAny_pure ⟨rfl, h₃⟩
    | cont => exact wpAny_pure ⟨rfl, h₃⟩
    | brk => exact wpAny_pure h₃
    | ret v => exact wpAny_pure h₃
end

noncomputable abbrev enumO (it : Addr) (i : Int) (old : Value) : Obj := { cls := .type "enumerate", dict := none, data := .fields #[.none, .bool false, .ref it, rawInt i, .none, old], slots := #[] }
noncomputable abbrev enumOut (it : Addr) (i : Int) (old : Value) (a : Addr) : Obj := { cls := .type "enumerate", dict := none, data := .fields #[rawInt a, .bool false, .ref it, rawInt i, .none, old], slots := #[] }
noncomputable def IterO (o : Obj) (l : Addr) (i : Nat) : Prop := o.cls = .type "list_iterator" ∧ o.data = .fields #[.ref l, .int i 0]

section
variable {w : World} {A : Around} {E : Value → Shared → Prop} {s : Shared} {h₀ : Heap} {L : Addr} {m : Str → Option Value} {news : List (Addr × Obj)} {Ev It Lk : Addr} {oI : Obj} {i n : Nat} {old : Value} {vs : List Value}
theorem enum_call {Q : Value → Shared → Prop} (F : Fr h₀ L s.heap m) (N : News h₀ L s.heap news) (hm : (Lk, listOf vs.toArray n) ∈ news)
    (h : ∀ (Ev It : Addr) (oI : Obj) (h' : Heap), IterO oI Lk 0 → (∀ q ∈ news, q.1 < It) → @LT.lt Nat _ It Ev → Fr h₀ L h' m → News h₀ L h' ((Ev, enumO It 0 .none) :: (It, oI) :: news) → Q (.ref Ev) { s with heap := h' }) :
    wpAny (model lawProg w) A (call (.type "enumerate") [.ref Lk]) Q E s := by
  refine call_enumerate_list (items := vs.toArray) (News.isList N hm) fun h' he hit hsz hk => ?_
  have hL := Heap.lt_size (nsO_of F.ns).choose_spec.1
  obtain ⟨oI, hoI, hI⟩ := hit
  have F' : Fr h₀ L h' m := ⟨F.ns.keeps hk, fun b o e => hk b o (F.keep b o e), F.above⟩
  refine h _ _ oI h' hI (fun q hq => Heap.lt_size (N q hq).1) (Nat.lt_succ_self _) F' ?_
  intro q hq
  rcases List.mem_cons.mp hq with rfl | hq
  · exact ⟨he, Nat.ne_of_gt (Nat.lt_succ_of_lt hL), Heap.get?_none_of_le (Nat.le_trans F.above (Nat.le_of_lt (Nat.lt_succ_of_lt hL)))⟩
  rcases List.mem_cons.mp hq with rfl | hq
  · exact ⟨hoI, Nat.ne_of_gt hL, Heap.get?_none_of_le (Nat.le_trans F.above (Nat.le_of_lt hL))⟩
  · exact ⟨hk _ _ (N q hq).1, (N q hq).2⟩
theorem enum_next {Q : Option Value → Shared → Prop} {x : Value} (F : Fr h₀ L s.heap m) (N : News h₀ L s.heap ((Ev, enumO It i old) :: (It, oI) :: news)) (hm : (Lk, listOf vs.toArray n) ∈ news) (hI : IterO oI Lk i) (hlt : ∀ q ∈ news, q.1 < It) (hIE : @LT.lt Nat _ It Ev) (hx : vs[i]? = some x)
    (h : ∀ (Tp : Addr) (tk : Tok) (oI' : Obj) (h' : Heap) (tk' : Nat), IterO oI' Lk (i + 1) → (∀ q ∈ (Ev, enumO It i old) :: (It, oI) :: news, q.1 < Tp) → Fr h₀ L h' m → News h₀ L h' ((Tp, { cls := .type "tuple", data := .seq #[.int i tk, x] }) :: (Ev, enumOut It (i + 1) x Tp) :: (It, oI') :: news) → Q (some (.ref Tp)) { s with heap := h', toks := tk' }) :
    wpAny (model lawProg w) A (pyNext (.ref Ev)) Q E s := by
  have hEv := N (Ev, enumO It i old) (.head _)
  have hIt := N (It, oI) (.tail _ (.head _))
  have hsz : ∀ q ∈ (Ev, enumO It i old) :: (It, oI) :: news, q.1 < s.heap.objs.size := fun q hq => Heap.lt_size (N q hq).1
  have hL := Heap.lt_size (nsO_of F.ns).choose_spec.1
  refine wpAny_pyNext_enum_item (items := vs.toArray) (x := x) hEv.1 ⟨oI, hIt.1, hI⟩ (News.isList N (.tail _ (.tail _ hm))) (by simpa using hx) (Nat.ne_of_gt hIE) fun h' he hit ht hz hk => ?_
  obtain ⟨oI', hoI', hI'⟩ := hit
  have F' : Fr h₀ L h' m := ⟨F.ns.at' fun o e => hk _ o (Ne.symm hEv.2.1) (Ne.symm hIt.2.1) e, fun b o e => hk b o (fun hb => by rw [hb, hEv.2.2] at e; cases e) (fun hb => by rw [hb, hIt.2.2] at e; cases e) (F.keep b o e), F.above⟩
  refine h s.heap.objs.size s.toks oI' h' _ hI' hsz F' ?_
  intro q hq
  rcases List.mem_cons.mp hq with rfl | hq
  · exact ⟨ht, Nat.ne_of_gt hL, Heap.get?_none_of_le (Nat.le_trans F.above (Nat.le_of_lt hL))⟩
  rcases List.mem_cons.mp hq with rfl | hq
  · exact ⟨he, hEv.2⟩
  rcases List.mem_cons.mp hq with rfl | hq
  · exact ⟨hoI', hIt.2⟩
  · have y := N q (.tail _ (.tail _ hq))
    exact ⟨hk _ _ (Nat.ne_of_lt (Nat.lt_trans (hlt q hq) hIE)) (Nat.ne_of_lt (hlt q hq)) y.1, y.2⟩
theorem enum_end {Q : Option Value → Shared → Prop} (hh : A.handled = none) (F : Fr h₀ L s.heap m) (N : News h₀ L s.heap ((Ev, enumO It i old) :: (It, oI) :: news)) (hm : (Lk, listOf vs.toArray n) ∈ news) (hI : IterO oI Lk i) (hlt : ∀ q ∈ news, q.1 < It) (hIE : @LT.lt Nat _ It Ev) (hx : vs[i]? = none)
    (h : ∀ (h' : Heap), Fr h₀ L h' m → News h₀ L h' news → Q none { s with heap := h' }) :
    wpAny (model lawProg w) A (pyNext (.ref Ev)) Q E s := by
  have hEv := N (Ev, enumO It i old) (.head _)
  have hIt := N (It, oI) (.tail _ (.head _))
  refine wpAny_pyNext_enum_end (items := vs.toArray) hh hEv.1 ⟨oI, hIt.1, hI⟩ (News.isList N (.tail _ (.tail _ hm))) (by simpa using hx) fun h' hx => ?_
  obtain ⟨F', N'⟩ := ext_it F (news_drop N) (fun q hq => Nat.ne_of_lt (hlt q hq)) hx
  exact h h' F' N'
theorem enum_go {Q : Unit → Shared → Prop} {elts : List PySem.Expr} {x1} {pos : Pos} {Tp : Addr} {oT : Obj} {k : Int} {x : Value} (F : Fr h₀ L s.heap m) (N : News h₀ L s.heap ((Tp, oT) :: (Ev, enumOut It k x Tp) :: news)) (hlt : ∀ q ∈ news, q.1 < Ev) (hT : @LT.lt Nat _ Ev Tp)
    (h : ∀ (h' : Heap), Fr h₀ L h' m → News h₀ L h' ((Tp, oT) :: (Ev, enumO It k x) :: news) → Q () { s with heap := h' }) :
    wpAny (model lawProg w) A (letOwnedTupleGo (.Tuple elts x1 pos) (.ref Ev) (.ref Tp)) Q E s := by
  have hEv := N (Ev, enumOut It k x Tp) (.tail _ (.head _))
  refine wpAny_letOwnedTupleGo_enum hEv.1 fun h' he hs => ?_
  have N1 : News h₀ L s.heap ((Ev, enumOut It k x Tp) :: (Tp, oT) :: news) := news_sub N (by intro q hq; simp only [List.mem_cons] at hq ⊢; rcases hq with rfl | rfl | hq <;> simp [*])
  obtain ⟨F', N'⟩ := turn_it F N1 (fun q hq => by
    rcases List.mem_cons.mp hq with rfl | hq
    · exact Nat.ne_of_gt hT
    · exact Nat.ne_of_lt (hlt q hq)) hs he
  exact h h' F' (news_sub N' (by intro q hq; simp only [List.mem_cons] at hq ⊢; rcases hq with rfl | rfl | hq <;> simp [*]))
end

noncomputable abbrev c3 (c0 : Int) (t0 : Tok) (c1 : Int) (t1 : Tok) (c2 : Int) (t2 : Tok) (n : Nat) : Obj := listOf [Value.int c0 t0, Value.int c1 t1, Value.int c2 t2].toArray n
noncomputable abbrev enM (xv kv : Option Value) (C : Addr) (m0 : Str → Option Value) : Str → Option Value :=
  fun y => if y = Str.ofString "x" then xv else if y = Str.ofString "k" then kv else if y = Str.ofString "cells" then some (.ref C) else m0 y

theorem enum_body {w : World} {C L fa : Addr} {n : Nat} {c0 c1 c2 x : Int} {t0 t1 t2 tx tk0 : Tok} {rest : List (Addr × Obj)} {xv kv : Option Value} {m0 : Str → Option Value} {i : Nat} {Tp Ev : Addr}
    {cd : Value}
    {p : Program} {loose : List Str} {mean : ExcName → Option Value} {mg mb : Str → Option Value} {base h₀ : Heap} {s : Shared} {Q : Flow → Shared → Prop} {E : Value → Shared → Prop}
    (B : Below callerA base [] h₀) (F : Fr h₀ L s.heap (enM xv kv C m0)) (X : (hd.heap_39 w.params).In h₀) (T : Top p loose mean mg mb h₀)
    (N : News h₀ L s.heap ((Tp, { cls := .type "tuple", data := .seq #[.int i tk0, .int x tx] }) :: (C, c3 c0 t0 c1 t1 c2 t2 n) :: rest)) (hC : ∀ q ∈ rest, q.1 ≠ C) (hCT : @LT.lt Nat _ C Tp)
    (hgo : ∀ (n' : Nat) (c0 c1 c2 : Int) (t0 t1 t2 : Tok) (xv kv : Option Value) (m' : Str → Option Value) (h' : Heap) (tk' : Nat), Fr h₀ L h' (enM xv kv C m') → News h₀ L h' ((C, c3 c0 t0 c1 t1 c2 t2 n') :: rest) →
      ForRest lawProg w (callerA.deeper (lawEnv w L fa cd)) E (lawEnv w L fa cd) (forT (lawS w 1)) (.ref Ev) (forB (lawS w 1)) [] Q { s with heap := h', toks := tk' }) :
    wpAny (model lawProg w) (callerA.deeper (lawEnv w L fa cd)) (assign (forT (lawS w 1)) (lawEnv w L fa cd) (.ref Tp)) (fun _ s₂ => wpAny (model lawProg w) (callerA.deeper (lawEnv w L fa cd)) (execs (forB (lawS w 1)) (lawEnv w L fa cd)) (ForPost lawProg w (callerA.deeper (lawEnv w L fa cd)) E (lawEnv w L fa cd) (forT (lawS w 1)) (.ref Ev) (forB (lawS w 1)) [] Q) (fun _ _ => False) s₂) (fun _ _ => False) s := by
  dsimp only [in8, rulS, lawS, lawB, lawQ, lawSc, lawEnv, forB, forT, forI, pkBody, pkQual, pkScope, nthS]
  have hT := N _ (.head _)
  refine wpAny_assign_Tuple (items := #[.int i tk0, .int x tx]) rfl ⟨_, hT.1, rfl, _, rfl⟩ (by rfl) (by rfl) fun h3 hx3 => ?_
  show wpAny _ _ (do holding [Value.int x tx] (assign (.Name _ _) _ (.int i tk0)); do holding [] (assign (.Name _ _) _ (.int x tx)); pure ()) _ _ _
  have F3 : Fr h₀ L h3 (enM xv kv C m0) := ⟨F.ns.at' fun o e => hx3 _ o (Nat.ne_of_lt (Heap.lt_size e)) e, fun b o e => hx3 b o (Nat.ne_of_lt (Heap.lt_size (F.keep b o e))) (F.keep b o e), F.above⟩
  have N3 : News h₀ L h3 ((C, c3 c0 t0 c1 t1 c2 t2 n) :: rest) := fun q hq => by
    have y := N q (.tail _ hq)
    exact ⟨hx3 _ _ (Nat.ne_of_lt (Heap.lt_size y.1)) y.1, y.2⟩
  clear F N
  refine wpAny_bind (wpAny_holding (wpAny_assign_Name ?_))
  k_steps
  refine wpAny_bind (wpAny_holding (wpAny_assign_Name ?_))
  k_steps
  refine wpAny_pure ?_
  k_steps
  rename_i h8 F8 N8 t8
  have hf : 0 ≤ (i : Int).fmod 3 ∧ (i : Int).fmod 3 < 3 := by rw [Int.fmod_eq_emod_of_nonneg _ (by decide)]; omega
  refine ksa_set (vs := [Value.int c0 t0, Value.int c1 t1, Value.int c2 t2]) (ns := [c0, c1, c2]) F8 N8 (Upd.head hC) (.cons _ _ (.cons _ _ (.cons _ _ .nil))) ?_ ?_ ?_ fun h9 F9 N9 _ _ _ => ?_
  · omega
  · show _ < (3 : Int); omega
  · omega
  · refine wpAny_execs_nil ?_
    have e3 : ((i : Int).fmod 3).toNat = 0 ∨ ((i : Int).fmod 3).toNat = 1 ∨ ((i : Int).fmod 3).toNat = 2 := (show ∀ k, k < 3 → k = 0 ∨ k = 1 ∨ k = 2 by decide) _ ((Int.toNat_lt hf.1).mpr hf.2)
    have F10 := fr_pad (fr_pad (fr_pad F9 (Str.ofString "cells") rfl) (Str.ofString "k") rfl) (Str.ofString "x") rfl
    rcases e3 with e | e | e
    · rw [e] at N9
      exact hgo n _ _ _ _ _ _ _ _ _ h9 _ F10 N9
    · rw [e] at N9
      exact hgo n _ _ _ _ _ _ _ _ _ h9 _ F10 N9
    · rw [e] at N9
      exact hgo n _ _ _ _ _ _ _ _ _ h9 _ F10 N9

theorem ints_at {vs : List Value} {ns : List Int} (h : IntsAre vs ns) : ∀ i, i < vs.length → ∃ x t, vs[i]? = some (.int x t) := by
  induction h with
  | nil => intro i hi; simp at hi
  | cons x t _ ih =>
    intro i hi
    cases i with
    | zero => exact ⟨x, t, rfl⟩
    | succ i => exact ih i (by simpa using hi)
theorem enum_loop {w : World} {C L fa Ev It Lk : Addr} {vs : List Value} {ns : List Int} {nK : Nat} {rest : List (Addr × Obj)}
    {cd : Value}
    {p : Program} {loose : List Str} {mean : ExcName → Option Value} {mg mb : Str → Option Value} {base h₀ : Heap} {Q : Flow → Shared → Prop} {E : Value → Shared → Prop}
    (B : Below callerA base [] h₀) (X : (hd.heap_39 w.params).In h₀) (T : Top p loose mean mg mb h₀)
    (hm : (Lk, listOf vs.toArray nK) ∈ rest) (hi : IntsAre vs ns) (hC : ∀ q ∈ rest, q.1 ≠ C) (hCI : @LT.lt Nat _ C It) (hrI : ∀ q ∈ rest, q.1 < It) (hIE : @LT.lt Nat _ It Ev) :
    ∀ (j : Nat) (i : Nat) (s : Shared) (n : Nat) (c0 c1 c2 : Int) (t0 t1 t2 : Tok) (xv kv : Option Value) (m0 : Str → Option Value) (oI : Obj) (old : Value), vs.length = i + j → IterO oI Lk i →
      Fr h₀ L s.heap (enM xv kv C m0) → News h₀ L s.heap ((C, c3 c0 t0 c1 t1 c2 t2 n) :: (Ev, enumO It i old) :: (It, oI) :: rest) →
      (∀ (n' : Nat) (c0 c1 c2 : Int) (t0 t1 t2 : Tok) (xv kv : Option Value) (m' : Str → Option Value) (h' : Heap) (tk' : Nat), Fr h₀ L h' (enM xv kv C m') → News h₀ L h' ((C, c3 c0 t0 c1 t1 c2 t2 n') :: rest) → Q .next { s with heap := h', toks := tk' }) →
      ForRest lawProg w (callerA.deeper (lawEnv w L fa cd)) E (lawEnv w L fa cd) (forT (lawS w 1)) (.ref Ev) (forB (lawS w 1)) [] Q s := by
  have pm1 : ∀ {α : Type} {a b c : α} {r : List α}, ∀ q ∈ b :: c :: a :: r, q ∈ a :: b :: c :: r := by
    intro α a b c r q hq
    simp only [List.mem_cons] at hq ⊢
    rcases hq with rfl | rfl | rfl | hq <;> simp [*]
  have pm2 : ∀ {α : Type} {a b c d : α} {r : List α}, ∀ q ∈ a :: d :: b :: c :: r, q ∈ a :: b :: c :: d :: r := by
    intro α a b c d r q hq
    simp only [List.mem_cons] at hq ⊢
    rcases hq with rfl | rfl | rfl | rfl | hq <;> simp [*]
  have hrI2 : ∀ (o : Obj), ∀ q ∈ (C, o) :: rest, q.1 < It := fun o q hq => by
    rcases List.mem_cons.mp hq with rfl | hq
    · exact hCI
    · exact hrI q hq
  intro j
  induction j with
  | zero =>
    intro i s n c0 c1 c2 t0 t1 t2 xv kv m0 oI old hl hI F N hQ
    refine for_turn2 ?_
    refine enum_end rfl F (news_sub N pm1) (.tail _ hm) hI (hrI2 _) hIE (by rw [List.getElem?_eq_none]; omega) fun h' F' N' => ?_
    exact wpAny_execs_nil (hQ n _ _ _ _ _ _ _ _ _ h' _ F' N')
  | succ j ih =>
    intro i s n c0 c1 c2 t0 t1 t2 xv kv m0 oI old hl hI F N hQ
    refine for_turn2 ?_
    have hlt : i < vs.length := by omega
    obtain ⟨x, tx, hx⟩ : ∃ x tx, vs[i]? = some (.int x tx) := by
      exact ints_at hi i hlt
    refine enum_next F (news_sub N pm1) (.tail _ hm) hI (hrI2 _) hIE hx fun Tp tk oI' h' tk' hI' hTp F' N' => ?_
    dsimp only
    refine enum_go F' N' ?_ (hTp _ (.head _)) fun h2 F2 N2 => ?_
    · intro q hq
      rcases List.mem_cons.mp hq with rfl | hq
      · exact hIE
      · exact Nat.lt_trans (hrI2 _ q hq) hIE
    refine enum_body (n := n) B F2 X T (news_sub N2 pm2) ?_ (hTp (C, c3 c0 t0 c1 t1 c2 t2 n) (by simp)) ?_
    · intro q hq
      rcases List.mem_cons.mp hq with rfl | hq
      · exact Nat.ne_of_gt (Nat.lt_trans hCI hIE)
      rcases List.mem_cons.mp hq with rfl | hq
      · exact Nat.ne_of_gt hCI
      · exact hC q hq
    · intro n' d0 d1 d2 u0 u1 u2 xv' kv' m' h3 tk3 F3 N3
      refine ih (i + 1) _ n' d0 d1 d2 u0 u1 u2 xv' kv' m' oI' _ (by omega) hI' F3 N3 ?_
      intro n4 e0 e1 e2 v0 v1 v2 xv4 kv4 m4 h4 tk4 F4 N4
      exact hQ n4 e0 e1 e2 v0 v1 v2 xv4 kv4 m4 h4 tk4 F4 N4
end Mine
end PartLaw1

section PartSub
open PySem PySem.Spec PySem.Calls PySem.W PyProof.Rows
set_option Elab.async false
set_option maxRecDepth 100000
set_option maxHeartbeats 8000000
namespace Mine
/-- a call whose callee sees a part of the ledger only: the rest stays as it is -/
theorem code_defS {prog : Program} {w : World} {A₀ A : Around} {s : Shared} {base h₀ : Heap} {outer : List Env} {L : Addr} {m : Str → Option Value} {env : Env} {news small : List (Addr × Obj)} {K : Frag} {p : Program} {loose : List Str} {mean : ExcName → Option Value} {mg mb : Str → Option Value}
    {R : Result → Shared → Prop} {name qual : Str} {params : Arguments} {body : List Stmt} {scope : Scope} {dV kV doc pm cdv ct oc : Value} {an od : Option Addr} {osl : Array (Option Value)} {f : Addr} {args : Args} {binds : List (Str × Value)}
    (B : Below A₀ base outer h₀) (F : Fr h₀ L s.heap m) (X₀ : K.In h₀) (N : News h₀ L s.heap news) (T : Top p loose mean mg mb h₀) (hsub : ∀ q ∈ small, q ∈ news) (hA : A.frames = some (env :: outer)) (hf : env.frame = some L) (hke : env.scope.kind = .function)
    (ho : K.lookup f = some ⟨oc, od, .func (fnOf name qual params body scope dV kV doc pm an cdv ct), osl⟩) (hcd : codeIn K cdv qual = true) (hroom : A.depth < recursionLimit)
    (hbind : BindsTo s (fnOf name qual params body scope dV kV doc pm an cdv ct) args binds) (hloc : ∀ y ∈ binds, scope.names.lookup y.1 = some .local)
    (h : ∀ g L' h₁, Fr h₀ L g m → Fr g L' h₁ (fun y => binds.reverse.lookup y) → News g L' h₁ small → Below A base (env :: outer) g → K.In g → Top p loose mean mg mb g → (∀ q ∈ news, q.1 < L') →
      wpAny (model prog w) (A.deeper (envOf qual scope L' f cdv)) (execs body (envOf qual scope L' f cdv))
        (fun fl s' => LeaveK h₀ L m g (fun r s' => (∀ q ∈ news, q.1 ∉ small.map (·.1) → s'.heap.get? q.1 = some q.2) → R r s') (match fl with | .ret v => v | _ => .none) s')
        (fun e s' => wpAny (model prog w) (A.deeper (envOf qual scope L' f cdv)) (leaving (envOf qual scope L' f cdv) e) (fun _ s'' => R (.error e) s'') (fun e' s'' => R (.error e') s'') s')
        { s with heap := h₁, toks := s.toks + binds.length })
    (hco : scope.isCoroutine = false) (hgen : scope.isGenerator = false) (hk : scope.kind = .function)
    (hcell : ∀ x ∈ scope.names, x.2 ≠ .cell) : codeAny (model prog w) A (.call (.ref f) args) R s := by
  have Ns := news_sub N hsub
  obtain ⟨FG, BG, st, lv⟩ := groundX (R := fun r s' => (∀ q ∈ news, q.1 ∉ small.map (·.1) → s'.heap.get? q.1 = some q.2) → R r s') B F Ns hA hf hke
  have X := X₀.keeps F.keep
  refine codeAny_call_def (fd := fnOf name qual params body scope dV kV doc pm an cdv ct) (body := body) (binds := binds) hroom (X _ _ ho) rfl (T.nolimit.keeps F.keep) (codeRec_of X hcd) rfl hbind hcell hloc (fun h₁ hns hk₁ => ?_) hco hgen hk
  refine wpAny_mono (h _ s.heap.objs.size h₁ FG ⟨hns, fun b o e => hk₁ b o (of_hideAll _ e), Nat.le_of_eq (hideAll_size _ _)⟩
    (fun p hp => ⟨hk₁ _ _ (Ns p hp).1, Nat.ne_of_lt (Heap.lt_size (Ns p hp).1), hideAll_none _ (List.mem_map_of_mem hp)⟩) BG (X₀.keeps st) (T.keeps st) (fun p hp => Heap.lt_size (N p hp).1)) (fun fl s' hl => ?_) fun _ _ y => y
  have hk : ∀ q ∈ news, q.1 ∉ small.map (·.1) → s'.heap.get? q.1 = some q.2 := by
    obtain ⟨L₂, m₂, news₂, F₂, N₂, _⟩ := id hl
    exact fun q hq hn => F₂.keep _ _ (hideAll_get _ (N q hq).1 hn)
  exact lv _ _ hl hk
/-- the survivors and what the callee leaves are the whole ledger again -/
theorem news_join {h₀ h' : Heap} {L : Addr} {s : Shared} {news small add : List (Addr × Obj)} (N : News h₀ L s.heap news) (hsv : ∀ q ∈ news, q.1 ∉ small.map (·.1) → h'.get? q.1 = some q.2) (hu : ∀ q ∈ news, ∀ r ∈ small, q.1 = r.1 → q = r) (N' : News h₀ L h' (add ++ small)) : News h₀ L h' (add ++ news) := by
  intro q hq
  rcases List.mem_append.mp hq with hq | hq
  · exact N' q (List.mem_append_left _ hq)
  · by_cases hs : q.1 ∈ small.map (·.1)
    · obtain ⟨r, hr, e⟩ := List.mem_map.mp hs
      have := hu q hq r hr e.symm
      subst this
      exact N' q (List.mem_append_right _ hr)
    · exact ⟨hsv q hq hs, (N q hq).2⟩
/-- two entries of one place are one -/
theorem news_uniq {h₀ h : Heap} {L : Addr} {news small : List (Addr × Obj)} (N : News h₀ L h news) (hsub : ∀ q ∈ small, q ∈ news) : ∀ q ∈ news, ∀ r ∈ small, q.1 = r.1 → q = r := fun q hq r hr e => by
  have a := (N q hq).1
  have b := (N r (hsub r hr)).1
  rw [e, b] at a
  exact Prod.ext e (Option.some.inj a).symm
/-- the last place of a ledger -/
theorem news_max0 : ∀ (l : List (Addr × Obj)), l = [] ∨ ∃ a o, (a, o) ∈ l ∧ ∀ p ∈ l, @LE.le Nat _ p.1 a
  | [] => .inl rfl
  | q :: l => .inr (by
    rcases news_max0 l with rfl | ⟨a, o, hm, hx⟩
    · exact ⟨q.1, q.2, .head _, fun p hp => by
        rcases List.mem_cons.mp hp with rfl | hp
        · exact Nat.le_refl _
        · cases hp⟩
    · by_cases hle : @LE.le Nat _ q.1 a
      · exact ⟨a, o, .tail _ hm, fun p hp => by
          rcases List.mem_cons.mp hp with rfl | hp
          · exact hle
          · exact hx p hp⟩
      · exact ⟨q.1, q.2, .head _, fun p hp => by
          rcases List.mem_cons.mp hp with rfl | hp
          · exact Nat.le_refl _
          · exact Nat.le_of_lt (Nat.lt_of_le_of_lt (hx p hp) (Nat.lt_of_not_le hle))⟩)
theorem news_max {l : List (Addr × Obj)} {r : Addr × Obj} (hr : r ∈ l) : ∃ a o, (a, o) ∈ l ∧ ∀ p ∈ l, @LE.le Nat _ p.1 a := by
  rcases news_max0 l with rfl | h
  · cases hr
  · exact h
theorem max_lt {l : List (Addr × Obj)} {a D : Addr} (hx : ∀ p ∈ l, @LE.le Nat _ p.1 a) (h : @LT.lt Nat _ a D) : AllLt D l := allLt_of fun p hp => Nat.lt_of_le_of_lt (hx p hp) h
end Mine
end PartSub

section PartBare
open PySem PySem.Spec PySem.Calls PySem.W PyProof.Rows
set_option Elab.async false
set_option maxRecDepth 100000
set_option maxHeartbeats 8000000
namespace Mine
/-- the walk's lines are looked up afresh from here on -/
theorem syncBare {M : Model} {A : Around} {E : Value → Shared → Prop} {s : Shared} {env : Env} {Q : Flow → Shared → Prop} (h : Q .next s) : wpAny M A (execs [] env) Q E s := by
  w_top off
  first | (walk1; exact h) | exact wpAny_execs_nil h

section
variable {prog : Program} {w : World} {A : Around} {E : Value → Shared → Prop} {s : Shared} {env : Env} {test : PySem.Expr} {body orelse : List Stmt} {Q : Flow → Shared → Prop}
noncomputable def WRest (prog : Program) (w : World) (A : Around) (E : Value → Shared → Prop) (env : Env) (test : PySem.Expr) (body orelse : List Stmt) (Q : Flow → Shared → Prop) (s : Shared) : Prop :=
  codeAny (model prog w) A (.whileLoop test body orelse env) (fun r s' => match r with | .ok f => Q f s' | .error e => cameBackBy (model prog w) A env E e s') s
noncomputable def WPost (prog : Program) (w : World) (A : Around) (E : Value → Shared → Prop) (env : Env) (test : PySem.Expr) (body orelse : List Stmt) (Q : Flow → Shared → Prop) (f : Flow) (s : Shared) : Prop :=
  match f with
  | .next => WRest prog w A E env test body orelse Q s
  | .cont => WRest prog w A E env test body orelse Q s
  | .brk => Q .next s
  | .ret v => Q (.ret v) s
theorem w_start {pos : Pos} (h : WRest prog w A E env test body orelse Q s) : wpAny (model prog w) A (exec (.While test body orelse pos) env) Q E s := wpAny_While h
theorem w_turn (h : wpAny (model prog w) A (isTrue test env (eval test env)) (fun b s₂ => WhlIf b (wpAny (model prog w) A (execs body env) (WPost prog w A E env test body orelse Q) (fun _ _ => False) s₂) (wpAny (model prog w) A (execs orelse env) Q (fun _ _ => False) s₂)) (fun _ _ => False) s) :
    WRest prog w A E env test body orelse Q s := by
  refine codeAny_of_tree ?_
  show wpAny _ A ((whileTurn test body orelse env).onRaise (fun x => do noteFrame x env; theTreesLotGoes x)) _ _ s
  refine wpAny_noted ?_
  simp only [whileTurn]
  refine wpAny_bind (wpAny_mono h (fun b s₂ h₂ => ?_) fun _ _ x => x.elim)
  cases b with
  | false =>
    have h₃ : wpAny (model prog w) A (execs orelse env) Q (fun _ _ => False) s₂ := by
      unfold WhlIf at h₂
      rw [if_neg Bool.false_ne_true] at h₂
      exact h₂
    simp only [Bool.false_eq_true, if_false]
    exact wpAny_bind (wpAny_mono h₃ (fun f s₃ h₄ => wpAny_pure h₄) fun _ _ x => x.elim)
  | true =>
    have h₃ : wpAny (model prog w) A (execs body env) (WPost prog w A E env test body orelse Q) (fun _ _ => False) s₂ := by
      unfold WhlIf at h₂
      rw [if_pos rfl] at h₂
      exact h₂
    simp only [if_true]
    refine wpAny_bind (wpAny_mono h₃ (fun f s₃ h₄ => ?_) fun _ _ x => x.elim)
    cases f with
    | next => exact wpAny_pure ⟨rfl, h₄⟩
    | cont => exact wpAny_pure ⟨rfl, h₄⟩
    | brk => exact wpAny_pure h₄
    | ret v => exact wpAny_pure h₄
end
/-- the row without the noughts at its end -/
noncomputable def bareOf (ns : List Int) : List Int := (ns.reverse.dropWhile (· == 0)).reverse

local macro_rules | `(tactic| walk_at "compareOp NotEq ref ref") => `(tactic| (k_here; refine stop_here ?_))
theorem bare_last {ns : List Int} (h : 0 < ns.length) : ∃ init a, ns = init ++ [a] := ⟨ns.dropLast, ns.getLast (List.length_pos_iff.mp h), (List.dropLast_concat_getLast _).symm⟩
theorem bare_drop {ns : List Int} (hpos : 0 < ns.length) (h : ns.getD (-1 + (ns.length : Int)).toNat 0 = 0) : bareOf (ns.take (ns.length - 1)) = bareOf ns := by
  obtain ⟨init, a, rfl⟩ := bare_last hpos
  rw [getD_last] at h
  subst h
  simp [bareOf]
theorem bare_keep {ns : List Int} (hpos : 0 < ns.length) (h : ns.getD (-1 + (ns.length : Int)).toNat 0 ≠ 0) : bareOf ns = ns := by
  obtain ⟨init, a, rfl⟩ := bare_last hpos
  rw [getD_last] at h
  simp [bareOf, h]
theorem bare_loop {w : World} {D0 aq L' : Addr} {oq : Obj} {n0 : Nat} {vs0 : List Value}
    {name qual : Str} {params : Arguments} {scope : Scope} {dV kV doc pm cdv ct oc : Value} {an od : Option Addr} {osl : Array (Option Value)} {test : PySem.Expr} {wbody orelse : List Stmt} {wpos : Pos} {more : List Stmt}
    {p : Program} {loose : List Str} {mean : ExcName → Option Value} {mg mb : Str → Option Value} {dp un : Nat} {gd : Option (List Code)} {cn : Str} {cs : Scope} {fa : Addr} {ccd : Value} {cl : List (Str × Addr)} {outer : List Env} {base g' : Heap} {L : Addr} {Q : Flow → Shared → Prop} {E : Value → Shared → Prop}
    (ho : (hd.heap_39 w.params).lookup 116 = some ⟨oc, od, .func (fnOf name qual params (.While test wbody orelse wpos :: more) scope dV kV doc pm an cdv ct), osl⟩)
    (B' : Below (ktrTop dp un gd cn cs L fa ccd cl outer) base (envX cn cs L fa ccd cl :: outer) g') (X' : (hd.heap_39 w.params).In g') (T' : Top p loose mean mg mb g') (hD0 : @LE.le Nat _ D0 aq) (hdp : dp + 9 < recursionLimit) (hun : un + 900 < cLine) :
    ∀ (k : Nat) (s : Shared) (n : Nat) (D : Addr) (vs : List Value) (ns : List Int) (m0 : Str → Option Value), ns.length ≤ k → ns.length ≤ 100 → IntsAre vs ns → Fr g' L' s.heap (fun y => if y = Str.ofString "digits" then some (.ref D) else m0 y) → News g' L' s.heap [(D, listOf vs.toArray n), (D0, listOf vs0.toArray n0), (aq, oq)] →
      (∀ (n' : Nat) (D' : Addr) (vs' : List Value) (m' : Str → Option Value) (h' : Heap) (tk' : Nat), IntsAre vs' (bareOf ns) → (D' = D ∨ @LT.lt Nat _ aq D') → Fr g' L' h' (fun y => if y = Str.ofString "digits" then some (.ref D') else m' y) → News g' L' h' [(D', listOf vs'.toArray n'), (D0, listOf vs0.toArray n0), (aq, oq)] → Q .next { s with heap := h', toks := tk' }) →
      WRest lawProg w ((ktrTop dp un gd cn cs L fa ccd cl outer).deeper (envOf qual scope L' 116 cdv)) E (envOf qual scope L' 116 cdv) test wbody orelse Q s := by
  apply while_open ho (show (hd.heap_39 w.params).lookup 116 = some _ by k_is) (fun e => while_inj (nth0 e))
  clear ho
  intro k
  induction k with
  | zero =>
    intro s n D vs ns m0 hk hl hi F N hQ
    have : ns = [] := List.eq_nil_of_length_eq_zero (by omega)
    subst this
    cases hi
    refine w_turn ?_
    k_steps
    with_unfolding_all refine' ne_intsK ?k1 ?k2 ?k3 ?k4 ?k5 ?_; (case k1 => is_list); (case k2 => l_intsC); (case k3 => is_list); (case k4 => l_intsC); (case k5 => (show _ + 64 < cLine; ktr_units)); k_whole
    k_steps
    rename_i F8 N8 l8
    exact hQ n D [] _ _ _ .nil (.inl rfl) (fr_pad F8 (Str.ofString "digits") rfl) (news_drop N8)
  | succ k ih =>
    intro s n D vs ns m0 hk hl hi F N hQ
    by_cases hne : ns = []
    · subst hne
      cases hi
      refine w_turn ?_
      k_steps
      with_unfolding_all refine' ne_intsK ?k1 ?k2 ?k3 ?k4 ?k5 ?_; (case k1 => is_list); (case k2 => l_intsC); (case k3 => is_list); (case k4 => l_intsC); (case k5 => (show _ + 64 < cLine; ktr_units)); k_whole
      k_steps
      rename_i F8 N8 l8
      exact hQ n D [] _ _ _ .nil (.inl rfl) (fr_pad F8 (Str.ofString "digits") rfl) (news_drop N8)
    have hpos : 0 < ns.length := by
      cases ns with
      | nil => exact absurd rfl hne
      | cons => simp
    refine w_turn ?_
    k_steps
    with_unfolding_all refine' ne_intsK ?k1 ?k2 ?k3 ?k4 ?k5 ?_; (case k1 => is_list); (case k2 => l_intsC); (case k3 => is_list); (case k4 => l_intsC); (case k5 => (show _ + 64 < cLine; ktr_units)); k_whole
    k_steps
    · rename_i l1 h1 l2 t1 ha D2 ws2 h2 hI2 hC2 hL2 l3 h3 F3 N3
      show WRest _ _ _ _ _ _ _ _ _ _
      refine ih _ 0 D2 ws2 (ns.take (ns.length - 1)) _ (by omega) (by omega) hI2 (fr_pad F3 (Str.ofString "digits") rfl) (news_sub N3 ?_) ?_
      · intro q hq
        simp only [List.mem_cons, List.not_mem_nil, or_false] at hq ⊢
        rcases hq with rfl | rfl | rfl <;> simp
      · intro n' D' vs' m' h' tk' hi' hD' F' N'
        refine hQ n' D' vs' m' h' tk' (by rw [← bare_drop hpos ha]; exact hi') (.inr ?_) F' N'
        rcases hD' with rfl | h
        · exact l3.2.2.2
        · exact h
    · rename_i l1 h1 F1 N1 l2 t1 ha
      exact hQ n D vs _ _ _ (by rw [bare_keep hpos ha]; exact hi) (.inl rfl) (fr_pad F1 (Str.ofString "digits") rfl) (news_drop N1)

theorem bare_spec {w : World} {D0 : Addr} {n0 : Nat} {vs0 : List Value} {ns : List Int} {news : List (Addr × Obj)}
    {p : Program} {loose : List Str} {mean : ExcName → Option Value} {mg mb : Str → Option Value} {dp un : Nat} {gd : Option (List Code)} {cn : Str} {cs : Scope} {fa : Addr} {ccd : Value} {cl : List (Str × Addr)} {outer : List Env} {A₀ : Around} {base h₀ : Heap} {L : Addr} {m : Str → Option Value} {s : Shared} {Q E : Value → Shared → Prop}
    (B : Below A₀ base outer h₀) (F : Fr h₀ L s.heap m) (X : (hd.heap_39 w.params).In h₀) (N : News h₀ L s.heap news) (T : Top p loose mean mg mb h₀) (hk : cs.kind = .function)
    (hRw : (D0, listOf vs0.toArray n0) ∈ news) (hi : IntsAre vs0 ns) (hl : ns.length ≤ 100) (hdp : dp + 10 < recursionLimit) (hun : un + 1000 < cLine)
    (hret : (∀ (D' : Addr) (n' : Nat) (vs' : List Value) (h' : Heap) (tk' : Nat), IntsAre vs' (bareOf ns) → Fr h₀ L h' m → News h₀ L h' ((D', listOf vs'.toArray n') :: news) → Q (.ref D') { s with heap := h', toks := tk' })) :
      wpAny (model Challenge.rw_rs0150_01.row.prog w) (ktrTop dp un gd cn cs L fa ccd cl outer) (call (.ref 116) [.ref D0]) Q E s := by
  obtain ⟨aq, oq, hq, hmax⟩ := news_max hRw
  have hsub : ∀ q ∈ [(D0, listOf vs0.toArray n0), (aq, oq)], q ∈ news := by
    intro q hq
    simp only [List.mem_cons, List.not_mem_nil, or_false] at hq
    rcases hq with rfl | rfl <;> assumption
  have hw := (show (hd.heap_39 w.params).lookup 116 = some _ by k_is)
  have hu := news_uniq N hsub
  (k_with "exec While BoolOp cons nil" => (with_unfolding_all refine' w_start ?_; k_whole))
  refine wpAny_call ?_
  k_dflt (refine' code_defS (small := [(D0, listOf vs0.toArray n0), (aq, oq)]) ?k1 ?k2 ?k3 ?k4 ?k5 ?kS ?kA ?kF ?kK ?k6 ?k7 ?k8 ?k9 ?kB ?_ ?c2 ?c3 ?c4 ?c5; (case kA => exact rfl); (case kF => exact rfl); (case kK => assumption); (case k1 => k_asm); (case k2 => k_asm); (case k3 => k_asm); (case k4 => exact N); (case k5 => k_asm); (case kS => exact hsub); (case k6 => k_is); (case k7 => k_is); (case k8 => ktr_room); (case k9 => exact BindsTo.of_eq rfl); (case c5 => decide); (case kB => exact locs rfl); (case c2 => exact rfl); (case c3 => exact rfl); (case c4 => exact rfl); k_whole; intro g' L' h' FG' F' N' B' X' T' lL'; (try dsimp only); (try k_lift B'); (try k_fold))
  refine gen_toks fun tk0 => ?_
  have N0 := N
  clear N
  k_steps
  refine bare_loop hw B' X' T' (hmax _ hRw) (by ktr_room) (by ktr_units) ns.length _ n0 D0 vs0 ns _ (Nat.le_refl _) hl hi (fr_pad F' (Str.ofString "digits") rfl) (news_dup N' (.head _)) ?_
  intro n9 D9 vs9 m9 h9 tk9 hi9 hD9 F9 N9
  clear F'
  k_steps
  rename_i hsv
  exact hret D9 n9 vs9 h9 _ hi9 (by assumption) (news_join (add := [(D9, listOf vs9.toArray n9)]) N0 hsv hu (by assumption))
end Mine
end PartBare

section PartCol
open PySem PySem.Spec PySem.Calls PySem.W PyProof.Rows
set_option Elab.async false
set_option maxRecDepth 100000
set_option maxHeartbeats 8000000
namespace Mine
/-- the walk's lines are looked up afresh from here on -/
theorem syncCol {M : Model} {A : Around} {E : Value → Shared → Prop} {s : Shared} {env : Env} {Q : Flow → Shared → Prop} (h : Q .next s) : wpAny M A (execs [] env) Q E s := by
  w_top off
  first | (walk1; exact h) | exact wpAny_execs_nil h

theorem coll_zero {a b : Str} : (b2i (decide (b.cps.toList < a.cps.toList)) - b2i (decide (a.cps.toList < b.cps.toList)) = 0) ↔ a = b := by
  constructor
  · intro h
    have h1 : ¬ b.cps.toList < a.cps.toList ∧ ¬ a.cps.toList < b.cps.toList := by
      by_cases p : b.cps.toList < a.cps.toList
      · have q : ¬ a.cps.toList < b.cps.toList := List.lt_asymm p
        simp [p, q, b2i] at h
      · by_cases q : a.cps.toList < b.cps.toList
        · simp [p, q, b2i] at h
        · exact ⟨p, q⟩
    have e : a.cps.toList = b.cps.toList := List.le_antisymm (List.not_lt.mp h1.1) (List.not_lt.mp h1.2)
    cases a; cases b
    simp only [Str.mk.injEq]
    exact Array.toList_inj.mp e
  · rintro rfl
    simp [b2i, List.lt_irrefl]

theorem strcoll_spec {w : World} {a b : Str} {t1 t2 : Tok} {news : List (Addr × Obj)}
    {p : Program} {loose : List Str} {mean : ExcName → Option Value} {mg mb : Str → Option Value} {dp un : Nat} {gd : Option (List Code)} {cn : Str} {cs : Scope} {fa : Addr} {ccd : Value} {cl : List (Str × Addr)} {outer : List Env} {A₀ : Around} {base h₀ : Heap} {L : Addr} {m : Str → Option Value} {s : Shared} {Q E : Value → Shared → Prop}
    (B : Below A₀ base outer h₀) (F : Fr h₀ L s.heap m) (X : (hd.heap_39 w.params).In h₀) (N : News h₀ L s.heap news) (T : Top p loose mean mg mb h₀) (hk : cs.kind = .function)
    (hdp : dp + 3 < recursionLimit) (hun : un + 30 < cLine)
    (hret : (∀ (r : Int) (t : Tok) (h' : Heap) (tk' : Nat), (r = 0 ↔ a = b) → Fr h₀ L h' m → News h₀ L h' news → Q (.int r t) { s with heap := h', toks := tk' })) :
      wpAny (model Challenge.rw_rs0150_01.row.prog w) (ktrTop dp un gd cn cs L fa ccd cl outer) (call (.ref 90) [.str a t1, .str b t2]) Q E s := by
  refine wpAny_call ?_
  k_dflt (refine' code_def ?k1 ?k2 ?k3 ?k4 ?k5 ?kA ?kF ?kK ?k6 ?k7 ?k8 ?k9 ?kB ?_ ?c2 ?c3 ?c4 ?c5; (case kA => exact rfl); (case kF => exact rfl); (case kK => assumption); (case k1 => k_asm); (case k2 => k_asm); (case k3 => k_asm); (case k4 => k_asm); (case k5 => k_asm); (case k6 => k_is); (case k7 => k_is); (case k8 => ktr_room); (case k9 => exact BindsTo.of_eq rfl); (case c5 => decide); (case kB => exact locs rfl); (case c2 => exact rfl); (case c3 => exact rfl); (case c4 => exact rfl); k_whole; intro g' L' h' FG' F' N' B' X' T'; (try dsimp only); (try k_lift B'); (try k_fold))
  refine gen_toks fun tk0 => ?_
  k_steps
  exact hret _ _ _ _ coll_zero (by assumption) (by assumption)
end Mine
end PartCol

section PartCmp
open PySem PySem.Spec PySem.Calls PySem.W PyProof.Rows
set_option Elab.async false
set_option maxRecDepth 100000
set_option maxHeartbeats 8000000
namespace Mine
/-- the end of a comprehension's test: the truth, the frame and the ledger as they were -/
noncomputable def TestEnd (h₀ : Heap) (L : Addr) (m : Str → Option Value) (s : Shared) (led : List (Addr × Obj)) (b : Bool) (ok : Bool) (s' : Shared) : Prop :=
  ∃ h' tk', s' = { s with heap := h', toks := tk' } ∧ ok = b ∧ Fr h₀ L h' m ∧ News h₀ L h' led
theorem TestEnd.mk {h₀ : Heap} {L : Addr} {m : Str → Option Value} {s : Shared} {led led' : List (Addr × Obj)} {b ok : Bool} {h' : Heap} {tk' : Nat} (F : Fr h₀ L h' m) (N : News h₀ L h' led') (hs : ∀ q ∈ led, q ∈ led') (e : ok = b) : TestEnd h₀ L m s led b ok { s with heap := h', toks := tk' } :=
  ⟨h', tk', rfl, e, F, news_sub N hs⟩
/-- the end of a comprehension's element -/
noncomputable def ElEnd (h₀ : Heap) (L : Addr) (m : Str → Option Value) (s : Shared) (led : List (Addr × Obj)) (P : Value → Prop) (y : Value) (s' : Shared) : Prop :=
  ∃ h' tk', s' = { s with heap := h', toks := tk' } ∧ P y ∧ Fr h₀ L h' m ∧ News h₀ L h' led
theorem ElEnd.mk {h₀ : Heap} {L : Addr} {m : Str → Option Value} {s : Shared} {led led' : List (Addr × Obj)} {P : Value → Prop} {y : Value} {h' : Heap} {tk' : Nat} (F : Fr h₀ L h' m) (N : News h₀ L h' led') (hs : ∀ q ∈ led, q ∈ led') (e : P y) : ElEnd h₀ L m s led P y { s with heap := h', toks := tk' } :=
  ⟨h', tk', rfl, e, F, news_sub N hs⟩

/-- values and what they stand for -/
inductive Are {α : Type} (P : α → Value → Prop) : List Value → List α → Prop
  | nil : Are P [] []
  | cons {v vs a as} (h : P a v) (t : Are P vs as) : Are P (v :: vs) (a :: as)
theorem Are.append {α : Type} {P : α → Value → Prop} {vs ws : List Value} {as bs : List α} (h : Are P vs as) (k : Are P ws bs) : Are P (vs ++ ws) (as ++ bs) := by
  induction h with
  | nil => exact k
  | cons x _ ih => exact .cons x ih
theorem Are.length {α : Type} {P : α → Value → Prop} {vs : List Value} {as : List α} (h : Are P vs as) : vs.length = as.length := by
  induction h with
  | nil => rfl
  | cons _ _ ih => simp [ih]
theorem Are.ints {vs : List Value} {as : List Int} (h : Are (fun k v => ∃ t, v = .int k t) vs as) : IntsAre vs as := by
  induction h with
  | nil => exact .nil
  | cons x _ ih => obtain ⟨t, rfl⟩ := x; exact .cons _ _ ih

section
variable {prog : Program} {w : World} {A : Around} {h₀ : Heap} {L : Addr} {m : Str → Option Value} {env : Env} {elt ct : PySem.Expr} {x : Str} {scope : Scope} {cl : List (Str × Addr)} {s : Shared} {S : List (Addr × Obj) → Prop} {P : Nat → Value → Prop} {Fin : List Value → List (Addr × Obj) → Prop} {news : List (Addr × Obj)}
theorem comp_map {α β : Type} {n : Nat} {ks : List α} (g : α → β) (K : α → Value → Prop) (R : β → Value → Prop) (hks : ks.length = n) (hP : ∀ i v, i < n → P i v → ∃ k, ks[i]? = some k ∧ K k v) (hS : S news)
    (turn : ∀ k v I oI C oC D m₂ ys h tk (E' : Value → Shared → Prop), k ∈ ks → K k v → LCg.NsObj oC m₂ → m₂ x = some v → Fr h₀ L h m → News h₀ L h ((I, oI) :: (C, oC) :: (D, LCg.lst ys) :: news) →
      wpAny (model prog w) A (eval elt (compEnvC scope cl C env)) (ElEnd h₀ L m { s with heap := h, toks := tk } ((I, oI) :: (C, oC) :: (D, LCg.lst ys) :: news) (R (g k))) E' { s with heap := h, toks := tk })
    (fin : ∀ ys, Are R ys (ks.map g) → Fin ys news) : LCg.CompRest prog w A h₀ L m env elt x scope cl s S P Fin n 0 [] news := by
  have key : ∀ (j i : Nat) (ys : List Value), i + j = n → Are R ys ((ks.take i).map g) → LCg.CompRest prog w A h₀ L m env elt x scope cl s S P Fin j i ys news := by
    intro j
    induction j with
    | zero =>
      intro i ys hi hy
      have e : i = ks.length := by omega
      subst e
      rw [List.take_length] at hy
      exact LCg.CompRest.zero (fin ys hy)
    | succ j ih =>
      intro i ys hi hy
      refine LCg.CompRest.succ ?_
      intro v I oI C oC D m₂ h tk E' hv hC hx F N off ne
      obtain ⟨k, hk, hK⟩ := hP i v (by omega) hv
      refine wpAny_mono (turn k v I oI C oC D m₂ ys h tk E' (List.mem_of_getElem? hk) hK hC hx F N) (fun y s₂ hq => ?_) fun _ _ e => e
      obtain ⟨h', tk', e, hy', F', N'⟩ := hq
      refine ⟨h', tk', news, e, F', N', off, hS, ih (i + 1) _ (by omega) ?_⟩
      rw [List.take_add_one, hk]
      simpa using Are.append hy (.cons hy' .nil)
  exact key n 0 [] (by omega) (by simp only [List.take_zero, List.map_nil]; exact .nil)

theorem comp_filter {n : Nat} {ks : List Int} {px : Pos} (p : Int → Bool) (hks : ks.length = n) (hP : ∀ i v, i < n → P i v → ∃ k t, ks[i]? = some k ∧ v = .int k t) (hS : S news)
    (hk : (compEnvC scope cl 0 env).scope.kind = .function) (hx : (compEnvC scope cl 0 env).kindOf x = some .local) (hb : (x == ("__debug__" : Str)) = false)
    (turn : ∀ k t I oI C oC D m₂ ys h tk (E' : Value → Shared → Prop), k ∈ ks → LCg.NsObj oC m₂ → m₂ x = some (.int k t) → Fr h₀ L h m → News h₀ L h ((I, oI) :: (C, oC) :: (D, LCg.lst ys) :: news) →
      wpAny (model prog w) A (isTrue ct (compEnvC scope cl C env) (eval ct (compEnvC scope cl C env))) (TestEnd h₀ L m { s with heap := h, toks := tk } ((I, oI) :: (C, oC) :: (D, LCg.lst ys) :: news) (p k)) E' { s with heap := h, toks := tk })
    (fin : ∀ ys, IntsAre ys (ks.filter p) → Fin ys news) : LCt.CompRestT prog w A h₀ L m env ct (.Name x px) x scope cl s S P Fin n 0 [] news := by
  have key : ∀ (j i : Nat) (ys : List Value), i + j = n → IntsAre ys ((ks.take i).filter p) → LCt.CompRestT prog w A h₀ L m env ct (.Name x px) x scope cl s S P Fin j i ys news := by
    intro j
    induction j with
    | zero =>
      intro i ys hi hy
      have e : i = ks.length := by omega
      subst e
      rw [List.take_length] at hy
      exact LCt.CompRestT.zero (fin ys hy)
    | succ j ih =>
      intro i ys hi hy
      refine LCt.CompRestT.succ ?_
      intro v I oI C oC D m₂ h tk E' hv hC hm F N off ne
      obtain ⟨k, t, hk1, rfl⟩ := hP i v (by omega) hv
      refine wpAny_mono (turn k t I oI C oC D m₂ ys h tk E' (List.mem_of_getElem? hk1) hC hm F N) (fun ok s₂ hq => ?_) fun _ _ e => e
      obtain ⟨h', tk', rfl, rfl, F', N'⟩ := hq
      cases hpk : p k with
      | false =>
        rw [if_neg Bool.false_ne_true]
        refine ⟨h', tk', news, rfl, F', N', off, hS, ih (i + 1) _ (by omega) ?_⟩
        rw [List.take_add_one, hk1, List.filter_append]
        simpa [hpk] using hy
      | true =>
        rw [if_pos rfl]
        refine wpAny_Name (wpAny_loadName_local hk hx (hC.ns (N' (C, oC) (.tail _ (.head _))).1) hm ?_) hb
        refine ⟨h', tk', news, rfl, F', N', off, hS, ih (i + 1) _ (by omega) ?_⟩
        rw [List.take_add_one, hk1, List.filter_append]
        have e1 : List.filter p (some k).toList = [k] := by simp [hpk]
        rw [e1]
        exact IntsAre.append hy (.cons k t .nil)
  exact key n 0 [] (by omega) (by simp only [List.take_zero, List.filter_nil]; exact .nil)

/-- the sources, closed to the walker -/
noncomputable def SrcU (prog : Program) (w : World) (A : Around) (h₀ : Heap) (L : Addr) (m : Str → Option Value) (env : Env) (elt : PySem.Expr) (x : Str) (scope : Scope) (cl : List (Str × Addr)) (Fin : Shared → List Value → List (Addr × Obj) → Prop) (xv : Value) (s₁ : Shared) : Prop := LCg.CompSrc prog w A h₀ L m env elt x scope cl Fin xv s₁
noncomputable def SrcT (prog : Program) (w : World) (A : Around) (h₀ : Heap) (L : Addr) (m : Str → Option Value) (env : Env) (ct elt : PySem.Expr) (x : Str) (scope : Scope) (cl : List (Str × Addr)) (Fin : Shared → List Value → List (Addr × Obj) → Prop) (xv : Value) (s₁ : Shared) : Prop := LCt.CompSrcT prog w A h₀ L m env ct elt x scope cl Fin xv s₁
variable {E : Value → Shared → Prop}
theorem list_U {iter : PySem.Expr} {px : Pos} {pos : Pos} {Q : Value → Shared → Prop} (F₀ : Fr h₀ L s.heap m)
    (hclos : closureFor scope env = pure cl) (hcell : ∀ y ∈ scope.names, y.2 ≠ .cell) (hkind : scope.kind = .function)
    (hnames : ∀ y ∈ scope.names, y.2 = .local → scope.names.lookup y.1 = some .local) (hx : scope.names.lookup x = some .local)
    (h : wpAny (model prog w) A (eval iter env) (SrcU prog w A h₀ L m env elt x scope cl (fun s₂ => LCg.FinE h₀ L m s₂ Q)) E s)
    (hs : ∀ x, foldedSetIterable iter env x = pure x := by intro _; rfl) :
    wpAny (model prog w) A (eval (.ListComp elt [⟨.Name x px, iter, [], 0⟩] scope pos) env) Q E s := LCg.ListComp_U F₀ hclos hcell hkind hnames hx h hs
theorem list_T {iter : PySem.Expr} {px : Pos} {pos : Pos} {Q : Value → Shared → Prop} (F₀ : Fr h₀ L s.heap m)
    (hclos : closureFor scope env = pure cl) (hcell : ∀ y ∈ scope.names, y.2 ≠ .cell) (hkind : scope.kind = .function)
    (hnames : ∀ y ∈ scope.names, y.2 = .local → scope.names.lookup y.1 = some .local) (hx : scope.names.lookup x = some .local)
    (h : wpAny (model prog w) A (eval iter env) (SrcT prog w A h₀ L m env ct elt x scope cl (fun s₂ => LCg.FinE h₀ L m s₂ Q)) E s)
    (hs : ∀ x, foldedSetIterable iter env x = pure x := by intro _; rfl) :
    wpAny (model prog w) A (eval (.ListComp elt [⟨.Name x px, iter, [ct], 0⟩] scope pos) env) Q E s := LCt.ListComp_T F₀ hclos hcell hkind hnames hx h hs
theorem asg_U {iter : PySem.Expr} {y : Str} {px py : Pos} {pos spos : Pos} {Q : Flow → Shared → Prop} (F₀ : Fr h₀ L s.heap m) (hLe : env.locals = L)
    (hsw : swapsWith (.ListComp elt [⟨.Name x px, iter, [], 0⟩] scope pos) (some (.Name y py)) spos.line env = pure true)
    (hclos : closureFor scope env = pure cl) (hcell : ∀ z ∈ scope.names, z.2 ≠ .cell) (hkind : scope.kind = .function)
    (hnames : ∀ z ∈ scope.names, z.2 = .local → scope.names.lookup z.1 = some .local) (hx : scope.names.lookup x = some .local)
    (hy : env.kindOf y = some .local) (hp : (env.scope.kind == .class || (env.scope.kind == .module && env.locals != env.globals)) = false)
    (h : wpAny (model prog w) A (eval iter env) (SrcU prog w A h₀ L m env elt x scope cl (fun s₂ => LCg.FinA h₀ L m s₂ y Q)) E s)
    (hs : ∀ x, foldedSetIterable iter env x = pure x := by intro _; rfl) :
    wpAny (model prog w) A (exec (.Assign [.Name y py] (.ListComp elt [⟨.Name x px, iter, [], 0⟩] scope pos) spos) env) Q E s := LCg.Assign_ListComp_U F₀ hLe hsw hclos hcell hkind hnames hx hy hp h hs
theorem asg_T {iter : PySem.Expr} {y : Str} {px py : Pos} {pos spos : Pos} {Q : Flow → Shared → Prop} (F₀ : Fr h₀ L s.heap m) (hLe : env.locals = L)
    (hsw : swapsWith (.ListComp elt [⟨.Name x px, iter, [ct], 0⟩] scope pos) (some (.Name y py)) spos.line env = pure true)
    (hclos : closureFor scope env = pure cl) (hcell : ∀ z ∈ scope.names, z.2 ≠ .cell) (hkind : scope.kind = .function)
    (hnames : ∀ z ∈ scope.names, z.2 = .local → scope.names.lookup z.1 = some .local) (hx : scope.names.lookup x = some .local)
    (hy : env.kindOf y = some .local) (hp : (env.scope.kind == .class || (env.scope.kind == .module && env.locals != env.globals)) = false)
    (h : wpAny (model prog w) A (eval iter env) (SrcT prog w A h₀ L m env ct elt x scope cl (fun s₂ => LCg.FinA h₀ L m s₂ y Q)) E s)
    (hs : ∀ x, foldedSetIterable iter env x = pure x := by intro _; rfl) :
    wpAny (model prog w) A (exec (.Assign [.Name y py] (.ListComp elt [⟨.Name x px, iter, [ct], 0⟩] scope pos) spos) env) Q E s := LCt.Assign_ListComp_T F₀ hLe hsw hclos hcell hkind hnames hx hy hp h hs
theorem range_P {a : Int} {n : Nat} : ∀ i v, i < n → (∃ t, v = Value.int (a + (i : Int)) t) → ∃ k t, (rangeKs a n)[i]? = some k ∧ v = .int k t := fun i v hi hv => by
  obtain ⟨t, e⟩ := hv
  exact ⟨a + (i : Int), t, by simp [rangeKs, hi], e⟩
theorem list_P {vs : List Value} {ns : List Int} (hi : IntsAre vs ns) : ∀ i v, i < vs.toArray.size → vs.toArray[i]? = some v → ∃ k t, ns[i]? = some k ∧ v = .int k t := fun i v _ hv => by
  obtain ⟨k, t, e, hk⟩ := IntsAre.at hi i v (by simpa using hv)
  exact ⟨k, t, hk, e⟩
/-- a filter over a list of the ledger -/
theorem srcT_list {ax : Addr} {vs : List Value} {ns : List Int} {k : Nat} {px : Pos} {s₁ : Shared} {Fin : Shared → List Value → List (Addr × Obj) → Prop} (p : Int → Bool)
    (hh : A.handled = none) (F : Fr h₀ L s₁.heap m) (N : News h₀ L s₁.heap news) (hm : (ax, listOf vs.toArray k) ∈ news) (hi : IntsAre vs ns) (hl : ns.length ≤ 100)
    (hk : (compEnvC scope cl 0 env).scope.kind = .function) (hx : (compEnvC scope cl 0 env).kindOf x = some .local) (hb : (x == ("__debug__" : Str)) = false)
    (turn : ∀ g k t I oI C oC D m₂ ys h tk (E' : Value → Shared → Prop), k ∈ ns → LCg.NsObj oC m₂ → m₂ x = some (.int k t) → Fr h₀ L h m → News h₀ L h ((I, oI) :: (C, oC) :: (D, LCg.lst ys) :: news) →
      wpAny (model prog w) A (isTrue ct (compEnvC scope cl C env) (eval ct (compEnvC scope cl C env))) (TestEnd h₀ L m { ({ s₁ with heap := g } : Shared) with heap := h, toks := tk } ((I, oI) :: (C, oC) :: (D, LCg.lst ys) :: news) (p k)) E' { ({ s₁ with heap := g } : Shared) with heap := h, toks := tk })
    (fin : ∀ g ys, IntsAre ys (ns.filter p) → Fin { s₁ with heap := g } ys news) : SrcT prog w A h₀ L m env ct (.Name x px) x scope cl Fin (.ref ax) s₁ := by
  have hlen := hi.length
  refine LCt.CompSrcT.ledger hh F N hm (by rw [List.size_toArray, sizeLine_eq]; omega) fun g => ?_
  exact comp_filter (ks := ns) p (by rw [List.size_toArray]; exact hlen.symm) (list_P hi) (.inr ⟨_, hm, rfl, _, rfl⟩) hk hx hb (turn g) (fin g)
theorem srcT_range {r : Addr} {a b : Int} {t u v : Tok} {n : Nat} {px : Pos} {s₁ : Shared} {Fin : Shared → List Value → List (Addr × Obj) → Prop} (p : Int → Bool)
    (hh : A.handled = none) (F : Fr h₀ L s₁.heap m) (N : News h₀ L s₁.heap news) (hr : IsRange s₁.heap r a b 1 t u v) (ha : 0 ≤ a) (hab : b = a + (n : Int)) (hb9 : b ≤ 1000)
    (hk : (compEnvC scope cl 0 env).scope.kind = .function) (hx : (compEnvC scope cl 0 env).kindOf x = some .local) (hb : (x == ("__debug__" : Str)) = false)
    (turn : ∀ g k t I oI C oC D m₂ ys h tk (E' : Value → Shared → Prop), a ≤ k → k < b → LCg.NsObj oC m₂ → m₂ x = some (.int k t) → Fr h₀ L h m → News h₀ L h ((I, oI) :: (C, oC) :: (D, LCg.lst ys) :: news) →
      wpAny (model prog w) A (isTrue ct (compEnvC scope cl C env) (eval ct (compEnvC scope cl C env))) (TestEnd h₀ L m { ({ s₁ with heap := g } : Shared) with heap := h, toks := tk } ((I, oI) :: (C, oC) :: (D, LCg.lst ys) :: news) (p k)) E' { ({ s₁ with heap := g } : Shared) with heap := h, toks := tk })
    (fin : ∀ g ys, IntsAre ys ((rangeKs a n).filter p) → Fin { s₁ with heap := g } ys news) : SrcT prog w A h₀ L m env ct (.Name x px) x scope cl Fin (.ref r) s₁ := by
  subst hab
  refine LCt.CompSrcT.range (n := n) hh F N hr (small_one (by omega) (by omega) (by omega) (by omega)) (by rw [rangeSize_nat]; congr 1; omega) (by rw [sizeLine_eq]; omega) fun g => ?_
  exact comp_filter (ks := rangeKs a n) p (rangeKs_length a n) range_P trivial hk hx hb (fun k t I oI C oC D m₂ ys h tk E' hm => turn g k t I oI C oC D m₂ ys h tk E' (mem_rangeKs hm).1 (mem_rangeKs hm).2) (fin g)
theorem srcU_list {β : Type} {ax : Addr} {vs : List Value} {ns : List Int} {k : Nat} {s₁ : Shared} {Fin : Shared → List Value → List (Addr × Obj) → Prop} (g : Int → β) (R : β → Value → Prop)
    (hh : A.handled = none) (F : Fr h₀ L s₁.heap m) (N : News h₀ L s₁.heap news) (hm : (ax, listOf vs.toArray k) ∈ news) (hi : IntsAre vs ns) (hl : ns.length ≤ 100)
    (turn : ∀ g9 k t I oI C oC D m₂ ys h tk (E' : Value → Shared → Prop), k ∈ ns → LCg.NsObj oC m₂ → m₂ x = some (.int k t) → Fr h₀ L h m → News h₀ L h ((I, oI) :: (C, oC) :: (D, LCg.lst ys) :: news) →
      wpAny (model prog w) A (eval elt (compEnvC scope cl C env)) (ElEnd h₀ L m { ({ s₁ with heap := g9 } : Shared) with heap := h, toks := tk } ((I, oI) :: (C, oC) :: (D, LCg.lst ys) :: news) (R (g k))) E' { ({ s₁ with heap := g9 } : Shared) with heap := h, toks := tk })
    (fin : ∀ g9 ys, Are R ys (ns.map g) → Fin { s₁ with heap := g9 } ys news) : SrcU prog w A h₀ L m env elt x scope cl Fin (.ref ax) s₁ := by
  have hlen := hi.length
  refine LCg.CompSrc.ledger hh F N hm (by rw [List.size_toArray, sizeLine_eq]; omega) fun g9 => ?_
  exact comp_map (ks := ns) g (fun k v => ∃ t, v = .int k t) R (by rw [List.size_toArray]; exact hlen.symm) (fun i v hi' hv => let ⟨k, t, a, b⟩ := list_P hi i v hi' hv; ⟨k, a, t, b⟩) (.inr ⟨_, hm, rfl, _, rfl⟩)
    (fun k v I oI C oC D m₂ ys h tk E' hm' hK hC hx F N => by obtain ⟨t, rfl⟩ := hK; exact turn g9 k t I oI C oC D m₂ ys h tk E' hm' hC hx F N) (fin g9)
theorem srcU_range {β : Type} {r : Addr} {a b : Int} {t u v : Tok} {n : Nat} {s₁ : Shared} {Fin : Shared → List Value → List (Addr × Obj) → Prop} (g : Int → β) (R : β → Value → Prop)
    (hh : A.handled = none) (F : Fr h₀ L s₁.heap m) (N : News h₀ L s₁.heap news) (hr : IsRange s₁.heap r a b 1 t u v) (ha : 0 ≤ a) (hab : b = a + (n : Int)) (hb9 : b ≤ 1000)
    (turn : ∀ g9 k t I oI C oC D m₂ ys h tk (E' : Value → Shared → Prop), a ≤ k → k < b → LCg.NsObj oC m₂ → m₂ x = some (.int k t) → Fr h₀ L h m → News h₀ L h ((I, oI) :: (C, oC) :: (D, LCg.lst ys) :: news) →
      wpAny (model prog w) A (eval elt (compEnvC scope cl C env)) (ElEnd h₀ L m { ({ s₁ with heap := g9 } : Shared) with heap := h, toks := tk } ((I, oI) :: (C, oC) :: (D, LCg.lst ys) :: news) (R (g k))) E' { ({ s₁ with heap := g9 } : Shared) with heap := h, toks := tk })
    (fin : ∀ g9 ys, Are R ys ((rangeKs a n).map g) → Fin { s₁ with heap := g9 } ys news) : SrcU prog w A h₀ L m env elt x scope cl Fin (.ref r) s₁ := by
  subst hab
  refine LCg.CompSrc.range (n := n) hh F N hr (small_one (by omega) (by omega) (by omega) (by omega)) (by rw [rangeSize_nat]; congr 1; omega) (by rw [sizeLine_eq]; omega) fun g9 => ?_
  exact comp_map (ks := rangeKs a n) g (fun k v => ∃ t, v = .int k t) R (rangeKs_length a n) (fun i v hi' hv => let ⟨k, t, a, b⟩ := range_P i v hi' hv; ⟨k, a, t, b⟩) trivial
    (fun k v I oI C oC D m₂ ys h tk E' hm' hK hC hx F N => by obtain ⟨t, rfl⟩ := hK; exact turn g9 k t I oI C oC D m₂ ys h tk E' (mem_rangeKs hm').1 (mem_rangeKs hm').2 hC hx F N) (fin g9)
end

/-- a for loop over a range's iterator, turn by turn -/
noncomputable abbrev rgO (a n : Int) : Obj := { cls := .type "range_iterator", dict := none, data := .fields #[rawInt a, rawInt n, rawInt 1], slots := #[] }
section
variable {prog : Program} {w : World} {A : Around} {E : Value → Shared → Prop} {s : Shared} {h₀ : Heap} {L It : Addr} {m : Str → Option Value} {news : List (Addr × Obj)} {a n : Int} {Q : Option Value → Shared → Prop}
theorem rg_next (F : Fr h₀ L s.heap m) (N : News h₀ L s.heap ((It, rgO a n) :: news)) (hne : ∀ q ∈ news, q.1 ≠ It) (hn : 0 < n)
    (h : ∀ h' t tk, Fr h₀ L h' m → News h₀ L h' ((It, rgO (a + 1) (n - 1)) :: news) → Q (some (.int a t)) { s with heap := h', toks := tk }) : wpAny (model prog w) A (pyNext (.ref It)) Q E s := by
  refine wpAny_pyNext_range_item (N _ (.head _)).1 hn fun h' e hs => ?_
  obtain ⟨F', N'⟩ := turn_it F N hne hs e
  exact h h' _ _ F' N'
theorem rg_end (hh : A.handled = none) (F : Fr h₀ L s.heap m) (N : News h₀ L s.heap ((It, rgO a n) :: news)) (hne : ∀ q ∈ news, q.1 ≠ It) (hn : n ≤ 0)
    (h : ∀ h', Fr h₀ L h' m → News h₀ L h' news → Q none { s with heap := h' }) : wpAny (model prog w) A (pyNext (.ref It)) Q E s := by
  refine wpAny_pyNext_range_end hh (N _ (.head _)).1 hn fun h' he => ?_
  obtain ⟨F', N'⟩ := ext_it F N hne he
  exact h h' F' N'
theorem rg_iter {r : Addr} {b : Int} {t u v : Tok} {Q : Value → Shared → Prop} (F : Fr h₀ L s.heap m) (N : News h₀ L s.heap news) (hr : IsRange s.heap r a b 1 t u v) (ha : 0 ≤ a) (hab : b = a + n) (hn : 0 ≤ n) (hb : b ≤ 1000)
    (h : ∀ It h', (∀ q ∈ news, q.1 < It) → @LT.lt Nat _ L It → Fr h₀ L h' m → News h₀ L h' ((It, rgO a n) :: news) → Q (.ref It) { s with heap := h' }) : wpAny (model prog w) A (pyIter (.ref r)) Q E s := by
  subst hab
  obtain ⟨k, rfl⟩ := Int.eq_ofNat_of_zero_le hn
  refine wpAny_pyIter_range hr (small_one (by omega) (by omega) (by omega) (by omega)) ?_
  rw [rangeSize_nat, show ((a + (k : Int) - a).toNat : Int) = (k : Int) by omega]
  exact h _ _ (fun q hq => Heap.lt_size (N q hq).1) F.ns.lt (F.keeps fun _ _ e => Heap.get?_push_of_some _ e) (News.push F N (rgO a k))
end
end Mine
end PartCmp

section PartSiz
open PySem PySem.Spec PySem.Calls PySem.W PyProof.Rows
set_option Elab.async false
set_option maxRecDepth 100000
set_option maxHeartbeats 8000000
namespace Mine
/-- the walk's lines are looked up afresh from here on -/
theorem syncSiz {M : Model} {A : Around} {E : Value → Shared → Prop} {s : Shared} {env : Env} {Q : Flow → Shared → Prop} (h : Q .next s) : wpAny M A (execs [] env) Q E s := by
  w_top off
  first | (walk1; exact h) | exact wpAny_execs_nil h

noncomputable abbrev siz (r0 r1 r2 : Int) (i : Nat) : List Int := (List.range i).filterMap (stream r0 r1 r2)
noncomputable abbrev isStop (x : Int) : Bool := ([0, 127] : List Int).any fun y => y == x
noncomputable abbrev stp (r0 r1 r2 : Int) (i : Nat) : List Int := (([r0, r1, r2] : List Int).take (i + 1)).filter isStop
/-- the rows that the law builds -/
noncomputable def Row (r0 r1 r2 : Int) : Prop := r0 ∈ ([1, 2, 3, 4, 5, 6] : List Int) ∧ r1 ∈ ([3, 1, 2, 4, 0, 127] : List Int) ∧ r2 ∈ ([0, 127, 2, 6] : List Int)
noncomputable def sizOk (r0 r1 r2 : Int) (i : Nat) : Bool :=
  if stp r0 r1 r2 i = [] ∧ i < 3 then siz r0 r1 r2 (i + 1) = siz r0 r1 r2 i ++ [([r0, r1, r2] : List Int).getD i 0]
  else if stp r0 r1 r2 i ≠ [] ∧ (stp r0 r1 r2 i).getD 0 0 = 0 then siz r0 r1 r2 i ≠ [] ∧ siz r0 r1 r2 (i + 1) = siz r0 r1 r2 i ++ [(siz r0 r1 r2 i).getD (-1 + ((siz r0 r1 r2 i).length : Int)).toNat 0]
  else siz r0 r1 r2 (i + 1) = siz r0 r1 r2 i
theorem siz_all : ∀ r0 ∈ ([1, 2, 3, 4, 5, 6] : List Int), ∀ r1 ∈ ([3, 1, 2, 4, 0, 127] : List Int), ∀ r2 ∈ ([0, 127, 2, 6] : List Int), ∀ i ∈ [0, 1, 2, 3], sizOk r0 r1 r2 i = true := by decide +kernel
theorem siz_step {r0 r1 r2 : Int} {i : Nat} (h : Row r0 r1 r2) (hi : i < 4) : sizOk r0 r1 r2 i = true :=
  siz_all r0 h.1 r1 h.2.1 r2 h.2.2 i (by simp; omega)
theorem siz1 {r0 r1 r2 : Int} {i : Nat} (h : Row r0 r1 r2) (hi : i < 4) (hs : stp r0 r1 r2 i = []) (h3 : i < 3) : siz r0 r1 r2 (i + 1) = siz r0 r1 r2 i ++ [([r0, r1, r2] : List Int).getD i 0] := by
  have a := siz_step h hi
  rw [sizOk, if_pos ⟨hs, h3⟩] at a
  exact of_decide_eq_true a
theorem siz2 {r0 r1 r2 : Int} {i : Nat} (h : Row r0 r1 r2) (hi : i < 4) (hs : stp r0 r1 r2 i ≠ []) (hz : (stp r0 r1 r2 i).getD 0 0 = 0) :
    siz r0 r1 r2 i ≠ [] ∧ siz r0 r1 r2 (i + 1) = siz r0 r1 r2 i ++ [(siz r0 r1 r2 i).getD (-1 + ((siz r0 r1 r2 i).length : Int)).toNat 0] := by
  have a := siz_step h hi
  rw [sizOk, if_neg (fun x => hs x.1), if_pos ⟨hs, hz⟩] at a
  exact of_decide_eq_true a
theorem siz3 {r0 r1 r2 : Int} {i : Nat} (h : Row r0 r1 r2) (hi : i < 4) (h1 : ¬ (stp r0 r1 r2 i = [] ∧ i < 3)) (h2 : ¬ (stp r0 r1 r2 i ≠ [] ∧ (stp r0 r1 r2 i).getD 0 0 = 0)) : siz r0 r1 r2 (i + 1) = siz r0 r1 r2 i := by
  have a := siz_step h hi
  rw [sizOk, if_neg h1, if_neg h2] at a
  exact of_decide_eq_true a
theorem siz_len {r0 r1 r2 : Int} {i : Nat} : (siz r0 r1 r2 i).length ≤ i := by
  have := List.length_filterMap_le (stream r0 r1 r2) (List.range i)
  simpa [siz] using this

local macro_rules | `(tactic| walk_at "exec Assign cons ListComp") => `(tactic| (k_here; refine stop_here ?_))

noncomputable abbrev szM (Sz Rw : Addr) (m0 : Str → Option Value) : Str → Option Value := fun y => if y = Str.ofString "sizes" then some (.ref Sz) else if y = Str.ofString "row" then some (.ref Rw) else m0 y
theorem siz_turn {w : World} {r0 r1 r2 : Int} {t0 t1 t2 ti : Tok} {Sz Rw It L' aq : Addr} {oq : Obj} {nR n i : Nat} {vs : List Value} {rg : Int} {m0 : Str → Option Value}
    {name qual : Str} {params : Arguments} {scope : Scope} {dV kV doc pm cdv ct oc : Value} {an od : Option Addr} {osl : Array (Option Value)} {st0 : Stmt} {target iter : PySem.Expr} {fbody orelse more : List Stmt} {fpos : Pos}
    {p : Program} {loose : List Str} {mean : ExcName → Option Value} {mg mb : Str → Option Value} {dp un : Nat} {gd : Option (List Code)} {cn : Str} {cs : Scope} {fa : Addr} {ccd : Value} {cl : List (Str × Addr)} {outer : List Env} {base g' : Heap} {L : Addr} {s : Shared} {Q : Flow → Shared → Prop} {E : Value → Shared → Prop}
    (ho : (hd.heap_39 w.params).lookup 109 = some ⟨oc, od, .func (fnOf name qual params (st0 :: .For target iter fbody orelse fpos :: more) scope dV kV doc pm an cdv ct), osl⟩)
    (B' : Below (ktrTop dp un gd cn cs L fa ccd cl outer) base (envX cn cs L fa ccd cl :: outer) g') (F : Fr g' L' s.heap (szM Sz Rw m0)) (X' : (hd.heap_39 w.params).In g') (T' : Top p loose mean mg mb g')
    (N : News g' L' s.heap [(Sz, listOf vs.toArray n), (Rw, rowO r0 t0 r1 t1 r2 t2 nR), (It, rgO (i + 1) rg), (aq, oq)]) (hSR : @LT.lt Nat _ Rw Sz) (hSA : @LT.lt Nat _ aq Sz) (hSI : @LT.lt Nat _ Sz It)
    (hi : IntsAre vs (siz r0 r1 r2 i)) (hrow : Row r0 r1 r2) (hi4 : i < 4) (hdp : dp + 9 < recursionLimit) (hun : un + 900 < cLine)
    (hgo : ∀ (n' : Nat) (vs' : List Value) (m' : Str → Option Value) (h' : Heap) (tk' : Nat), IntsAre vs' (siz r0 r1 r2 (i + 1)) → Fr g' L' h' (szM Sz Rw m') → News g' L' h' [(Sz, listOf vs'.toArray n'), (Rw, rowO r0 t0 r1 t1 r2 t2 nR), (It, rgO (i + 1) rg), (aq, oq)] →
      ForRest lawProg w ((ktrTop dp un gd cn cs L fa ccd cl outer).deeper (envOf qual scope L' 109 cdv)) E (envOf qual scope L' 109 cdv) target (.ref It) fbody orelse Q { s with heap := h', toks := tk' }) :
    wpAny (model lawProg w) ((ktrTop dp un gd cn cs L fa ccd cl outer).deeper (envOf qual scope L' 109 cdv)) (assign target (envOf qual scope L' 109 cdv) (.int i ti)) (fun _ s₂ => wpAny (model lawProg w) ((ktrTop dp un gd cn cs L fa ccd cl outer).deeper (envOf qual scope L' 109 cdv)) (execs fbody (envOf qual scope L' 109 cdv)) (ForPost lawProg w ((ktrTop dp un gd cn cs L fa ccd cl outer).deeper (envOf qual scope L' 109 cdv)) E (envOf qual scope L' 109 cdv) target (.ref It) fbody orelse Q) (fun _ _ => False) s₂) (fun _ _ => False) s := by
  revert hgo
  apply for_open ho (show (hd.heap_39 w.params).lookup 109 = some _ by k_is) (fun e => for_inj (nth1 e))
  clear ho
  intro hgo
  have hlen := siz_len (r0 := r0) (r1 := r1) (r2 := r2) (i := i)
  have hR3 : IntsAre [Value.int r0 t0, Value.int r1 t1, Value.int r2 t2] [r0, r1, r2] := .cons _ _ (.cons _ _ (.cons _ _ .nil))
  k_steps
  k_dflt (refine asg_T (F₀ := by k_asm) (by rfl) (by with_unfolding_all rfl) (by with_unfolding_all rfl) (by decide) (by rfl) (by decide) (by rfl) (by rfl) (by rfl) ?_)
  k_steps
  rename_i h1 D2 ws2 h2 F2 N2 hI2 hC2 hL2 l2
  have N3 := news_sub N2 (show ∀ q ∈ [(D2, listOf ws2.toArray 0), (Sz, listOf vs.toArray n), (Rw, rowO r0 t0 r1 t1 r2 t2 nR), (It, rgO (i + 1) rg), (aq, oq)], q ∈ _ by intro q hq; simp only [List.mem_cons, List.not_mem_nil, or_false] at hq ⊢; rcases hq with rfl | rfl | rfl | rfl | rfl <;> simp)
  clear N2 hC2 hL2
  refine srcT_list (ns := List.take (i + 1) [r0, r1, r2]) (k := 0) isStop rfl F2 N3 (.head _) hI2 (by rw [List.length_take]; simp; omega) rfl rfl rfl ?_ ?_
  · intro g k t I oI C oC D m₂ ys h tk E' hk hC hx F5 N5
    clear F2 N3 hgo
    k_steps
    exact TestEnd.mk (by assumption) (by assumption) (fun q hq => .tail _ hq) rfl
  · intro g ys hys D h tk F5 N5 off5
    clear F2 N3
    have hL5 := hys.length
    simp only [LCg.Off1] at off5
    obtain ⟨sl, hsl⟩ : ∃ sl, sl = stp r0 r1 r2 i := ⟨_, rfl⟩
    have hys2 : IntsAre ys sl := by rw [hsl]; exact hys
    clear hys hL5
    have hL5 := hys2.length
    by_cases hst : sl = []
    · subst hst
      cases hys2
      by_cases h3 : i < 3
      · have e1 := siz1 hrow hi4 hsl.symm h3
        k_steps
        rename News _ _ _ _ => NN
        have N9 := (news_drop (news_drop (news_drop NN)))
        rw [List.push_toArray] at N9
        exact hgo _ _ _ _ _ (by rw [e1]; exact hi.append (.cons _ _ .nil)) (fr_pad (fr_pad (by assumption) (Str.ofString "row") rfl) (Str.ofString "sizes") rfl) N9
      · have e1 := siz3 hrow hi4 (fun x => h3 x.2) (fun x => x.1 hsl.symm)
        k_steps
        rename News _ _ _ _ => NN
        exact hgo _ vs _ _ _ (by rw [e1]; exact hi) (fr_pad (fr_pad (by assumption) (Str.ofString "row") rfl) (Str.ofString "sizes") rfl) (news_drop (news_drop (news_drop (news_drop NN))))
    · have hpos : 0 < sl.length := List.length_pos_iff.mpr hst
      by_cases hz : sl.getD 0 0 = 0
      · obtain ⟨e0, e1⟩ := siz2 hrow hi4 (hsl ▸ hst) (hsl ▸ hz)
        have hpos2 := List.length_pos_iff.mpr e0
        k_steps
        rename News _ _ _ _ => NN
        have N9 := (news_drop (news_drop (news_drop (news_drop NN))))
        rw [List.push_toArray] at N9
        exact hgo _ _ _ _ _ (by rw [e1]; exact hi.append (.cons _ _ .nil)) (fr_pad (fr_pad (by assumption) (Str.ofString "row") rfl) (Str.ofString "sizes") rfl) N9
      · have e1 := siz3 hrow hi4 (fun x => hst (hsl.trans x.1)) (fun x => hz (hsl ▸ x.2))
        k_steps
        rename News _ _ _ _ => NN
        exact hgo _ vs _ _ _ (by rw [e1]; exact hi) (fr_pad (fr_pad (by assumption) (Str.ofString "row") rfl) (Str.ofString "sizes") rfl) (news_drop (news_drop (news_drop (news_drop NN))))

theorem siz_loop {w : World} {r0 r1 r2 : Int} {t0 t1 t2 : Tok} {Sz Rw It L' aq : Addr} {oq : Obj} {nR many : Nat}
    {name qual : Str} {params : Arguments} {scope : Scope} {dV kV doc pm cdv ct oc : Value} {an od : Option Addr} {osl : Array (Option Value)} {st0 : Stmt} {target iter : PySem.Expr} {fbody orelse more : List Stmt} {fpos : Pos}
    {p : Program} {loose : List Str} {mean : ExcName → Option Value} {mg mb : Str → Option Value} {dp un : Nat} {gd : Option (List Code)} {cn : Str} {cs : Scope} {fa : Addr} {ccd : Value} {cl : List (Str × Addr)} {outer : List Env} {base g' : Heap} {L : Addr} {Q : Flow → Shared → Prop} {E : Value → Shared → Prop}
    (ho : (hd.heap_39 w.params).lookup 109 = some ⟨oc, od, .func (fnOf name qual params (st0 :: .For target iter fbody orelse fpos :: more) scope dV kV doc pm an cdv ct), osl⟩) (hoe : orelse = []) (hlet : ∀ v, letOwnedTupleGo target (.ref It) v = pure ())
    (B' : Below (ktrTop dp un gd cn cs L fa ccd cl outer) base (envX cn cs L fa ccd cl :: outer) g') (X' : (hd.heap_39 w.params).In g') (T' : Top p loose mean mg mb g')
    (hSR : @LT.lt Nat _ Rw Sz) (hSA : @LT.lt Nat _ aq Sz) (hSI : @LT.lt Nat _ Sz It) (hrow : Row r0 r1 r2) (hm4 : many ≤ 4) (hdp : dp + 9 < recursionLimit) (hun : un + 900 < cLine) :
    ∀ (j i : Nat) (s : Shared) (n : Nat) (vs : List Value) (m0 : Str → Option Value), i + j = many → IntsAre vs (siz r0 r1 r2 i) → Fr g' L' s.heap (szM Sz Rw m0) → News g' L' s.heap [(Sz, listOf vs.toArray n), (Rw, rowO r0 t0 r1 t1 r2 t2 nR), (It, rgO i j), (aq, oq)] →
      (∀ (n' : Nat) (vs' : List Value) (m' : Str → Option Value) (h' : Heap) (tk' : Nat), IntsAre vs' (siz r0 r1 r2 many) → Fr g' L' h' (szM Sz Rw m') → News g' L' h' [(Sz, listOf vs'.toArray n'), (Rw, rowO r0 t0 r1 t1 r2 t2 nR), (aq, oq)] → Q .next { s with heap := h', toks := tk' }) →
      ForRest lawProg w ((ktrTop dp un gd cn cs L fa ccd cl outer).deeper (envOf qual scope L' 109 cdv)) E (envOf qual scope L' 109 cdv) target (.ref It) fbody orelse Q s := by
  subst hoe
  have hne : ∀ (n : Nat) (vs : List Value), ∀ q ∈ [(Sz, listOf vs.toArray n), (Rw, rowO r0 t0 r1 t1 r2 t2 nR), (aq, oq)], q.1 ≠ It := by
    intro n vs q hq
    simp only [List.mem_cons, List.not_mem_nil, or_false] at hq
    rcases hq with rfl | rfl | rfl
    · exact Nat.ne_of_lt hSI
    · exact Nat.ne_of_lt (Nat.lt_trans hSR hSI)
    · exact Nat.ne_of_lt (Nat.lt_trans hSA hSI)
  have pm : ∀ {a b c d : Addr × Obj}, ∀ q ∈ [c, a, b, d], q ∈ [a, b, c, d] := by
    intro a b c d q hq
    simp only [List.mem_cons, List.not_mem_nil, or_false] at hq ⊢
    rcases hq with rfl | rfl | rfl | rfl <;> simp
  have pm2 : ∀ {a b c d : Addr × Obj}, ∀ q ∈ [a, b, c, d], q ∈ [c, a, b, d] := by
    intro a b c d q hq
    simp only [List.mem_cons, List.not_mem_nil, or_false] at hq ⊢
    rcases hq with rfl | rfl | rfl | rfl <;> simp
  intro j
  induction j with
  | zero =>
    intro i s n vs m0 hij hi F N hQ
    refine for_turn hlet ?_
    refine rg_end rfl F (news_sub N pm) (hne _ _) (by simp) fun h' F' N' => ?_
    refine wpAny_execs_nil ?_
    have : i = many := by omega
    subst this
    exact hQ n vs _ h' _ hi F' N'
  | succ j ih =>
    intro i s n vs m0 hij hi F N hQ
    refine for_turn hlet ?_
    refine rg_next F (news_sub N pm) (hne _ _) (by omega) fun h' t tk F' N' => ?_
    dsimp only
    refine siz_turn (i := i) (rg := ((j + 1 : Nat) : Int) - 1) ho B' F' X' T' (news_sub N' pm2) hSR hSA hSI hi hrow (by omega) hdp hun ?_
    intro n' vs' m' h2 tk2 hi2 F2 N2
    refine ih (i + 1) _ n' vs' m' (by omega) hi2 F2 ?_ hQ
    have e : ((j + 1 : Nat) : Int) - 1 = (j : Int) := by omega
    rw [e] at N2
    exact N2

theorem sizes_spec {w : World} {r0 r1 r2 : Int} {many : Nat} {tm t0 t1 t2 : Tok} {Rw : Addr} {nR : Nat} {news : List (Addr × Obj)}
    {p : Program} {loose : List Str} {mean : ExcName → Option Value} {mg mb : Str → Option Value} {dp un : Nat} {gd : Option (List Code)} {cn : Str} {cs : Scope} {fa : Addr} {ccd : Value} {cl : List (Str × Addr)} {outer : List Env} {A₀ : Around} {base h₀ : Heap} {L : Addr} {m : Str → Option Value} {s : Shared} {Q E : Value → Shared → Prop}
    (B : Below A₀ base outer h₀) (F : Fr h₀ L s.heap m) (X : (hd.heap_39 w.params).In h₀) (N : News h₀ L s.heap news) (T : Top p loose mean mg mb h₀) (hk : cs.kind = .function)
    (hRw : (Rw, rowO r0 t0 r1 t1 r2 t2 nR) ∈ news) (hrow : Row r0 r1 r2) (hm4 : many ≤ 4) (hdp : dp + 10 < recursionLimit) (hun : un + 1000 < cLine)
    (hret : ∀ (D : Addr) (n' : Nat) (vs' : List Value) (h' : Heap) (tk' : Nat), IntsAre vs' (siz r0 r1 r2 many) → AllLt D news → Fr h₀ L h' m → News h₀ L h' ((D, listOf vs'.toArray n') :: news) → Q (.ref D) { s with heap := h', toks := tk' }) :
      wpAny (model Challenge.rw_rs0150_01.row.prog w) (ktrTop dp un gd cn cs L fa ccd cl outer) (call (.ref 109) [.ref Rw, .int many tm]) Q E s := by
  obtain ⟨aq, oq, hq, hmax⟩ := news_max hRw
  have hsub : ∀ q ∈ [(Rw, rowO r0 t0 r1 t1 r2 t2 nR), (aq, oq)], q ∈ news := by
    intro q hq
    simp only [List.mem_cons, List.not_mem_nil, or_false] at hq
    rcases hq with rfl | rfl <;> assumption
  have hw := (show (hd.heap_39 w.params).lookup 109 = some _ by k_is)
  have hu := news_uniq N hsub
  (k_with "exec For Name Call cons nil" => (with_unfolding_all refine' for_start ?_ ?hs; (case hs => exact fun _ => rfl); k_whole))
  refine wpAny_call ?_
  k_dflt (refine' code_defS (small := [(Rw, rowO r0 t0 r1 t1 r2 t2 nR), (aq, oq)]) ?k1 ?k2 ?k3 ?k4 ?k5 ?kS ?kA ?kF ?kK ?k6 ?k7 ?k8 ?k9 ?kB ?_ ?c2 ?c3 ?c4 ?c5; (case kA => exact rfl); (case kF => exact rfl); (case kK => assumption); (case k1 => k_asm); (case k2 => k_asm); (case k3 => k_asm); (case k4 => exact N); (case k5 => k_asm); (case kS => exact hsub); (case k6 => k_is); (case k7 => k_is); (case k8 => ktr_room); (case k9 => exact BindsTo.of_eq rfl); (case c5 => decide); (case kB => exact locs rfl); (case c2 => exact rfl); (case c3 => exact rfl); (case c4 => exact rfl); k_whole; intro g' L' h' FG' F' N' B' X' T' lL'; (try dsimp only); (try k_lift B'); (try k_fold))
  refine gen_toks fun tk0 => ?_
  have N0 := N
  clear N
  k_steps
  rename (@LT.lt Nat _ Rw _ ∧ @LT.lt Nat _ aq _) => lS
  refine rg_iter (a := 0) (n := (many : Int)) (by assumption) (by assumption) (by assumption) (by omega) (by omega) (by omega) (by omega) ?_
  intro It h3 hIt hLIt F3 N3
  refine siz_loop (r0 := r0) (r1 := r1) (r2 := r2) (t0 := t0) (t1 := t1) (t2 := t2) (nR := nR) (many := many) (aq := aq) (oq := oq) hw rfl (fun _ => rfl) B' X' T' lS.1 lS.2 (hIt _ (.head _)) hrow hm4 (by ktr_room) (by ktr_units) many 0 _ 0 [] _ (by omega) .nil (fr_pad (fr_pad F3 (Str.ofString "row") rfl) (Str.ofString "sizes") rfl) (news_sub N3 (by intro q hq; simp only [List.mem_cons, List.not_mem_nil, or_false] at hq ⊢; rcases hq with rfl | rfl | rfl | rfl <;> simp)) ?_
  intro n4 vs4 m4 h4 tk4 hi4 F4 N4
  clear F3 N3
  k_steps
  rename_i hsv
  exact hret _ n4 vs4 h4 tk4 hi4 (max_lt hmax lS.2) (by assumption) (news_join (add := [(_, listOf vs4.toArray n4)]) N0 hsv hu (by assumption))
end Mine
end PartSiz

section PartRa0
open PySem PySem.Spec PySem.Calls PySem.W PyProof.Rows
set_option Elab.async false
set_option maxRecDepth 100000
set_option maxHeartbeats 8000000
namespace Mine
theorem fr_dup {h₀ h : Heap} {L : Addr} {m : Str → Option Value} {a : Str} {x z : Option Value} (F : Fr h₀ L h (fun y => if y = a then x else if y = a then z else m y)) : Fr h₀ L h (fun y => if y = a then x else m y) := by
  have e : (fun y => if y = a then x else if y = a then z else m y) = (fun y => if y = a then x else m y) := by
    funext y
    by_cases h1 : y = a <;> simp [h1]
  rw [← e]; exact F
theorem updF_mem {c : Addr} {o : Obj} {news : List (Addr × Obj)} {g : Obj → List (Addr × Obj)} (U : UpdF c o news g) : (c, o) ∈ news := by
  induction U with
  | head _ => exact .head _
  | tail _ _ ih => exact .tail _ ih
theorem updF_fresh {c D : Addr} {o ob : Obj} {news : List (Addr × Obj)} {g : Obj → List (Addr × Obj)} (l : ∀ p ∈ news, p.1 < D) (U : UpdF c o news g) : UpdF c o ((D, ob) :: news) (fun o' => (D, ob) :: g o') :=
  .tail (Nat.ne_of_gt (l _ (updF_mem U))) U
end Mine
end PartRa0

section Rules2
open PySem PySem.W PyProof.Rows Mine
local macro_rules | `(tactic| k_updF) => `(tactic| first | assumption | (refine' updF_fresh ?l9 ?u9; (case l9 => assumption); (case u9 => k_updF)))
local macro_rules | `(tactic| k_mem) => `(tactic| assumption)
local macro_rules | `(tactic| is_list) => `(tactic| exact News.isList (by k_asm) (by assumption))
local macro_rules | `(tactic| walk_at "compareOp NotEq ref ref") => `(tactic| (k_here; refine stop_here ?_))
local macro_rules | `(tactic| walk_at "eval ListComp") => `(tactic| (k_here; refine stop_here ?_))

section PartRa
open PySem PySem.Spec PySem.Calls PySem.W PyProof.Rows
set_option Elab.async false
set_option maxRecDepth 100000
set_option maxHeartbeats 8000000
namespace Mine
/-- the walk's lines are looked up afresh from here on -/
theorem syncRa {M : Model} {A : Around} {E : Value → Shared → Prop} {s : Shared} {env : Env} {Q : Flow → Shared → Prop} (h : Q .next s) : wpAny M A (execs [] env) Q E s := by
  w_top off
  first | (walk1; exact h) | exact wpAny_execs_nil h

theorem s2_spec {w : World} {C : Addr} {c0 c1 c2 : Int} {t0 t1 t2 : Tok} {n : Nat} {o1 : Obj} {v1 : Option Value} {news : List (Addr × Obj)} {g : Obj → List (Addr × Obj)} {m0 : Str → Option Value} {cd : Value} {p : Program} {loose : List Str} {mean : ExcName → Option Value} {mg mb : Str → Option Value} {base h₀ : Heap} {L fa : Addr} {s : Shared} {Q : Flow → Shared → Prop} {E : Value → Shared → Prop}
    (B : Below callerA base [] h₀) (X : (hd.heap_39 w.params).In h₀) (T : Top p loose mean mg mb h₀)
    (F : Fr h₀ L s.heap (fun y => if y = Str.ofString "cells" then some (.ref C) else m0 y)) (N : News h₀ L s.heap news) (hm : (C, c3 c0 t0 c1 t1 c2 t2 n) ∈ news) (U : UpdF (L + 1) o1 news g) (hd1 : o1.data = .cell v1)
    (hret : ∀ (h' : Heap) (tk' : Nat) (o' : Obj) (t : Tok), o'.data = .cell (some (.int (([12, 6, 8, 9, 10, 4, 7, 5] : List Int).getD (c0.fmod 8).toNat 0) t)) → Fr h₀ L h' (fun y => if y = Str.ofString "cells" then some (.ref C) else m0 y) → News h₀ L h' (g o') → Q .next { s with heap := h', toks := tk' }) :
    wpAny (model lawProg w) (callerA.deeper (lawEnv w L fa cd)) (exec (lawS w 2) (lawEnv w L fa cd)) Q E s := by
  dsimp only [in8, rulS, lawS, lawB, lawQ, lawSc, lawEnv, forB, forT, forI, pkBody, pkQual, pkScope, nthS]
  have hi : IntsAre [Value.int c0 t0, Value.int c1 t1, Value.int c2 t2] [c0, c1, c2] := .cons _ _ (.cons _ _ (.cons _ _ .nil))
  k_steps
  rename News _ _ _ _ => NN
  exact hret _ _ _ _ (by assumption) (by assumption) (news_drop NN)

theorem t0_spec {w : World} {c : Int} {tc : Tok} {o2 : Obj} {v2 : Option Value} {g : Obj → List (Addr × Obj)} {news : List (Addr × Obj)} {m0 : Str → Option Value} {cd : Value} {p : Program} {loose : List Str} {mean : ExcName → Option Value} {mg mb : Str → Option Value} {base h₀ : Heap} {L fa : Addr} {s : Shared} {Q : Flow → Shared → Prop} {E : Value → Shared → Prop}
    (B : Below callerA base [] h₀) (X : (hd.heap_39 w.params).In h₀) (T : Top p loose mean mg mb h₀)
    (F : Fr h₀ L s.heap (fun y => if y = Str.ofString "cell" then some (.int c tc) else m0 y)) (N : News h₀ L s.heap news) (U : UpdF (L + 1 + 1) o2 news g) (hd2 : o2.data = .cell v2)
    (hret : ∀ (h' : Heap) (tk' : Nat) (o' : Obj) (t : Tok), o'.data = .cell (some (.int (c.fmod 41 - 20) t)) → Fr h₀ L h' (fun y => if y = Str.ofString "cell" then some (.int c tc) else m0 y) → News h₀ L h' (g o') → Q .next { s with heap := h', toks := tk' }) :
    wpAny (model lawProg w) (callerA.deeper (lawEnv w L fa cd)) (exec (rulS w 0) (lawEnv w L fa cd)) Q E s := by
  dsimp only [in8, rulS, lawS, lawB, lawQ, lawSc, lawEnv, forB, forT, forI, pkBody, pkQual, pkScope, nthS]
  k_steps
  exact hret _ _ _ _ (by assumption) (by assumption) (by assumption)

theorem t1_spec {w : World} {c : Int} {tc : Tok} {news : List (Addr × Obj)} {m0 : Str → Option Value} {cd : Value} {p : Program} {loose : List Str} {mean : ExcName → Option Value} {mg mb : Str → Option Value} {base h₀ : Heap} {L fa : Addr} {s : Shared} {Q : Flow → Shared → Prop} {E : Value → Shared → Prop}
    (B : Below callerA base [] h₀) (X : (hd.heap_39 w.params).In h₀) (T : Top p loose mean mg mb h₀)
    (F : Fr h₀ L s.heap (fun y => if y = Str.ofString "cell" then some (.int c tc) else m0 y)) (N : News h₀ L s.heap news)
    (hret : ∀ (h' : Heap) (tk' : Nat) (t : Tok), Fr h₀ L h' (fun y => if y = Str.ofString "cell" then some (.int (c.fdiv 41) t) else m0 y) → News h₀ L h' news → Q .next { s with heap := h', toks := tk' }) :
    wpAny (model lawProg w) (callerA.deeper (lawEnv w L fa cd)) (exec (rulS w 1) (lawEnv w L fa cd)) Q E s := by
  dsimp only [in8, rulS, lawS, lawB, lawQ, lawSc, lawEnv, forB, forT, forI, pkBody, pkQual, pkScope, nthS]
  k_steps
  exact hret _ _ _ (fr_dup (by assumption)) (by assumption)

theorem t2_spec {w : World} {c : Int} {tc : Tok} {news : List (Addr × Obj)} {m0 : Str → Option Value} {cd : Value} {p : Program} {loose : List Str} {mean : ExcName → Option Value} {mg mb : Str → Option Value} {base h₀ : Heap} {L fa : Addr} {s : Shared} {Q : Flow → Shared → Prop} {E : Value → Shared → Prop}
    (B : Below callerA base [] h₀) (X : (hd.heap_39 w.params).In h₀) (T : Top p loose mean mg mb h₀)
    (F : Fr h₀ L s.heap (fun y => if y = Str.ofString "cell" then some (.int c tc) else m0 y)) (N : News h₀ L s.heap news)
    (hret : ∀ (h' : Heap) (tk' : Nat) (Rw : Addr) (t0 t1 t2 : Tok) (n : Nat), AllLt Rw news → Fr h₀ L h' (fun y => if y = Str.ofString "row" then some (.ref Rw) else if y = Str.ofString "cell" then some (.int c tc) else m0 y) → News h₀ L h' ((Rw, rowO (1 + c.fmod 6) t0 (([3, 1, 2, 4, 0, 127] : List Int).getD ((c.fdiv 6).fmod 6).toNat 0) t1 (([0, 127, 2, 6] : List Int).getD ((c.fdiv 36).fmod 4).toNat 0) t2 n) :: news) → Q .next { s with heap := h', toks := tk' }) :
    wpAny (model lawProg w) (callerA.deeper (lawEnv w L fa cd)) (exec (rulS w 2) (lawEnv w L fa cd)) Q E s := by
  dsimp only [in8, rulS, lawS, lawB, lawQ, lawSc, lawEnv, forB, forT, forI, pkBody, pkQual, pkScope, nthS]
  k_steps
  rename News _ _ _ _ => NN
  rename (_ ∧ _ ∧ AllLt _ news) => l9
  exact hret _ _ _ _ _ _ _ l9.2.2 (by assumption) (news_sub NN (by intro q hq; rcases List.mem_cons.mp hq with rfl | hq; exact .head _; exact .tail _ (.tail _ (.tail _ hq))))

theorem t3_spec {w : World} {c : Int} {tc : Tok} {news : List (Addr × Obj)} {m0 : Str → Option Value} {cd : Value} {p : Program} {loose : List Str} {mean : ExcName → Option Value} {mg mb : Str → Option Value} {base h₀ : Heap} {L fa : Addr} {s : Shared} {Q : Flow → Shared → Prop} {E : Value → Shared → Prop}
    (B : Below callerA base [] h₀) (X : (hd.heap_39 w.params).In h₀) (T : Top p loose mean mg mb h₀)
    (F : Fr h₀ L s.heap (fun y => if y = Str.ofString "cell" then some (.int c tc) else m0 y)) (N : News h₀ L s.heap news)
    (hret : ∀ (h' : Heap) (tk' : Nat) (t : Tok), Fr h₀ L h' (fun y => if y = Str.ofString "many" then some (.int (3 + (c.fdiv 144).fmod 3) t) else if y = Str.ofString "cell" then some (.int c tc) else m0 y) → News h₀ L h' news → Q .next { s with heap := h', toks := tk' }) :
    wpAny (model lawProg w) (callerA.deeper (lawEnv w L fa cd)) (exec (rulS w 3) (lawEnv w L fa cd)) Q E s := by
  dsimp only [in8, rulS, lawS, lawB, lawQ, lawSc, lawEnv, forB, forT, forI, pkBody, pkQual, pkScope, nthS]
  k_steps
  exact hret _ _ _ (by assumption) (by assumption)
end Mine
end PartRa

section PartRb
open PySem PySem.Spec PySem.Calls PySem.W PyProof.Rows
set_option Elab.async false
set_option maxRecDepth 100000
set_option maxHeartbeats 8000000
namespace Mine
/-- the walk's lines are looked up afresh from here on -/
theorem syncRb {M : Model} {A : Around} {E : Value → Shared → Prop} {s : Shared} {env : Env} {Q : Flow → Shared → Prop} (h : Q .next s) : wpAny M A (execs [] env) Q E s := by
  w_top off
  first | (walk1; exact h) | exact wpAny_execs_nil h
local macro_rules | `(tactic| k_mem) => `(tactic| first | assumption | solve_by_elim)

theorem t4_spec {w : World} {start many ring r0 r1 r2 : Int} {ts tm tr t0 t1 t2 : Tok} {nR : Nat} {Rw : Addr} {o1 o2 o3 : Obj} {v3 : Option Value} {m0 : Str → Option Value} {news : List (Addr × Obj)} {g3 : Obj → Addr → Obj → Obj → Addr → Obj → Obj → List (Addr × Obj)} {oA ocA oB ocB : Obj} {cA cB : Addr} {g : Obj → Addr → Obj → Obj → Addr → Obj → List (Addr × Obj)} {cd : Value} {p : Program} {loose : List Str} {mean : ExcName → Option Value} {mg mb : Str → Option Value} {base h₀ : Heap} {L fa : Addr} {s : Shared} {Q : Flow → Shared → Prop} {E : Value → Shared → Prop}
    (B : Below callerA base [] h₀) (X : (hd.heap_39 w.params).In h₀) (T : Top p loose mean mg mb h₀)
    (F : Fr h₀ L s.heap (fun y => if y = Str.ofString "row" then some (.ref Rw) else if y = Str.ofString "many" then some (.int many tm) else m0 y)) (N : News h₀ L s.heap news) (U : Tb2 oA cA ocA oB cB ocB news g) (hTA : TabP 30 32 4 q30 oA cA ocA) (hTB : TabP 37 47 4 q37 oB cB ocB) (hcA : cA ≠ 37) (hcB : cB ≠ 30)
    (hm1 : (L + 1, o1) ∈ news) (hd1 : o1.data = .cell (some (.int ring tr))) (hm2 : (L + 1 + 1, o2) ∈ news) (hd2 : o2.data = .cell (some (.int start ts)))
    (hU3 : ∀ oA' cA' ocA' oB' cB' ocB', (cA' = cA ∨ ∀ p ∈ news, p.1 < cA') → (cB' = cB ∨ ∀ p ∈ news, p.1 < cB') → UpdF (L + 1 + 1 + 1) o3 (g oA' cA' ocA' oB' cB' ocB') (g3 oA' cA' ocA' oB' cB' ocB')) (hd3 : o3.data = .cell v3)
    (hRw : ∀ oA cA ocA oB cB ocB, (Rw, rowO r0 t0 r1 t1 r2 t2 nR) ∈ g oA cA ocA oB cB ocB) (hr0 : 1 ≤ r0 ∧ r0 ≤ 6) (hst : ∀ n v, stream r0 r1 r2 n = some v → 1 ≤ v ∧ v ≤ 6) (hs : -20 ≤ start ∧ start ≤ 20) (hm : 2 ≤ many ∧ many ≤ 5) (hr : 4 ≤ ring ∧ ring ≤ 12)
    (hret : ∀ (h' : Heap) (tk' : Nat) (gens' : Array GenState) (D : Addr) (n' : Nat) (vs' : List Value) (o3' : Obj) (oA' : Obj) (cA' : Addr) (ocA' : Obj) (oB' : Obj) (cB' : Addr) (ocB' : Obj), IntsAre vs' (runP ring (many - 1).toNat start [start % ring] (stream r0 r1 r2)) → (AllBare s.gens → AllBare gens') → TabF 30 32 4 q30 oA' cA' ocA' → TabF 37 47 4 q37 oB' cB' ocB' → (TabF 30 32 4 q30 oA cA ocA → oA' = oA ∧ cA' = cA ∧ ocA' = ocA) → (TabF 37 47 4 q37 oB cB ocB → oB' = oB ∧ cB' = cB ∧ ocB' = ocB) → cA' ≠ 37 → cB' ≠ 30 → (cA' = cA ∨ ∀ p ∈ news, p.1 < cA') → (cB' = cB ∨ ∀ p ∈ news, p.1 < cB') →
      AllLt D (g oA' cA' ocA' oB' cB' ocB') → o3'.data = .cell (some (.ref D)) → Fr h₀ L h' (fun y => if y = Str.ofString "row" then some (.ref Rw) else if y = Str.ofString "many" then some (.int many tm) else m0 y) → News h₀ L h' ((D, listOf vs'.toArray n') :: g3 oA' cA' ocA' oB' cB' ocB' o3') → Q .next { s with heap := h', toks := tk', gens := gens' }) :
    wpAny (model lawProg w) (callerA.deeper (lawEnv w L fa cd)) (exec (rulS w 4) (lawEnv w L fa cd)) Q E s := by
  dsimp only [in8, rulS, lawS, lawB, lawQ, lawSc, lawEnv, forB, forT, forI, pkBody, pkQual, pkScope, nthS]
  k_steps
  refine places_spec (g := g) (news := news) B (by assumption) X (by assumption) T rfl U hTA hTB hcA hcB hRw hr0 hst hs hm hr (by ktr_room) (by ktr_units) ?_
  intro D9 n9 vs9 gens9 oA9 cA9 ocA9 oB9 cB9 ocB9 h9 tk9 hi9 hb9 hA9 hB9 sA9 sB9 hcA9 hcB9 fA9 fB9 lD9 F9 N9
  have l9 := allLt_mem lD9
  have U9 := hU3 oA9 cA9 ocA9 oB9 cB9 ocB9 fA9 fB9
  (try dsimp only)
  k_steps
  exact hret _ _ _ _ _ _ _ _ _ _ _ _ _ hi9 hb9 hA9 hB9 sA9 sB9 hcA9 hcB9 fA9 fB9 lD9 (by assumption) (by assumption) (by assumption)
end Mine
end PartRb

section PartRc
open PySem PySem.Spec PySem.Calls PySem.W PyProof.Rows
set_option Elab.async false
set_option maxRecDepth 100000
set_option maxHeartbeats 8000000
namespace Mine
/-- the walk's lines are looked up afresh from here on -/
theorem syncRc {M : Model} {A : Around} {E : Value → Shared → Prop} {s : Shared} {env : Env} {Q : Flow → Shared → Prop} (h : Q .next s) : wpAny M A (execs [] env) Q E s := by
  w_top off
  first | (walk1; exact h) | exact wpAny_execs_nil h

theorem t5_spec {w : World} {many r0 r1 r2 : Int} {k : Nat} {tm t0 t1 t2 : Tok} {nR : Nat} {Rw : Addr} {o4 : Obj} {v4 : Option Value} {g4 : Obj → List (Addr × Obj)} {news : List (Addr × Obj)} {m0 : Str → Option Value} {cd : Value} {p : Program} {loose : List Str} {mean : ExcName → Option Value} {mg mb : Str → Option Value} {base h₀ : Heap} {L fa : Addr} {s : Shared} {Q : Flow → Shared → Prop} {E : Value → Shared → Prop}
    (B : Below callerA base [] h₀) (X : (hd.heap_39 w.params).In h₀) (T : Top p loose mean mg mb h₀)
    (F : Fr h₀ L s.heap (fun y => if y = Str.ofString "row" then some (.ref Rw) else if y = Str.ofString "many" then some (.int many tm) else m0 y)) (N : News h₀ L s.heap news) (U4 : UpdF (L + 1 + 1 + 1 + 1) o4 news g4) (hd4 : o4.data = .cell v4)
    (hRw : (Rw, rowO r0 t0 r1 t1 r2 t2 nR) ∈ news) (hrow : Row r0 r1 r2) (hmk : many - 1 = (k : Int)) (hk4 : k ≤ 4)
    (hret : ∀ (h' : Heap) (tk' : Nat) (D : Addr) (n' : Nat) (vs' : List Value) (o4' : Obj), IntsAre vs' (siz r0 r1 r2 k) → AllLt D news → o4'.data = .cell (some (.ref D)) → Fr h₀ L h' (fun y => if y = Str.ofString "row" then some (.ref Rw) else if y = Str.ofString "many" then some (.int many tm) else m0 y) → News h₀ L h' ((D, listOf vs'.toArray n') :: g4 o4') → Q .next { s with heap := h', toks := tk' }) :
    wpAny (model lawProg w) (callerA.deeper (lawEnv w L fa cd)) (exec (rulS w 5) (lawEnv w L fa cd)) Q E s := by
  dsimp only [in8, rulS, lawS, lawB, lawQ, lawSc, lawEnv, forB, forT, forI, pkBody, pkQual, pkScope, nthS]
  k_steps
  rw [hmk]
  refine sizes_spec B (by assumption) X (by assumption) T rfl hRw hrow hk4 (by ktr_room) (by ktr_units) ?_
  intro D9 n9 vs9 h9 tk9 hi9 lD9 F9 N9
  have l9 := allLt_mem lD9
  (try dsimp only)
  k_steps
  exact hret _ _ _ _ _ _ hi9 lD9 (by assumption) (by assumption) (by assumption)
theorem off1_mem {D : Addr} : ∀ {l : List (Addr × Obj)}, LCg.Off1 D l → ∀ q ∈ l, q.1 ≠ D
  | [], _, _, h => nomatch h
  | _ :: _, x, p, h => by
    rcases List.mem_cons.mp h with rfl | h
    · exact x.1
    · exact off1_mem x.2 p h
local macro_rules | `(tactic| walk_at "exec Assign cons ListComp") => `(tactic| (k_here; refine stop_here ?_))

theorem t6_spec {w : World} {start ring : Int} {sizes : List Int} {ts tr : Tok} {Sz : Addr} {nS : Nat} {vsS : List Value} {o1 o2 o4 : Obj} {news : List (Addr × Obj)} {m0 : Str → Option Value} {cd : Value} {p : Program} {loose : List Str} {mean : ExcName → Option Value} {mg mb : Str → Option Value} {base h₀ : Heap} {L fa : Addr} {s : Shared} {Q : Flow → Shared → Prop} {E : Value → Shared → Prop}
    (B : Below callerA base [] h₀) (X : (hd.heap_39 w.params).In h₀) (T : Top p loose mean mg mb h₀)
    (F : Fr h₀ L s.heap m0) (N : News h₀ L s.heap news)
    (hm1 : (L + 1, o1) ∈ news) (hd1 : o1.data = .cell (some (.int ring tr))) (hm2 : (L + 1 + 1, o2) ∈ news) (hd2 : o2.data = .cell (some (.int start ts))) (hm4 : (L + 1 + 1 + 1 + 1, o4) ∈ news) (hd4 : o4.data = .cell (some (.ref Sz)))
    (hSz : (Sz, listOf vsS.toArray nS) ∈ news) (hi : IntsAre vsS sizes) (hl : sizes.length ≤ 4) (hr : 4 ≤ ring ∧ ring ≤ 12)
    (hret : ∀ (h' : Heap) (tk' : Nat) (D : Addr) (n' : Nat) (vs' : List Value), IntsAre vs' ((rangeKs 0 (sizes.length + 1)).map fun k => (start + (sizes.take k.toNat).sum) % ring) → (∀ q ∈ news, q.1 ≠ D) → Fr h₀ L h' (fun y => if y = Str.ofString "told" then some (.ref D) else m0 y) → News h₀ L h' ((D, listOf vs'.toArray n') :: news) → Q .next { s with heap := h', toks := tk' }) :
    wpAny (model lawProg w) (callerA.deeper (lawEnv w L fa cd)) (exec (rulS w 6) (lawEnv w L fa cd)) Q E s := by
  dsimp only [in8, rulS, lawS, lawB, lawQ, lawSc, lawEnv, forB, forT, forI, pkBody, pkQual, pkScope, nthS]
  have hlv := hi.length
  k_steps
  k_dflt (refine asg_U (F₀ := by k_asm) (by rfl) (by with_unfolding_all rfl) (by with_unfolding_all rfl) (by decide) (by rfl) (by decide) (by rfl) (by rfl) (by rfl) ?_)
  k_steps
  refine srcU_range (n := sizes.length + 1) (news := news) (fun k => (start + (sizes.take k.toNat).sum) % ring) (fun k v => ∃ t, v = .int k t) rfl (by assumption) (by assumption) (by assumption) (by omega) (by push_cast; omega) (by omega) ?_ ?_
  · intro g9 k t I oI C oC D m₂ ys h tk E' hk0 hk1 hC hx F5 N5
    clear hret
    k_steps
    exact ElEnd.mk (by assumption) (by assumption) (fun q hq => .tail _ hq) ⟨_, by rw [Int.fmod_eq_emod_of_nonneg _ (by omega)]⟩
  · intro g9 ys hys D h tk F5 N5 off5
    exact hret h tk D _ ys hys.ints (off1_mem off5) F5 N5
end Mine
end PartRc

section PartRd
open PySem PySem.Spec PySem.Calls PySem.W PyProof.Rows
set_option Elab.async false
set_option maxRecDepth 100000
set_option maxHeartbeats 8000000
namespace Mine
/-- the walk's lines are looked up afresh from here on -/
theorem syncRd {M : Model} {A : Around} {E : Value → Shared → Prop} {s : Shared} {env : Env} {Q : Flow → Shared → Prop} (h : Q .next s) : wpAny M A (execs [] env) Q E s := by
  w_top off
  first | (walk1; exact h) | exact wpAny_execs_nil h
theorem lawU {env : Env} : (callerA.deeper env).units + 64 < cLine := by show 4 + 3 + 64 < 9900; decide

theorem t7_spec {w : World} {To Pl : Addr} {nT nP : Nat} {vsT vsP : List Value} {ts ps : List Int} {o3 : Obj} {news : List (Addr × Obj)} {m0 : Str → Option Value} {cd : Value} {p : Program} {loose : List Str} {mean : ExcName → Option Value} {mg mb : Str → Option Value} {base h₀ : Heap} {L fa : Addr} {s : Shared} {Q : Flow → Shared → Prop} {E : Value → Shared → Prop}
    (B : Below callerA base [] h₀) (X : (hd.heap_39 w.params).In h₀) (T : Top p loose mean mg mb h₀)
    (F : Fr h₀ L s.heap (fun y => if y = Str.ofString "told" then some (.ref To) else m0 y)) (N : News h₀ L s.heap news)
    (hm3 : (L + 1 + 1 + 1, o3) ∈ news) (hd3 : o3.data = .cell (some (.ref Pl))) (hPl : (Pl, listOf vsP.toArray nP) ∈ news) (hiP : IntsAre vsP ps) (hTo : (To, listOf vsT.toArray nT) ∈ news) (hiT : IntsAre vsT ts) (hlT : ts.length ≤ 5) (hlP : ps.length ≤ 5)
    (hpl : ∀ l : List Int, l.Perm ts → l.Pairwise (· ≤ ·) → l = ps)
    (hret : ∀ (h' : Heap) (tk' : Nat), Fr h₀ L h' (fun y => if y = Str.ofString "told" then some (.ref To) else m0 y) → News h₀ L h' news → Q .next { s with heap := h', toks := tk' }) :
    wpAny (model lawProg w) (callerA.deeper (lawEnv w L fa cd)) (exec (rulS w 7) (lawEnv w L fa cd)) Q E s := by
  dsimp only [in8, rulS, lawS, lawB, lawQ, lawSc, lawEnv, forB, forT, forI, pkBody, pkQual, pkScope, nthS]
  have hlv := hiT.length
  have hlw := hiP.length
  k_steps
  rename_i D9 v9 n9 c9 h9 F9 N9 l9 i9 e9 p9 o9 b9 p0
  refine ne_intsK (News.isList N9 (.tail _ hPl)) hiP (News.isList N9 (.head _)) i9 lawU ?_
  obtain rfl := hpl n9 p9 o9
  rw [decide_eq_true rfl]
  clear b9 p9 p0 o9
  k_steps
  exact hret _ _ (by assumption) (news_drop (by assumption))

theorem t8_spec {w : World} {ring : Int} {tr : Tok} {Pl : Addr} {nP : Nat} {vsP : List Value} {ps : List Int} {o1 o3 oT oTc : Obj} {cT : Addr} {g1 : Obj → Addr → Obj → List (Addr × Obj)} {news : List (Addr × Obj)} {m0 : Str → Option Value} {cd : Value} {p : Program} {loose : List Str} {mean : ExcName → Option Value} {mg mb : Str → Option Value} {base h₀ : Heap} {L fa : Addr} {s : Shared} {Q : Flow → Shared → Prop} {E : Value → Shared → Prop}
    (B : Below callerA base [] h₀) (X : (hd.heap_39 w.params).In h₀) (T : Top p loose mean mg mb h₀)
    (F : Fr h₀ L s.heap m0) (N : News h₀ L s.heap news) (U : Tb1 37 oT cT oTc news g1) (hTF : TabF 37 47 4 q37 oT cT oTc)
    (hm1 : (L + 1, o1) ∈ news) (hd1 : o1.data = .cell (some (.int ring tr))) (hm3 : (L + 1 + 1 + 1, o3) ∈ news) (hd3 : o3.data = .cell (some (.ref Pl)))
    (hPl : (Pl, listOf vsP.toArray nP) ∈ news) (hi : IntsAre vsP ps) (hl : ps.length ≤ 5) (hso : ps.Pairwise (· ≤ ·)) (hr : 4 ≤ ring ∧ ring ≤ 12) (hds : ∀ d ∈ (rangeKs 0 ring.toNat).map (fun k => cntLe ps k - cntLt ps k), 0 ≤ d ∧ d < 2 ^ (6 : Int).toNat)
    (hret : ∀ (h' : Heap) (tk' : Nat) (t : Tok), Fr h₀ L h' (fun y => if y = Str.ofString "number" then some (.int (dval (2 ^ (6 : Int).toNat) ((rangeKs 0 ring.toNat).map fun k => cntLe ps k - cntLt ps k)) t) else m0 y) → News h₀ L h' news → Q .next { s with heap := h', toks := tk' }) :
    wpAny (model lawProg w) (callerA.deeper (lawEnv w L fa cd)) (exec (rulS w 8) (lawEnv w L fa cd)) Q E s := by
  dsimp only [in8, rulS, lawS, lawB, lawQ, lawSc, lawEnv, forB, forT, forI, pkBody, pkQual, pkScope, nthS]
  have hlv := hi.length
  k_steps
  k_dflt (refine list_U (F₀ := by k_asm) (by with_unfolding_all rfl) (by decide) (by rfl) (by decide) (by rfl) ?_)
  k_steps
  refine srcU_range (n := ring.toNat) (news := news) (fun k => cntLe ps k - cntLt ps k) (fun k v => ∃ t, v = .int k t) rfl (by assumption) (by assumption) (by assumption) (by omega) (by omega) (by omega) ?_ ?_
  · intro g9 k t I oI C oC D m₂ ys h tk E' hk0 hk1 hC hx F5 N5
    clear hret
    k_steps
    refine bisect_right_spec B F5 X N5 T rfl (.tail _ (.tail _ (.tail _ hPl))) hi hso (by omega) (by ktr_room) (by ktr_units) ?_
    intro t9 h9 tk9 F9 N9
    k_steps
    refine bisect_left_spec B (by assumption) X (by assumption) T rfl (.tail _ (.tail _ (.tail _ hPl))) hi hso (by omega) (by ktr_room) (by ktr_units) ?_
    intro t8 h8 tk8 F8 N8
    k_steps
    exact ElEnd.mk (by assumption) (by assumption) (fun q hq => hq) ⟨_, rfl⟩
  · intro g9 ys hys D h tk F5 N5 off5
    have hD37 : D ≠ 37 := fun e => off1_mem off5 _ (tb1_mem U) e.symm
    k_steps
    refine d2i_spec B F5 X N5 T rfl (Tb1.cons hD37 U) (.inr hTF) (.head _) hD37 hys.ints (by rw [List.length_map, rangeKs_length]; omega) (by decide) (by decide) hds (by ktr_room) (by ktr_units) ?_
    intro t9 o9 cc9 oc9 h9 tk9 hA9 sA9 fA9 F9 N9
    obtain ⟨rfl, rfl, rfl⟩ := sA9 hTF
    have N10 := news_drop N9
    rw [U.self] at N10
    clear N9
    k_steps
    exact hret _ _ _ (by assumption) (by assumption)

theorem t9_spec {w : World} {To : Addr} {nT : Nat} {vsT : List Value} {ts : List Int} {v : Int} {tv : Tok} {news : List (Addr × Obj)} {m0 : Str → Option Value} {cd : Value} {p : Program} {loose : List Str} {mean : ExcName → Option Value} {mg mb : Str → Option Value} {base h₀ : Heap} {L fa : Addr} {s : Shared} {Q : Flow → Shared → Prop} {E : Value → Shared → Prop}
    (B : Below callerA base [] h₀) (X : (hd.heap_39 w.params).In h₀) (T : Top p loose mean mg mb h₀)
    (F : Fr h₀ L s.heap (fun y => if y = Str.ofString "number" then some (.int v tv) else if y = Str.ofString "told" then some (.ref To) else m0 y)) (N : News h₀ L s.heap news)
    (hTo : (To, listOf vsT.toArray nT) ∈ news) (hi : IntsAre vsT ts) (hl : ts.length ≤ 5) (hb : ∀ x ∈ ts, 0 ≤ x ∧ x ≤ 12) (hsum : (ts.map fun p => (64 : Int) ^ p.toNat).sum = v)
    (hret : ∀ (h' : Heap) (tk' : Nat), Fr h₀ L h' (fun y => if y = Str.ofString "number" then some (.int v tv) else if y = Str.ofString "told" then some (.ref To) else m0 y) → News h₀ L h' news → Q .next { s with heap := h', toks := tk' }) :
    wpAny (model lawProg w) (callerA.deeper (lawEnv w L fa cd)) (exec (rulS w 9) (lawEnv w L fa cd)) Q E s := by
  dsimp only [in8, rulS, lawS, lawB, lawQ, lawSc, lawEnv, forB, forT, forI, pkBody, pkQual, pkScope, nthS]
  have hlv := hi.length
  k_steps
  k_dflt (refine list_U (F₀ := by k_asm) (by with_unfolding_all rfl) (by decide) (by rfl) (by decide) (by rfl) ?_)
  k_steps
  refine srcU_list (news := news) (fun p => (64 : Int) ^ p.toNat) (fun k v => ∃ t, v = .int k t) rfl (by assumption) (by assumption) hTo hi (by omega) ?_ ?_
  · intro g9 k t I oI C oC D m₂ ys h tk E' hk hC hx F5 N5
    clear hret
    have hk9 := hb k hk
    k_steps
    exact ElEnd.mk (by assumption) (by assumption) (fun q hq => hq) ⟨_, rfl⟩
  · intro g9 ys hys D h tk F5 N5 off5
    have hiy := hys.ints
    have hly := hiy.length
    rw [List.length_map] at hly
    k_steps
    exact hret _ _ (by assumption) (news_drop (by assumption))

theorem t10_spec {w : World} {Ru Pl : Addr} {n : Nat} {rvs : List Value} {o3 : Obj} {rest : List (Addr × Obj)} {m0 : Str → Option Value}  {cd : Value} {p : Program} {loose : List Str} {mean : ExcName → Option Value} {mg mb : Str → Option Value} {base h₀ : Heap} {L fa : Addr} {s : Shared} {Q : Flow → Shared → Prop} {E : Value → Shared → Prop}
    (B : Below callerA base [] h₀) (X : (hd.heap_39 w.params).In h₀) (T : Top p loose mean mg mb h₀)
    (F : Fr h₀ L s.heap (fun y => if y = Str.ofString "rulers" then some (.ref Ru) else m0 y)) (N : News h₀ L s.heap ((Ru, listOf rvs.toArray n) :: rest)) (hne : ∀ p ∈ rest, p.1 ≠ Ru) (hl : rvs.length ≤ 5)
    (hm3 : (L + 1 + 1 + 1, o3) ∈ rest) (hd3 : o3.data = .cell (some (.ref Pl)))
    (hret : ∀ (h' : Heap) (tk' : Nat) (n' : Nat), Fr h₀ L h' (fun y => if y = Str.ofString "rulers" then some (.ref Ru) else m0 y) → News h₀ L h' ((Ru, listOf (rvs ++ [Value.ref Pl]).toArray n') :: rest) → Q .next { s with heap := h', toks := tk' }) :
    wpAny (model lawProg w) (callerA.deeper (lawEnv w L fa cd)) (exec (rulS w 10) (lawEnv w L fa cd)) Q E s := by
  dsimp only [in8, rulS, lawS, lawB, lawQ, lawSc, lawEnv, forB, forT, forI, pkBody, pkQual, pkScope, nthS]
  k_steps
  refine append_K (its := rvs.toArray) (by assumption) (by assumption) (Upd.head hne) ?_ (by rw [List.size_toArray, sizeLine_eq]; omega)
  intro h9 F9 N9
  rw [List.push_toArray] at N9
  exact hret _ _ _ F9 N9

theorem t11_spec {w : World} {Nu : Addr} {n : Nat} {nvs : List Value} {v : Int} {tv : Tok} {rest : List (Addr × Obj)} {m0 : Str → Option Value}  {cd : Value} {p : Program} {loose : List Str} {mean : ExcName → Option Value} {mg mb : Str → Option Value} {base h₀ : Heap} {L fa : Addr} {s : Shared} {Q : Flow → Shared → Prop} {E : Value → Shared → Prop}
    (B : Below callerA base [] h₀) (X : (hd.heap_39 w.params).In h₀) (T : Top p loose mean mg mb h₀)
    (F : Fr h₀ L s.heap (fun y => if y = Str.ofString "numbers" then some (.ref Nu) else if y = Str.ofString "number" then some (.int v tv) else m0 y)) (N : News h₀ L s.heap ((Nu, listOf nvs.toArray n) :: rest)) (hne : ∀ p ∈ rest, p.1 ≠ Nu) (hl : nvs.length ≤ 5)
    (hret : ∀ (h' : Heap) (tk' : Nat) (n' : Nat), Fr h₀ L h' (fun y => if y = Str.ofString "numbers" then some (.ref Nu) else if y = Str.ofString "number" then some (.int v tv) else m0 y) → News h₀ L h' ((Nu, listOf (nvs ++ [Value.int v tv]).toArray n') :: rest) → Q .next { s with heap := h', toks := tk' }) :
    wpAny (model lawProg w) (callerA.deeper (lawEnv w L fa cd)) (exec (rulS w 11) (lawEnv w L fa cd)) Q E s := by
  dsimp only [in8, rulS, lawS, lawB, lawQ, lawSc, lawEnv, forB, forT, forI, pkBody, pkQual, pkScope, nthS]
  k_steps
  refine append_K (its := nvs.toArray) (by assumption) (by assumption) (Upd.head hne) ?_ (by rw [List.size_toArray, sizeLine_eq]; omega)
  intro h9 F9 N9
  rw [List.push_toArray] at N9
  exact hret _ _ _ F9 N9
end Mine
end PartRd

section PartRe
open PySem PySem.Spec PySem.Calls PySem.W PyProof.Rows
set_option Elab.async false
set_option maxRecDepth 100000
set_option maxHeartbeats 8000000
namespace Mine
/-- the walk's lines are looked up afresh from here on -/
theorem syncRe {M : Model} {A : Around} {E : Value → Shared → Prop} {s : Shared} {env : Env} {Q : Flow → Shared → Prop} (h : Q .next s) : wpAny M A (execs [] env) Q E s := by
  w_top off
  first | (walk1; exact h) | exact wpAny_execs_nil h

theorem s3_spec {w : World} {news : List (Addr × Obj)} {m0 : Str → Option Value} {cd : Value} {p : Program} {loose : List Str} {mean : ExcName → Option Value} {mg mb : Str → Option Value} {base h₀ : Heap} {L fa : Addr} {s : Shared} {Q : Flow → Shared → Prop} {E : Value → Shared → Prop}
    (B : Below callerA base [] h₀) (X : (hd.heap_39 w.params).In h₀) (T : Top p loose mean mg mb h₀)
    (F : Fr h₀ L s.heap m0) (N : News h₀ L s.heap news)
    (hret : ∀ (h' : Heap) (tk' : Nat) (D : Addr), (∀ q ∈ news, q.1 < D) → Fr h₀ L h' (fun y => if y = Str.ofString "rulers" then some (.ref D) else m0 y) → News h₀ L h' ((D, listOf ([] : List Value).toArray 0) :: news) → Q .next { s with heap := h', toks := tk' }) :
    wpAny (model lawProg w) (callerA.deeper (lawEnv w L fa cd)) (exec (lawS w 3) (lawEnv w L fa cd)) Q E s := by
  dsimp only [in8, rulS, lawS, lawB, lawQ, lawSc, lawEnv, forB, forT, forI, pkBody, pkQual, pkScope, nthS]
  k_steps
  exact hret _ _ _ (by assumption) (by assumption) (by assumption)

theorem s4_spec {w : World} {news : List (Addr × Obj)} {m0 : Str → Option Value} {cd : Value} {p : Program} {loose : List Str} {mean : ExcName → Option Value} {mg mb : Str → Option Value} {base h₀ : Heap} {L fa : Addr} {s : Shared} {Q : Flow → Shared → Prop} {E : Value → Shared → Prop}
    (B : Below callerA base [] h₀) (X : (hd.heap_39 w.params).In h₀) (T : Top p loose mean mg mb h₀)
    (F : Fr h₀ L s.heap m0) (N : News h₀ L s.heap news)
    (hret : ∀ (h' : Heap) (tk' : Nat) (D : Addr), (∀ q ∈ news, q.1 < D) → Fr h₀ L h' (fun y => if y = Str.ofString "numbers" then some (.ref D) else m0 y) → News h₀ L h' ((D, listOf ([] : List Value).toArray 0) :: news) → Q .next { s with heap := h', toks := tk' }) :
    wpAny (model lawProg w) (callerA.deeper (lawEnv w L fa cd)) (exec (lawS w 4) (lawEnv w L fa cd)) Q E s := by
  dsimp only [in8, rulS, lawS, lawB, lawQ, lawSc, lawEnv, forB, forT, forI, pkBody, pkQual, pkScope, nthS]
  k_steps
  exact hret _ _ _ (by assumption) (by assumption) (by assumption)
local macro_rules | `(tactic| walk_at "binaryOp Mult ref int") => `(tactic| (k_here; refine stop_here ?_))

theorem s6_spec {w : World} {ring : Int} {tr : Tok} {o1 o5 : Obj} {v5 : Option Value} {g5 : Obj → List (Addr × Obj)} {news : List (Addr × Obj)} {m0 : Str → Option Value} {cd : Value} {p : Program} {loose : List Str} {mean : ExcName → Option Value} {mg mb : Str → Option Value} {base h₀ : Heap} {L fa : Addr} {s : Shared} {Q : Flow → Shared → Prop} {E : Value → Shared → Prop}
    (B : Below callerA base [] h₀) (X : (hd.heap_39 w.params).In h₀) (T : Top p loose mean mg mb h₀)
    (F : Fr h₀ L s.heap m0) (N : News h₀ L s.heap news) (hm1 : (L + 1, o1) ∈ news) (hd1 : o1.data = .cell (some (.int ring tr))) (U5 : UpdF (L + 1 + 1 + 1 + 1 + 1) o5 news g5) (hd5 : o5.data = .cell v5) (hr : 4 ≤ ring ∧ ring ≤ 12)
    (hret : ∀ (h' : Heap) (tk' : Nat) (D : Addr) (vs' : List Value) (o5' : Obj), IntsAre vs' (List.replicate ring.toNat 0) → (∀ q ∈ news, q.1 < D) → o5'.data = .cell (some (.ref D)) → Fr h₀ L h' m0 → News h₀ L h' ((D, listOf vs'.toArray 0) :: g5 o5') → Q .next { s with heap := h', toks := tk' }) :
    wpAny (model lawProg w) (callerA.deeper (lawEnv w L fa cd)) (exec (lawS w 6) (lawEnv w L fa cd)) Q E s := by
  dsimp only [in8, rulS, lawS, lawB, lawQ, lawSc, lawEnv, forB, forT, forI, pkBody, pkQual, pkScope, nthS]
  k_steps
  refine mul0 (by k_asm) (by k_asm) (by exact News.isList (by k_asm) (.head _)) (by omega) (by omega) ?_
  intro D9 vs9 h8 F8 N8 lD9 hi9
  have lD8 := lD9
  try k_lt lD9
  k_steps
  rename_i h9 o9 F9 N9 d9
  refine hret _ _ D9 vs9 o9 hi9 (fun q hq => lD8 q (.tail _ hq)) d9 F9 (news_sub N9 ?_)
  intro q hq
  rcases List.mem_cons.mp hq with rfl | hq
  · exact .head _
  · exact .tail _ (.tail _ hq)

theorem s7_spec {w : World} {ring : Int} {tr : Tok} {o1 : Obj} {news : List (Addr × Obj)} {m0 : Str → Option Value} {cd : Value} {p : Program} {loose : List Str} {mean : ExcName → Option Value} {mg mb : Str → Option Value} {base h₀ : Heap} {L fa : Addr} {s : Shared} {Q : Flow → Shared → Prop} {E : Value → Shared → Prop}
    (B : Below callerA base [] h₀) (X : (hd.heap_39 w.params).In h₀) (T : Top p loose mean mg mb h₀)
    (F : Fr h₀ L s.heap m0) (N : News h₀ L s.heap news) (hm1 : (L + 1, o1) ∈ news) (hd1 : o1.data = .cell (some (.int ring tr))) (hr : 4 ≤ ring ∧ ring ≤ 12)
    (hret : ∀ (h' : Heap) (tk' : Nat) (D : Addr) (vs' : List Value), IntsAre vs' (List.replicate ring.toNat 0) → (∀ q ∈ news, q.1 < D) → Fr h₀ L h' (fun y => if y = Str.ofString "beyond" then some (.ref D) else m0 y) → News h₀ L h' ((D, listOf vs'.toArray 0) :: news) → Q .next { s with heap := h', toks := tk' }) :
    wpAny (model lawProg w) (callerA.deeper (lawEnv w L fa cd)) (exec (lawS w 7) (lawEnv w L fa cd)) Q E s := by
  dsimp only [in8, rulS, lawS, lawB, lawQ, lawSc, lawEnv, forB, forT, forI, pkBody, pkQual, pkScope, nthS]
  k_steps
  refine mul0 (by k_asm) (by k_asm) (by exact News.isList (by k_asm) (.head _)) (by omega) (by omega) ?_
  intro D9 vs9 h8 F8 N8 lD9 hi9
  have lD8 := lD9
  try k_lt lD9
  k_steps
  rename_i h9 F9 N9
  refine hret _ _ D9 vs9 hi9 (fun q hq => lD8 q (.tail _ hq)) F9 (news_sub N9 ?_)
  intro q hq
  rcases List.mem_cons.mp hq with rfl | hq
  · exact .head _
  · exact .tail _ (.tail _ hq)
local macro_rules | `(tactic| walk_at "binaryOp Mult int int") => `(tactic| (k_here; refine stop_here ?_))

theorem s9_spec {w : World} {ring n0 n1 : Int} {tr u0 u1 : Tok} {o1 : Obj} {Nu : Addr} {nN : Nat} {oA ocA oB ocB : Obj} {cA cB : Addr} {g : Obj → Addr → Obj → Obj → Addr → Obj → List (Addr × Obj)} {news : List (Addr × Obj)} {m0 : Str → Option Value} {cd : Value} {p : Program} {loose : List Str} {mean : ExcName → Option Value} {mg mb : Str → Option Value} {base h₀ : Heap} {L fa : Addr} {s : Shared} {Q : Flow → Shared → Prop} {E : Value → Shared → Prop}
    (B : Below callerA base [] h₀) (X : (hd.heap_39 w.params).In h₀) (T : Top p loose mean mg mb h₀)
    (F : Fr h₀ L s.heap (fun y => if y = Str.ofString "numbers" then some (.ref Nu) else m0 y)) (N : News h₀ L s.heap news) (U : Tb2 oA cA ocA oB cB ocB news g) (hTA : TabF 30 32 4 q30 oA cA ocA) (hTB : TabF 37 47 4 q37 oB cB ocB) (hcA : cA ≠ 37) (hcB : cB ≠ 30) (hm1 : (L + 1, o1) ∈ news) (hd1 : o1.data = .cell (some (.int ring tr))) (hr : 4 ≤ ring ∧ ring ≤ 12)
    (hNu : (Nu, listOf [Value.int n0 u0, Value.int n1 u1].toArray nN) ∈ news) (h0 : 0 ≤ n0 ∧ n0 < 2 ^ 72) (h1 : 0 ≤ n1 ∧ n1 < 2 ^ 72) (ha0 : 0 ≤ n0 * n1) (hb : 0 < (64 : Int) ^ ring.toNat - 1) (hb2 : (64 : Int) ^ ring.toNat - 1 < 2 ^ 200) (ha : n0 * n1 < 2 ^ (2 * Builtin.Int.intBits ((64 : Int) ^ ring.toNat - 1)))
    (hret : ∀ (h' : Heap) (tk' : Nat) (tx ty : Tok), Fr h₀ L h' (fun y => if y = Str.ofString "rest" then some (.int (n0 * n1 % ((64 : Int) ^ ring.toNat - 1)) ty) else if y = Str.ofString "rounds" then some (.int (n0 * n1 / ((64 : Int) ^ ring.toNat - 1)) tx) else if y = Str.ofString "numbers" then some (.ref Nu) else m0 y) → News h₀ L h' news → Q .next { s with heap := h', toks := tk' }) :
    wpAny (model lawProg w) (callerA.deeper (lawEnv w L fa cd)) (exec (lawS w 9) (lawEnv w L fa cd)) Q E s := by
  dsimp only [in8, rulS, lawS, lawB, lawQ, lawSc, lawEnv, forB, forT, forI, pkBody, pkQual, pkScope, nthS]
  have hiN : IntsAre [Value.int n0 u0, Value.int n1 u1] [n0, n1] := .cons _ _ (.cons _ _ .nil)
  have hmok : IntMulOk n0 n1 := IntMulOk.of_bits (Nat.le_trans (bits_le h0.1 h0.2) (by decide)) (Nat.le_trans (bits_le h1.1 h1.2) (by decide))
  k_steps
  refine mul_int (a := n0) (b := n1) ?_ hmok
  k_steps
  refine idm_pos (g := g) (news := news) B (by assumption) X (by assumption) T rfl U (.inr hTA) (.inr hTB) hcA hcB ha0 hb hb2 ha (by ktr_room) (by ktr_units) ?_
  intro q9 tx9 ty9 oA9 cA9 ocA9 oB9 cB9 ocB9 h9 tk9 hA9 hB9 sA9 sB9 hcA9 hcB9 fA9 fB9 lq9 F9 N9
  obtain ⟨rfl, rfl, rfl⟩ := sA9 hTA
  obtain ⟨rfl, rfl, rfl⟩ := sB9 hTB
  rw [U.self] at N9
  k_steps
  exact hret _ _ _ _ (by assumption) (news_drop (by assumption))

theorem s10_spec {w : World} {rs rd : Int} {t1 t2 : Tok} {o5 oT oTc : Obj} {cT : Addr} {gA : Obj → Addr → Obj → List (Addr × Obj)} {Wa Be : Addr} {nW nB : Nat} {vsW vsB : List Value} {ws bs : List Int} {news : List (Addr × Obj)} {m0 : Str → Option Value} {cd : Value} {p : Program} {loose : List Str} {mean : ExcName → Option Value} {mg mb : Str → Option Value} {base h₀ : Heap} {L fa : Addr} {s : Shared} {Q : Flow → Shared → Prop} {E : Value → Shared → Prop}
    (B : Below callerA base [] h₀) (X : (hd.heap_39 w.params).In h₀) (T : Top p loose mean mg mb h₀)
    (F : Fr h₀ L s.heap (fun y => if y = Str.ofString "rest" then some (.int rs t1) else if y = Str.ofString "rounds" then some (.int rd t2) else if y = Str.ofString "beyond" then some (.ref Be) else m0 y)) (N : News h₀ L s.heap news) (U : Tb1 30 oT cT oTc news gA) (hTF : TabF 30 32 4 q30 oT cT oTc)
    (hm5 : (L + 1 + 1 + 1 + 1 + 1, o5) ∈ news) (hd5 : o5.data = .cell (some (.ref Wa))) (hWa : (Wa, listOf vsW.toArray nW) ∈ news) (hiW : IntsAre vsW ws) (hlW : ws.length ≤ 12) (hBe : (Be, listOf vsB.toArray nB) ∈ news) (hiB : IntsAre vsB bs) (hlB : bs.length ≤ 12)
    (hrs0 : 0 ≤ rs) (hrsK : ((Builtin.Int.intBits rs : Int) + 6 - 1).fdiv 6 ≤ 200) (hrs : i2d rs 6 = bareOf ws) (hrd0 : 0 ≤ rd) (hrdK : ((Builtin.Int.intBits rd : Int) + 6 - 1).fdiv 6 ≤ 200) (hrd : i2d rd 6 = bareOf bs)
    (hret : ∀ (h' : Heap) (tk' : Nat), Fr h₀ L h' (fun y => if y = Str.ofString "rest" then some (.int rs t1) else if y = Str.ofString "rounds" then some (.int rd t2) else if y = Str.ofString "beyond" then some (.ref Be) else m0 y) → News h₀ L h' news → Q .next { s with heap := h', toks := tk' }) :
    wpAny (model lawProg w) (callerA.deeper (lawEnv w L fa cd)) (exec (lawS w 10) (lawEnv w L fa cd)) Q E s := by
  dsimp only [in8, rulS, lawS, lawB, lawQ, lawSc, lawEnv, forB, forT, forI, pkBody, pkQual, pkScope, nthS]
  k_steps
  refine i2d_spec B (by assumption) X (by assumption) T rfl U (.inr hTF) hrs0 hrsK (by decide) (by decide) (by ktr_room) (by ktr_units) ?_
  intro D1 vs1 o1 cc1 oc1 h1 tk1 hi1 hA1 sA1 fA1 lD1 F1 N1
  obtain ⟨rfl, rfl, rfl⟩ := sA1 hTF
  rw [U.self] at N1
  k_steps
  refine bare_spec B (by assumption) X (by assumption) T rfl (.tail _ hWa) hiW (by omega) (by ktr_room) (by ktr_units) ?_
  intro D2 n2 vs2 h2 tk2 hi2 F2 N2
  k_steps
  refine ne_intsK (News.isList N2 (.tail _ (.head _))) hi1 (News.isList N2 (.head _)) hi2 lawU ?_
  rw [hrs, decide_eq_true rfl]
  replace N2 := news_drop (news_drop N2)
  clear N1 F1
  k_steps
  refine i2d_spec B (by assumption) X (by assumption) T rfl U (.inr hTF) hrd0 hrdK (by decide) (by decide) (by ktr_room) (by ktr_units) ?_
  intro D3 vs3 o3 cc3 oc3 h3 tk3 hi3 hA3 sA3 fA3 lD3 F3 N3
  obtain ⟨rfl, rfl, rfl⟩ := sA3 hTF
  rw [U.self] at N3
  k_steps
  refine bare_spec B (by assumption) X (by assumption) T rfl (.tail _ hBe) hiB (by omega) (by ktr_room) (by ktr_units) ?_
  intro D4 n4 vs4 h4 tk4 hi4 F4 N4
  k_steps
  refine ne_intsK (News.isList N4 (.tail _ (.head _))) hi3 (News.isList N4 (.head _)) hi4 lawU ?_
  rw [hrd, decide_eq_true rfl]
  replace N4 := news_drop (news_drop N4)
  clear N3 F3
  k_steps
  exact hret _ _ (by assumption) N4

theorem s11_spec {w : World} {ring n0 n1 : Int} {tr u0 u1 : Tok} {o1 : Obj} {Nu : Addr} {nN : Nat} {oA ocA oB ocB : Obj} {cA cB : Addr} {g : Obj → Addr → Obj → Obj → Addr → Obj → List (Addr × Obj)} {news : List (Addr × Obj)} {m0 : Str → Option Value} {cd : Value} {p : Program} {loose : List Str} {mean : ExcName → Option Value} {mg mb : Str → Option Value} {base h₀ : Heap} {L fa : Addr} {s : Shared} {Q : Flow → Shared → Prop} {E : Value → Shared → Prop}
    (B : Below callerA base [] h₀) (X : (hd.heap_39 w.params).In h₀) (T : Top p loose mean mg mb h₀)
    (F : Fr h₀ L s.heap (fun y => if y = Str.ofString "numbers" then some (.ref Nu) else m0 y)) (N : News h₀ L s.heap news) (U : Tb2 oA cA ocA oB cB ocB news g) (hTA : TabF 30 32 4 q30 oA cA ocA) (hTB : TabF 37 47 4 q37 oB cB ocB) (hcA : cA ≠ 37) (hcB : cB ≠ 30) (hm1 : (L + 1, o1) ∈ news) (hd1 : o1.data = .cell (some (.int ring tr))) (hr : 4 ≤ ring ∧ ring ≤ 12)
    (hNu : (Nu, listOf [Value.int n0 u0, Value.int n1 u1].toArray nN) ∈ news) (h0 : 0 ≤ n0 ∧ n0 < 2 ^ 72) (h1 : 0 ≤ n1 ∧ n1 < 2 ^ 72) (hb : 1 - (64 : Int) ^ ring.toNat < 0) (hb2 : -(1 - (64 : Int) ^ ring.toNat) < 2 ^ 200) (ha : -(n0 * n1) < 2 ^ (2 * Builtin.Int.intBits (-(1 - (64 : Int) ^ ring.toNat)))) (ha2 : - -(n0 * n1) - 1 < 2 ^ (2 * Builtin.Int.intBits (-(1 - (64 : Int) ^ ring.toNat))))
    (hret : ∀ (h' : Heap) (tk' : Nat) (tx ty : Tok), Fr h₀ L h' (fun y => if y = Str.ofString "left" then some (.int (-(-(n0 * n1) % -(1 - (64 : Int) ^ ring.toNat))) ty) else if y = Str.ofString "back" then some (.int (-(n0 * n1) / -(1 - (64 : Int) ^ ring.toNat)) tx) else if y = Str.ofString "numbers" then some (.ref Nu) else m0 y) → News h₀ L h' news → Q .next { s with heap := h', toks := tk' }) :
    wpAny (model lawProg w) (callerA.deeper (lawEnv w L fa cd)) (exec (lawS w 11) (lawEnv w L fa cd)) Q E s := by
  dsimp only [in8, rulS, lawS, lawB, lawQ, lawSc, lawEnv, forB, forT, forI, pkBody, pkQual, pkScope, nthS]
  have hiN : IntsAre [Value.int n0 u0, Value.int n1 u1] [n0, n1] := .cons _ _ (.cons _ _ .nil)
  have hmok : IntMulOk n0 n1 := IntMulOk.of_bits (Nat.le_trans (bits_le h0.1 h0.2) (by decide)) (Nat.le_trans (bits_le h1.1 h1.2) (by decide))
  k_steps
  refine mul_int (a := n0) (b := n1) ?_ hmok
  k_steps
  refine idm_neg (g := g) (news := news) B (by assumption) X (by assumption) T rfl U (.inr hTA) (.inr hTB) hcA hcB hb hb2 ha ha2 (by ktr_room) (by ktr_units) ?_
  intro q9 tx9 ty9 oA9 cA9 ocA9 oB9 cB9 ocB9 h9 tk9 hA9 hB9 sA9 sB9 hcA9 hcB9 fA9 fB9 lq9 F9 N9
  obtain ⟨rfl, rfl, rfl⟩ := sA9 hTA
  obtain ⟨rfl, rfl, rfl⟩ := sB9 hTB
  rw [U.self] at N9
  k_steps
  exact hret _ _ _ _ (by assumption) (news_drop (by assumption))

theorem s12_spec {w : World} {bk lf rd : Int} {t1 t2 t3 : Tok} {o5 oT oTc : Obj} {cT : Addr} {gA : Obj → Addr → Obj → List (Addr × Obj)} {Wa : Addr} {nW : Nat} {vsW : List Value} {ws : List Int} {news : List (Addr × Obj)} {m0 : Str → Option Value} {cd : Value} {p : Program} {loose : List Str} {mean : ExcName → Option Value} {mg mb : Str → Option Value} {base h₀ : Heap} {L fa : Addr} {s : Shared} {Q : Flow → Shared → Prop} {E : Value → Shared → Prop}
    (B : Below callerA base [] h₀) (X : (hd.heap_39 w.params).In h₀) (T : Top p loose mean mg mb h₀)
    (F : Fr h₀ L s.heap (fun y => if y = Str.ofString "back" then some (.int bk t1) else if y = Str.ofString "left" then some (.int lf t2) else if y = Str.ofString "rounds" then some (.int rd t3) else m0 y)) (N : News h₀ L s.heap news) (U : Tb1 30 oT cT oTc news gA) (hTF : TabF 30 32 4 q30 oT cT oTc)
    (hm5 : (L + 1 + 1 + 1 + 1 + 1, o5) ∈ news) (hd5 : o5.data = .cell (some (.ref Wa))) (hWa : (Wa, listOf vsW.toArray nW) ∈ news) (hiW : IntsAre vsW ws) (hlW : ws.length ≤ 12)
    (hbk : bk = -rd - 1) (hlf0 : 0 ≤ -lf) (hlfK : ((Builtin.Int.intBits (-lf) : Int) + 6 - 1).fdiv 6 ≤ 200) (hlf : i2d (-lf) 6 = ws.map fun c => 63 - c)
    (hret : ∀ (h' : Heap) (tk' : Nat), Fr h₀ L h' (fun y => if y = Str.ofString "back" then some (.int bk t1) else if y = Str.ofString "left" then some (.int lf t2) else if y = Str.ofString "rounds" then some (.int rd t3) else m0 y) → News h₀ L h' news → Q .next { s with heap := h', toks := tk' }) :
    wpAny (model lawProg w) (callerA.deeper (lawEnv w L fa cd)) (exec (lawS w 12) (lawEnv w L fa cd)) Q E s := by
  dsimp only [in8, rulS, lawS, lawB, lawQ, lawSc, lawEnv, forB, forT, forI, pkBody, pkQual, pkScope, nthS]
  have hlv := hiW.length
  k_steps
  refine i2d_spec B (by assumption) X (by assumption) T rfl U (.inr hTF) hlf0 hlfK (by decide) (by decide) (by ktr_room) (by ktr_units) ?_
  intro D1 vs1 o1 cc1 oc1 h1 tk1 hi1 hA1 sA1 fA1 lD1 F1 N1
  obtain ⟨rfl, rfl, rfl⟩ := sA1 hTF
  rw [U.self] at N1
  k_steps
  k_dflt (refine list_U (F₀ := by k_asm) (by with_unfolding_all rfl) (by decide) (by rfl) (by decide) (by rfl) ?_)
  k_steps
  refine srcU_list (news := (D1, listOf vs1.toArray 0) :: news) (fun c => 63 - c) (fun k v => ∃ t, v = .int k t) rfl (by assumption) (by assumption) (.tail _ hWa) hiW (by omega) ?_ ?_
  · intro g9 k t I oI C oC D m₂ ys h tk E' hk hC hx F5 N5
    clear hret
    k_steps
    exact ElEnd.mk (by assumption) (by assumption) (fun q hq => hq) ⟨_, rfl⟩
  · intro g9 ys hys D h tk F5 N5 off5
    have hiy := hys.ints
    k_steps
    refine ne_intsK (News.isList N5 (.tail _ (.head _))) hi1 (News.isList N5 (.head _)) hiy lawU ?_
    rw [hlf, decide_eq_true rfl]
    k_steps
    exact hret _ _ (by assumption) (news_drop (news_drop (by assumption)))
end Mine
end PartRe

section PartRf
open PySem PySem.Spec PySem.Calls PySem.W PyProof.Rows
set_option Elab.async false
set_option maxRecDepth 100000
set_option maxHeartbeats 8000000
namespace Mine
/-- the walk's lines are looked up afresh from here on -/
theorem syncRf {M : Model} {A : Around} {E : Value → Shared → Prop} {s : Shared} {env : Env} {Q : Flow → Shared → Prop} (h : Q .next s) : wpAny M A (execs [] env) Q E s := by
  w_top off
  first | (walk1; exact h) | exact wpAny_execs_nil h
noncomputable def signOf (c : Int) : Str := if c > 0 then Str.ofString "+" else Str.ofString "-"
noncomputable def signsOf (ws : List Int) : Str := Txt.join (Str.ofString "") (ws.map signOf)
theorem signOf_len (c : Int) : (signOf c).length = 1 := by unfold signOf; split <;> decide
theorem strsOf {vs : List Value} {xs : List Str} (h : Are (fun x v => ∃ t, v = .str x t) vs xs) : StrsAre vs xs := by
  induction h with
  | nil => exact .nil
  | cons x _ ih => obtain ⟨t, rfl⟩ := x; exact .cons _ _ ih
theorem signs_weight (ws : List Int) : ((ws.map signOf).map (·.length)).sum = ws.length := by
  induction ws with
  | nil => rfl
  | cons c ws ih => rw [List.map_cons, List.map_cons, List.sum_cons, ih, signOf_len, List.length_cons]; omega
noncomputable def rotS (x : Str) (k : Int) : Str := Txt.slice x (some k) none ++ Txt.slice x none (some k)
theorem s13_spec {w : World} {o5 o6 : Obj} {v6 : Option Value} {g6 : Obj → List (Addr × Obj)} {Wa : Addr} {nW : Nat} {vsW : List Value} {ws : List Int} {news : List (Addr × Obj)} {m0 : Str → Option Value} {cd : Value} {p : Program} {loose : List Str} {mean : ExcName → Option Value} {mg mb : Str → Option Value} {base h₀ : Heap} {L fa : Addr} {s : Shared} {Q : Flow → Shared → Prop} {E : Value → Shared → Prop}
    (B : Below callerA base [] h₀) (X : (hd.heap_39 w.params).In h₀) (T : Top p loose mean mg mb h₀)
    (F : Fr h₀ L s.heap m0) (N : News h₀ L s.heap news) (hm5 : (L + 1 + 1 + 1 + 1 + 1, o5) ∈ news) (hd5 : o5.data = .cell (some (.ref Wa))) (hWa : (Wa, listOf vsW.toArray nW) ∈ news) (hiW : IntsAre vsW ws) (hlW : ws.length ≤ 12) (U6 : UpdF (L + 1 + 1 + 1 + 1 + 1 + 1) o6 news g6) (hd6 : o6.data = .cell v6)
    (hret : ∀ (h' : Heap) (tk' : Nat) (o6' : Obj) (t : Tok), o6'.data = .cell (some (.str (signsOf ws) t)) → Fr h₀ L h' m0 → News h₀ L h' (g6 o6') → Q .next { s with heap := h', toks := tk' }) :
    wpAny (model lawProg w) (callerA.deeper (lawEnv w L fa cd)) (exec (lawS w 13) (lawEnv w L fa cd)) Q E s := by
  dsimp only [in8, rulS, lawS, lawB, lawQ, lawSc, lawEnv, forB, forT, forI, pkBody, pkQual, pkScope, nthS]
  have hlv := hiW.length
  k_steps
  k_dflt (refine list_U (F₀ := by k_asm) (by with_unfolding_all rfl) (by decide) (by rfl) (by decide) (by rfl) ?_)
  k_steps
  refine srcU_list (news := news) signOf (fun x v => ∃ t, v = .str x t) rfl (by assumption) (by assumption) hWa hiW (by omega) ?_ ?_
  · intro g9 k t I oI C oC D m₂ ys h tk E' hk hC hx F5 N5
    clear hret
    k_steps
    · exact ElEnd.mk (by assumption) (by assumption) (fun q hq => hq) ⟨_, by unfold signOf; rw [if_pos (by assumption)]⟩
    · exact ElEnd.mk (by assumption) (by assumption) (fun q hq => hq) ⟨_, by unfold signOf; rw [if_neg (by assumption)]⟩
  · intro g9 ys hys D h tk F5 N5 off5
    have hfr : ∀ q ∈ news, q.1 ≠ D := off1_mem off5
    have U9 : UpdF (L + 1 + 1 + 1 + 1 + 1 + 1) o6 ((D, LCg.lst ys) :: news) (fun o => (D, LCg.lst ys) :: g6 o) := .tail (fun e => hfr _ (updF_mem U6) e.symm) U6
    k_steps
    refine join_listW (News.isList N5 (.head _)) (strsOf hys) (by decide) (by rw [signs_weight, List.length_map]; omega) ?_
    intro t9 k9
    k_steps
    exact hret _ _ _ _ (by assumption) (by assumption) (news_drop (by assumption))

theorem s14_spec {w : World} {ring : Int} {tr : Tok} {sg : Str} {tsg : Tok} {o1 o6 o7 : Obj} {v7 : Option Value} {g7 : Obj → List (Addr × Obj)} {news : List (Addr × Obj)} {m0 : Str → Option Value} {cd : Value} {p : Program} {loose : List Str} {mean : ExcName → Option Value} {mg mb : Str → Option Value} {base h₀ : Heap} {L fa : Addr} {s : Shared} {Q : Flow → Shared → Prop} {E : Value → Shared → Prop}
    (B : Below callerA base [] h₀) (X : (hd.heap_39 w.params).In h₀) (T : Top p loose mean mg mb h₀)
    (F : Fr h₀ L s.heap m0) (N : News h₀ L s.heap news) (hm1 : (L + 1, o1) ∈ news) (hd1 : o1.data = .cell (some (.int ring tr))) (hr : 4 ≤ ring ∧ ring ≤ 12) (hm6 : (L + 1 + 1 + 1 + 1 + 1 + 1, o6) ∈ news) (hd6 : o6.data = .cell (some (.str sg tsg))) (hsg : sg.length ≤ 12) (U7 : UpdF (L + 1 + 1 + 1 + 1 + 1 + 1 + 1) o7 news g7) (hd7 : o7.data = .cell v7)
    (hret : ∀ (h' : Heap) (tk' : Nat) (D : Addr) (n' : Nat) (vs' : List Value) (o7' : Obj), IntsAre vs' ((rangeKs 1 ring.toNat).filter fun k => decide (rotS sg k = sg)) → (∀ q ∈ news, q.1 ≠ D) → o7'.data = .cell (some (.ref D)) → Fr h₀ L h' m0 → News h₀ L h' ((D, listOf vs'.toArray n') :: g7 o7') → Q .next { s with heap := h', toks := tk' }) :
    wpAny (model lawProg w) (callerA.deeper (lawEnv w L fa cd)) (exec (lawS w 14) (lawEnv w L fa cd)) Q E s := by
  dsimp only [in8, rulS, lawS, lawB, lawQ, lawSc, lawEnv, forB, forT, forI, pkBody, pkQual, pkScope, nthS]
  k_steps
  k_dflt (refine list_T (F₀ := by k_asm) (by with_unfolding_all rfl) (by decide) (by rfl) (by decide) (by rfl) ?_)
  k_steps
  refine srcT_range (n := ring.toNat) (news := news) (fun k => decide (rotS sg k = sg)) rfl (by assumption) (by assumption) (by assumption) (by decide) (by omega) (by omega) rfl rfl rfl ?_ ?_
  · intro g9 k t I oI C oC D m₂ ys h tk E' hk0 hk1 hC hx F5 N5
    clear hret
    k_steps
    refine strcoll_spec B (by assumption) X (by assumption) T rfl (by ktr_room) (by ktr_units) ?_
    intro r9 t9 h9 tk9 hr9 F9 N9
    k_steps
    exact TestEnd.mk F9 N9 (fun q hq => hq) (by rw [Bool.eq_iff_iff, beq_iff_eq, decide_eq_true_iff]; exact hr9)
  · intro g9 ys hys D h tk F5 N5 off5
    have hfr : ∀ q ∈ news, q.1 ≠ D := off1_mem off5
    have U9 : UpdF (L + 1 + 1 + 1 + 1 + 1 + 1 + 1) o7 ((D, LCg.lst ys) :: news) (fun o => (D, LCg.lst ys) :: g7 o) := .tail (fun e => hfr _ (updF_mem U7) e.symm) U7
    k_steps
    exact hret _ _ _ _ _ _ hys hfr (by assumption) (by assumption) (by assumption)
local macro_rules | `(tactic| walk_at "compareOp Eq ref ref") => `(tactic| (k_here; refine stop_here ?_))

theorem s15_spec {w : World} {ring : Int} {tr : Tok} {o1 o7 : Obj} {St : Addr} {nS : Nat} {vsS : List Value} {st9 : List Int} {news : List (Addr × Obj)} {m0 : Str → Option Value} {cd : Value} {p : Program} {loose : List Str} {mean : ExcName → Option Value} {mg mb : Str → Option Value} {base h₀ : Heap} {L fa : Addr} {s : Shared} {Q : Flow → Shared → Prop} {E : Value → Shared → Prop}
    (B : Below callerA base [] h₀) (X : (hd.heap_39 w.params).In h₀) (T : Top p loose mean mg mb h₀)
    (F : Fr h₀ L s.heap m0) (N : News h₀ L s.heap news) (hm1 : (L + 1, o1) ∈ news) (hd1 : o1.data = .cell (some (.int ring tr))) (hr : 4 ≤ ring ∧ ring ≤ 12) (hm7 : (L + 1 + 1 + 1 + 1 + 1 + 1 + 1, o7) ∈ news) (hd7 : o7.data = .cell (some (.ref St))) (hSt : (St, listOf vsS.toArray nS) ∈ news) (hiS : IntsAre vsS st9)
    (hl0 : 0 < st9.length) (hl : st9.length ≤ 12) (hd0 : 1 ≤ st9.getD 0 0) (hmul : st9 = (rangeKs 1 ring.toNat).filter fun k => decide (k % st9.getD 0 0 = 0)) (hlast : st9.getD (-1 + (st9.length : Int)).toNat 0 = ring)
    (hret : ∀ (h' : Heap) (tk' : Nat), Fr h₀ L h' m0 → News h₀ L h' news → Q .next { s with heap := h', toks := tk' }) :
    wpAny (model lawProg w) (callerA.deeper (lawEnv w L fa cd)) (exec (lawS w 15) (lawEnv w L fa cd)) Q E s := by
  dsimp only [in8, rulS, lawS, lawB, lawQ, lawSc, lawEnv, forB, forT, forI, pkBody, pkQual, pkScope, nthS]
  have hlv := hiS.length
  have hne : st9 ≠ [] := List.length_pos_iff.mp hl0
  have hd9 : st9.getD (Int.toNat 0) 0 ≠ 0 := by show st9.getD 0 0 ≠ 0; omega
  k_steps
  rename_i l1 h1 F1 N1 ll1
  refine eq_intsK (News.isList N1 (.tail _ hSt)) hiS (us := []) (ms := []) (News.isList N1 (.head _)) .nil lawU ?_
  rw [decide_eq_false hne]
  replace N1 := news_drop N1
  k_steps
  k_dflt (refine list_T (F₀ := by k_asm) (by with_unfolding_all rfl) (by decide) (by rfl) (by decide) (by rfl) ?_)
  k_steps
  refine srcT_range (n := ring.toNat) (news := news) (fun k => decide (k % st9.getD 0 0 = 0)) rfl (by assumption) (by assumption) (by assumption) (by decide) (by omega) (by omega) rfl rfl rfl ?_ ?_
  · intro g9 k t I oI C oC D m₂ ys h tk E' hk0 hk1 hC hx F5 N5
    clear hret
    k_steps
    refine TestEnd.mk (by assumption) (by assumption) (fun q hq => hq) ?_
    rw [show st9.getD (Int.toNat 0) 0 = st9.getD 0 0 from rfl, Int.fmod_eq_emod_of_nonneg _ (by omega)]
    rfl
  · intro g9 ys hys D h tk F5 N5 off5
    rw [← hmul] at hys
    k_steps
    refine ne_intsK (News.isList N5 (.tail _ hSt)) hiS (News.isList N5 (.head _)) hys lawU ?_
    rw [decide_eq_true rfl]
    replace N5 := news_drop N5
    k_steps
    exact hret _ _ (by assumption) (by assumption)

theorem s16_spec {w : World} {sg : Str} {tsg : Tok} {o6 o7 : Obj} {St : Addr} {nS : Nat} {vsS : List Value} {st9 : List Int} {news : List (Addr × Obj)} {m0 : Str → Option Value} {cd : Value} {p : Program} {loose : List Str} {mean : ExcName → Option Value} {mg mb : Str → Option Value} {base h₀ : Heap} {L fa : Addr} {s : Shared} {Q : Flow → Shared → Prop} {E : Value → Shared → Prop}
    (B : Below callerA base [] h₀) (X : (hd.heap_39 w.params).In h₀) (T : Top p loose mean mg mb h₀)
    (F : Fr h₀ L s.heap m0) (N : News h₀ L s.heap news) (hm6 : (L + 1 + 1 + 1 + 1 + 1 + 1, o6) ∈ news) (hd6 : o6.data = .cell (some (.str sg tsg))) (hsg : sg.length ≤ 12) (hm7 : (L + 1 + 1 + 1 + 1 + 1 + 1 + 1, o7) ∈ news) (hd7 : o7.data = .cell (some (.ref St))) (hSt : (St, listOf vsS.toArray nS) ∈ news) (hiS : IntsAre vsS st9)
    (hl0 : 0 < st9.length) (hl : st9.length ≤ 12) (hrot : rotS sg (st9.getD 0 0) = sg)
    (hret : ∀ (h' : Heap) (tk' : Nat), Fr h₀ L h' m0 → News h₀ L h' news → Q .next { s with heap := h', toks := tk' }) :
    wpAny (model lawProg w) (callerA.deeper (lawEnv w L fa cd)) (exec (lawS w 16) (lawEnv w L fa cd)) Q E s := by
  dsimp only [in8, rulS, lawS, lawB, lawQ, lawSc, lawEnv, forB, forT, forI, pkBody, pkQual, pkScope, nthS]
  have hlv := hiS.length
  k_steps
  · rename_i a9
    exact absurd hrot (bne_iff_ne.mp a9)
  · exact hret _ _ (by assumption) (by assumption)
local macro_rules | `(tactic| walk_at "exec Assign cons ListComp") => `(tactic| (k_here; refine stop_here ?_))

theorem s17_spec {w : World} {ring : Int} {tr : Tok} {o1 o5 : Obj} {Wa : Addr} {nW : Nat} {vsW : List Value} {ws : List Int} {news : List (Addr × Obj)} {m0 : Str → Option Value} {cd : Value} {p : Program} {loose : List Str} {mean : ExcName → Option Value} {mg mb : Str → Option Value} {base h₀ : Heap} {L fa : Addr} {s : Shared} {Q : Flow → Shared → Prop} {E : Value → Shared → Prop}
    (B : Below callerA base [] h₀) (X : (hd.heap_39 w.params).In h₀) (T : Top p loose mean mg mb h₀)
    (F : Fr h₀ L s.heap m0) (N : News h₀ L s.heap news) (hm1 : (L + 1, o1) ∈ news) (hd1 : o1.data = .cell (some (.int ring tr))) (hr : 4 ≤ ring ∧ ring ≤ 12) (hm5 : (L + 1 + 1 + 1 + 1 + 1, o5) ∈ news) (hd5 : o5.data = .cell (some (.ref Wa))) (hWa : (Wa, listOf vsW.toArray nW) ∈ news) (hiW : IntsAre vsW ws) (hlW : (ws.length : Int) = ring)
    (hret : ∀ (h' : Heap) (tk' : Nat) (D : Addr) (n' : Nat) (vs' : List Value), IntsAre vs' ((rangeKs 0 ring.toNat).filter fun k => decide (0 < ws.getD k.toNat 0)) → (∀ q ∈ news, q.1 ≠ D) → Fr h₀ L h' (fun y => if y = Str.ofString "sums" then some (.ref D) else m0 y) → News h₀ L h' ((D, listOf vs'.toArray n') :: news) → Q .next { s with heap := h', toks := tk' }) :
    wpAny (model lawProg w) (callerA.deeper (lawEnv w L fa cd)) (exec (lawS w 17) (lawEnv w L fa cd)) Q E s := by
  dsimp only [in8, rulS, lawS, lawB, lawQ, lawSc, lawEnv, forB, forT, forI, pkBody, pkQual, pkScope, nthS]
  have hlv := hiW.length
  k_steps
  k_dflt (refine asg_T (F₀ := by k_asm) (by rfl) (by with_unfolding_all rfl) (by with_unfolding_all rfl) (by decide) (by rfl) (by decide) (by rfl) (by rfl) (by rfl) ?_)
  k_steps
  refine srcT_range (n := ring.toNat) (news := news) (fun k => decide (0 < ws.getD k.toNat 0)) rfl (by assumption) (by assumption) (by assumption) (by decide) (by omega) (by omega) rfl rfl rfl ?_ ?_
  · intro g9 k t I oI C oC D m₂ ys h tk E' hk0 hk1 hC hx F5 N5
    clear hret
    k_steps
    exact TestEnd.mk F5 N5 (fun q hq => hq) rfl
  · intro g9 ys hys D h tk F5 N5 off5
    exact hret _ _ D _ ys hys (off1_mem off5) F5 N5

theorem s19_spec {w : World} {a b c : Int} {ta tb tc : Tok} {Ki : Addr} {nK : Nat} {news : List (Addr × Obj)} {m0 : Str → Option Value} {cd : Value} {p : Program} {loose : List Str} {mean : ExcName → Option Value} {mg mb : Str → Option Value} {base h₀ : Heap} {L fa : Addr} {s : Shared} {Q : Flow → Shared → Prop} {E : Value → Shared → Prop}
    (B : Below callerA base [] h₀) (X : (hd.heap_39 w.params).In h₀) (T : Top p loose mean mg mb h₀)
    (F : Fr h₀ L s.heap (fun y => if y = Str.ofString "kinds" then some (.ref Ki) else m0 y)) (N : News h₀ L s.heap news) (hKi : (Ki, listOf [Value.int a ta, Value.int b tb, Value.int c tc].toArray nK) ∈ news) (hab : a ≥ b + c - 1)
    (hret : ∀ (h' : Heap) (tk' : Nat), Fr h₀ L h' (fun y => if y = Str.ofString "kinds" then some (.ref Ki) else m0 y) → News h₀ L h' news → Q (.ret (.bool true)) { s with heap := h', toks := tk' }) :
    wpAny (model lawProg w) (callerA.deeper (lawEnv w L fa cd)) (exec (lawS w 19) (lawEnv w L fa cd)) Q E s := by
  dsimp only [in8, rulS, lawS, lawB, lawQ, lawSc, lawEnv, forB, forT, forI, pkBody, pkQual, pkScope, nthS]
  have hiK : IntsAre [Value.int a ta, Value.int b tb, Value.int c tc] [a, b, c] := .cons _ _ (.cons _ _ (.cons _ _ .nil))
  k_steps
  rw [show (decide ([a, b, c].getD (Int.toNat 1) 0 + [a, b, c].getD (Int.toNat 2) 0 - 1 ≤ [a, b, c].getD (Int.toNat 0) 0)) = true from decide_eq_true (by show b + c - 1 ≤ a; omega)]
  exact hret _ _ (by assumption) (by assumption)
end Mine
end PartRf

section PartRg
open PySem PySem.Spec PySem.Calls PySem.W PyProof.Rows
set_option Elab.async false
set_option maxRecDepth 100000
set_option maxHeartbeats 8000000
namespace Mine
/-- the walk's lines are looked up afresh from here on -/
theorem syncRg {M : Model} {A : Around} {E : Value → Shared → Prop} {s : Shared} {env : Env} {Q : Flow → Shared → Prop} (h : Q .next s) : wpAny M A (execs [] env) Q E s := by
  w_top off
  first | (walk1; exact h) | exact wpAny_execs_nil h

section
variable {prog : Program} {w : World} {A : Around} {E : Value → Shared → Prop} {s : Shared} {h₀ : Heap} {L It Lk : Addr} {m : Str → Option Value} {news : List (Addr × Obj)} {vs : List Value} {i n : Nat}
theorem li_iter {Q : Value → Shared → Prop} (F : Fr h₀ L s.heap m) (N : News h₀ L s.heap news) (hm : (Lk, listOf vs.toArray n) ∈ news)
    (h : ∀ It oI h', IterO oI Lk 0 → (∀ q ∈ news, q.1 < It) → @LT.lt Nat _ L It → Fr h₀ L h' m → News h₀ L h' ((It, oI) :: news) → Q (.ref It) { s with heap := h' }) : wpAny (model prog w) A (pyIter (.ref Lk)) Q E s := by
  refine wpAny_pyIter_list (items := vs.toArray) (News.isList N hm) ?_
  exact h _ (itO Lk 0) _ ⟨rfl, rfl⟩ (fun q hq => Heap.lt_size (N q hq).1) F.ns.lt (F.keeps fun _ _ e => Heap.get?_push_of_some _ e) (News.push F N (itO Lk 0))
theorem li_next {Q : Option Value → Shared → Prop} {x : Value} {oI : Obj} (F : Fr h₀ L s.heap m) (N : News h₀ L s.heap ((It, oI) :: news)) (hI : IterO oI Lk i) (hne : ∀ q ∈ news, q.1 ≠ It) (hm : (Lk, listOf vs.toArray n) ∈ news) (hx : vs[i]? = some x)
    (h : ∀ h' oI', IterO oI' Lk (i + 1) → Fr h₀ L h' m → News h₀ L h' ((It, oI') :: news) → Q (some x) { s with heap := h' }) : wpAny (model prog w) A (pyNext (.ref It)) Q E s := by
  refine wpAny_pyNext_list_item (items := vs.toArray) ⟨oI, (N _ (.head _)).1, hI⟩ (News.isList N (.tail _ hm)) (by simpa using hx) fun h' hit hs => ?_
  obtain ⟨oI', e, hI'⟩ := hit
  obtain ⟨F', N'⟩ := turn_it F N hne hs e
  exact h h' oI' hI' F' N'
theorem li_end {Q : Option Value → Shared → Prop} {oI : Obj} (hh : A.handled = none) (F : Fr h₀ L s.heap m) (N : News h₀ L s.heap ((It, oI) :: news)) (hI : IterO oI Lk i) (hne : ∀ q ∈ news, q.1 ≠ It) (hm : (Lk, listOf vs.toArray n) ∈ news) (hx : vs[i]? = none)
    (h : ∀ h', Fr h₀ L h' m → News h₀ L h' news → Q none { s with heap := h' }) : wpAny (model prog w) A (pyNext (.ref It)) Q E s := by
  refine wpAny_pyNext_list_end (items := vs.toArray) hh ⟨oI, (N _ (.head _)).1, hI⟩ (News.isList N (.tail _ hm)) (by simpa using hx) fun h' he => ?_
  obtain ⟨F', N'⟩ := ext_it F N hne he
  exact h h' F' N'
end

theorem fr_eq {h₀ h : Heap} {L : Addr} {m m' : Str → Option Value} (F : Fr h₀ L h m) (e : ∀ y, m y = m' y) : Fr h₀ L h m' := by
  have : m = m' := funext e
  rw [← this]; exact F
theorem item_list {prog : Program} {w : World} {A : Around} {E : Value → Shared → Prop} {s : Shared} {value slice : PySem.Expr} {l : Addr} {vs : List Value} {k : Int} {u : Tok} {v : Value} {Q : Value → Shared → Prop}
    (hl : s.heap.IsList l vs.toArray) (h0 : 0 ≤ k) (hhi : k < 2 ^ 63) (hx : vs[k.toNat]? = some v) (h : Q v s)
    (hs : subscripted slice false (.ref l) (.int k u) = operate [.ref l, .int k u] (getItem (.ref l) (.int k u)) := by with_unfolding_all rfl) :
    wpAny (model prog w) A (subscriptTail value slice (.ref l) (.int k u)) Q E s :=
  tail_any hl.typeIs slot_list_getitem.lookup (wpAny_getItem_list hl h0 hhi (by simpa using hx) h) hs

/-- one more at a place -/
noncomputable def inc (ns : List Int) (k : Int) : List Int := ns.set k.toNat (ns.getD k.toNat 0 + 1)
noncomputable def incW (ring : Int) (ws : List Int) (a b : Int) : List Int := inc ws ((a + b) % ring)
noncomputable def incB (ring : Int) (bs : List Int) (a b : Int) : List Int := if ring ≤ a + b then inc bs (a + b - ring) else bs
theorem inc_len {ns : List Int} {k : Int} : (inc ns k).length = ns.length := by simp [inc]
theorem incW_len {ring a b : Int} {ws : List Int} : (incW ring ws a b).length = ws.length := inc_len
theorem incB_len {ring a b : Int} {bs : List Int} : (incB ring bs a b).length = bs.length := by unfold incB; split <;> simp [inc_len]

theorem s8_turn {w : World} {ring a b : Int} {tr ta tb : Tok} {o1 o5 : Obj} {Wa Be I2 Ru : Addr} {nW nB : Nat} {vsW vsB : List Value} {ws bs : List Int} {rest : List (Addr × Obj)} {xo : Option Value} {m0 : Str → Option Value} {cd : Value} {p : Program} {loose : List Str} {mean : ExcName → Option Value} {mg mb : Str → Option Value} {base h₀ : Heap} {L fa : Addr} {s : Shared} {Q : Flow → Shared → Prop} {E : Value → Shared → Prop}
    (B : Below callerA base [] h₀) (X : (hd.heap_39 w.params).In h₀) (T : Top p loose mean mg mb h₀)
    (F : Fr h₀ L s.heap (fun y => if y = Str.ofString "other" then xo else if y = Str.ofString "one" then some (.int a ta) else if y = Str.ofString "beyond" then some (.ref Be) else if y = Str.ofString "rulers" then some (.ref Ru) else m0 y)) (N : News h₀ L s.heap ((Wa, listOf vsW.toArray nW) :: (Be, listOf vsB.toArray nB) :: rest)) (hWB : Wa ≠ Be) (hnW : ∀ q ∈ rest, q.1 ≠ Wa) (hnB : ∀ q ∈ rest, q.1 ≠ Be)
    (hm1 : (L + 1, o1) ∈ rest) (hd1 : o1.data = .cell (some (.int ring tr))) (hm5 : (L + 1 + 1 + 1 + 1 + 1, o5) ∈ rest) (hd5 : o5.data = .cell (some (.ref Wa)))
    (hiW : IntsAre vsW ws) (hiB : IntsAre vsB bs) (hlW : (ws.length : Int) = ring) (hlB : (bs.length : Int) = ring) (hr : 4 ≤ ring ∧ ring ≤ 12) (ha : 0 ≤ a ∧ a < ring) (hb : 0 ≤ b ∧ b < ring)
    (hgo : ∀ (nW' nB' : Nat) (vsW' vsB' : List Value) (xo : Option Value) (h' : Heap) (tk' : Nat), IntsAre vsW' (incW ring ws a b) → IntsAre vsB' (incB ring bs a b) → Fr h₀ L h' (fun y => if y = Str.ofString "other" then xo else if y = Str.ofString "one" then some (.int a ta) else if y = Str.ofString "beyond" then some (.ref Be) else if y = Str.ofString "rulers" then some (.ref Ru) else m0 y) → News h₀ L h' ((Wa, listOf vsW'.toArray nW') :: (Be, listOf vsB'.toArray nB') :: rest) → (ForRest lawProg w (callerA.deeper (lawEnv w L fa cd)) E (lawEnv w L fa cd) (forT (in8 w)) (.ref I2) (forB (in8 w)) [] Q { s with heap := h', toks := tk' })) :
    wpAny (model lawProg w) (callerA.deeper (lawEnv w L fa cd)) (assign (forT (in8 w)) (lawEnv w L fa cd) (.int b tb)) (fun _ s₂ => wpAny (model lawProg w) (callerA.deeper (lawEnv w L fa cd)) (execs (forB (in8 w)) (lawEnv w L fa cd)) (ForPost lawProg w (callerA.deeper (lawEnv w L fa cd)) E (lawEnv w L fa cd) (forT (in8 w)) (.ref I2) (forB (in8 w)) [] Q) (fun _ _ => False) s₂) (fun _ _ => False) s := by
  dsimp only [in8, rulS, lawS, lawB, lawQ, lawSc, lawEnv, forB, forT, forI, pkBody, pkQual, pkScope, nthS]
  have hlv := hiW.length
  have hlw := hiB.length
  have hfe : (a + b).fmod ring = (a + b) % ring := Int.fmod_eq_emod_of_nonneg _ (by omega)
  have hm0 := Int.emod_nonneg (a + b) (show ring ≠ 0 by omega)
  have hm9 := Int.emod_lt_of_pos (a + b) (show 0 < ring by omega)
  k_steps
  rename_i h7 F7 N7 t7
  refine ksa_set (vs := vsW) (ns := ws) F7 N7 (Upd.head ?_) hiW ?_ ?_ ?_ fun h9 F9 N9 hi9 hl9 hs9 => ?_
  · intro q hq
    rcases List.mem_cons.mp hq with rfl | hq
    · exact Ne.symm hWB
    · exact hnW q hq
  · rw [hfe]; exact hm0
  · rw [hfe]; omega
  · rw [hfe]; omega
  have e9 : ws.set ((a + b).fmod ring).toNat (ws.getD ((a + b).fmod ring).toNat 0 + 1) = incW ring ws a b := by
    unfold incW inc
    rw [hfe]
  rw [e9] at hi9
  generalize vsW.set ((a + b).fmod ring).toNat _ = vsW9 at N9 hi9
  clear hl9 hs9 F7 N7
  have hlv9 := hi9.length
  rw [incW_len] at hlv9
  k_steps
  · rename_i c9 t8
    refine ksa_set (vs := vsB) (ns := bs) F9 N9 (Upd.tail hWB (Upd.head hnB)) hiB ?_ ?_ ?_ fun h8 F8 N8 hi8 hl8 hs8 => ?_
    · omega
    · omega
    · omega
    have e8 : bs.set (a + b - ring).toNat (bs.getD (a + b - ring).toNat 0 + 1) = incB ring bs a b := by
      unfold incB inc
      rw [if_pos c9]
    rw [e8] at hi8
    generalize vsB.set (a + b - ring).toNat _ = vsB9 at N8 hi8
    k_steps
    exact hgo _ _ vsW9 vsB9 _ _ _ hi9 hi8 (fr_dup (by assumption)) (by assumption)
  · have e8 : bs = incB ring bs a b := by
      unfold incB
      rw [if_neg (by assumption)]
    rw [e8] at hiB
    exact hgo _ _ vsW9 vsB _ _ _ hi9 hiB (fr_dup (by assumption)) (by assumption)

noncomputable def rowW (ring : Int) (ps : List Int) (ws : List Int) (a : Int) : List Int := ps.foldl (fun ws b => incW ring ws a b) ws
noncomputable def rowB (ring : Int) (ps : List Int) (bs : List Int) (a : Int) : List Int := ps.foldl (fun bs b => incB ring bs a b) bs
theorem rowW_len {ring a : Int} {ps ws : List Int} : (rowW ring ps ws a).length = ws.length := by
  unfold rowW
  induction ps generalizing ws with
  | nil => rfl
  | cons b ps ih => rw [List.foldl_cons, ih, incW_len]
theorem rowB_len {ring a : Int} {ps bs : List Int} : (rowB ring ps bs a).length = bs.length := by
  unfold rowB
  induction ps generalizing bs with
  | nil => rfl
  | cons b ps ih => rw [List.foldl_cons, ih, incB_len]

theorem s8_inner {w : World} {ring a : Int} {tr ta : Tok} {o1 o5 : Obj} {Wa Be I2 P1 Ru : Addr} {nP : Nat} {vsP : List Value} {ps : List Int} {rest : List (Addr × Obj)} {m0 : Str → Option Value} {cd : Value} {p : Program} {loose : List Str} {mean : ExcName → Option Value} {mg mb : Str → Option Value} {base h₀ : Heap} {L fa : Addr}  {Q : Flow → Shared → Prop} {E : Value → Shared → Prop}
    (hl2 : ∀ v, letOwnedTupleGo (forT (in8 w)) (.ref I2) v = pure ())
    (B : Below callerA base [] h₀) (X : (hd.heap_39 w.params).In h₀) (T : Top p loose mean mg mb h₀)
    (hWB : Wa ≠ Be) (hnW : ∀ q ∈ rest, q.1 ≠ Wa) (hnB : ∀ q ∈ rest, q.1 ≠ Be) (hnI : ∀ q ∈ rest, q.1 ≠ I2) (hWI : Wa ≠ I2) (hBI : Be ≠ I2)
    (hm1 : (L + 1, o1) ∈ rest) (hd1 : o1.data = .cell (some (.int ring tr))) (hm5 : (L + 1 + 1 + 1 + 1 + 1, o5) ∈ rest) (hd5 : o5.data = .cell (some (.ref Wa)))
    (hP : (P1, listOf vsP.toArray nP) ∈ rest) (hiP : IntsAre vsP ps) (hps : ∀ b ∈ ps, 0 ≤ b ∧ b < ring) (hr : 4 ≤ ring ∧ ring ≤ 12) (ha : 0 ≤ a ∧ a < ring) :
    ∀ (j i : Nat) (s : Shared) (nW nB : Nat) (vsW vsB : List Value) (ws bs : List Int) (oI : Obj) (xo : Option Value), ps.length = i + j → IterO oI P1 i → IntsAre vsW ws → IntsAre vsB bs → (ws.length : Int) = ring → (bs.length : Int) = ring →
      Fr h₀ L s.heap (fun y => if y = Str.ofString "other" then xo else if y = Str.ofString "one" then some (.int a ta) else if y = Str.ofString "beyond" then some (.ref Be) else if y = Str.ofString "rulers" then some (.ref Ru) else m0 y) → News h₀ L s.heap ((Wa, listOf vsW.toArray nW) :: (Be, listOf vsB.toArray nB) :: (I2, oI) :: rest) →
      (∀ (nW' nB' : Nat) (vsW' vsB' : List Value) (xo : Option Value) (h' : Heap) (tk' : Nat), IntsAre vsW' (rowW ring (ps.drop i) ws a) → IntsAre vsB' (rowB ring (ps.drop i) bs a) → Fr h₀ L h' (fun y => if y = Str.ofString "other" then xo else if y = Str.ofString "one" then some (.int a ta) else if y = Str.ofString "beyond" then some (.ref Be) else if y = Str.ofString "rulers" then some (.ref Ru) else m0 y) → News h₀ L h' ((Wa, listOf vsW'.toArray nW') :: (Be, listOf vsB'.toArray nB') :: rest) → Q .next { s with heap := h', toks := tk' }) →
      (ForRest lawProg w (callerA.deeper (lawEnv w L fa cd)) E (lawEnv w L fa cd) (forT (in8 w)) (.ref I2) (forB (in8 w)) [] Q s) := by
  have hne : ∀ (o o' : Obj), ∀ q ∈ (Wa, o) :: (Be, o') :: rest, q.1 ≠ I2 := by
    intro o o' q hq
    rcases List.mem_cons.mp hq with rfl | hq
    · exact hWI
    rcases List.mem_cons.mp hq with rfl | hq
    · exact hBI
    · exact hnI q hq
  have pm1 : ∀ {a b c : Addr × Obj}, ∀ q ∈ c :: a :: b :: rest, q ∈ a :: b :: c :: rest := by
    intro a b c q hq
    simp only [List.mem_cons] at hq ⊢
    rcases hq with rfl | rfl | rfl | hq <;> simp [*]
  have pm2 : ∀ {a b c : Addr × Obj}, ∀ q ∈ a :: b :: c :: rest, q ∈ c :: a :: b :: rest := by
    intro a b c q hq
    simp only [List.mem_cons] at hq ⊢
    rcases hq with rfl | rfl | rfl | hq <;> simp [*]
  have hlP := hiP.length
  intro j
  induction j with
  | zero =>
    intro i s nW nB vsW vsB ws bs oI xo hij hI hiW hiB hlW hlB F N hQ
    refine for_turn hl2 ?_
    refine li_end rfl F (news_sub N pm1) hI (hne _ _) (.tail _ (.tail _ hP)) (by rw [List.getElem?_eq_none]; omega) fun h' F' N' => ?_
    refine wpAny_execs_nil ?_
    have hd : ps.drop i = [] := List.drop_eq_nil_of_le (by omega)
    rw [hd] at hQ
    exact hQ nW nB vsW vsB xo h' _ hiW hiB F' N'
  | succ j ih =>
    intro i s nW nB vsW vsB ws bs oI xo hij hI hiW hiB hlW hlB F N hQ
    refine for_turn hl2 ?_
    have hlt : i < vsP.length := by omega
    obtain ⟨b, tb, hx⟩ := ints_at hiP i hlt
    obtain ⟨b', tb', he, hb⟩ := IntsAre.at hiP i _ hx
    cases he
    have hbp := hps b (List.mem_of_getElem? hb)
    have hdr : ps.drop i = b :: ps.drop (i + 1) := by
      rw [List.drop_eq_getElem_cons (by omega)]
      congr 1
      have := List.getElem?_eq_getElem (l := ps) (i := i) (by omega)
      rw [hb] at this
      exact (Option.some.inj this).symm
    refine li_next F (news_sub N pm1) hI (hne _ _) (.tail _ (.tail _ hP)) hx fun h' oI' hI' F' N' => ?_
    dsimp only
    refine s8_turn (rest := (I2, oI') :: rest) B X T F' (news_sub N' pm2) hWB ?_ ?_ (.tail _ hm1) hd1 (.tail _ hm5) hd5 hiW hiB hlW hlB hr ha hbp ?_
    · intro q hq
      rcases List.mem_cons.mp hq with rfl | hq
      · exact Ne.symm hWI
      · exact hnW q hq
    · intro q hq
      rcases List.mem_cons.mp hq with rfl | hq
      · exact Ne.symm hBI
      · exact hnB q hq
    · intro nW2 nB2 vsW2 vsB2 xo2 h2 tk2 hiW2 hiB2 F2 N2
      refine ih (i + 1) _ nW2 nB2 vsW2 vsB2 _ _ oI' xo2 (by omega) hI' hiW2 hiB2 (by rw [incW_len]; exact hlW) (by rw [incB_len]; exact hlB) F2 N2 ?_
      intro nW3 nB3 vsW3 vsB3 xo3 h3 tk3 hiW3 hiB3 F3 N3
      rw [hdr] at hQ
      exact hQ nW3 nB3 vsW3 vsB3 xo3 h3 tk3 hiW3 hiB3 F3 N3

theorem s8_outer {w : World} {ring a : Int} {tr ta : Tok} {o1 o5 : Obj} {Wa Be I1 P0 P1 Ru : Addr} {nP nR : Nat} {vsP : List Value} {ps : List Int} {rest : List (Addr × Obj)} {nW nB : Nat} {vsW vsB : List Value} {ws bs : List Int} {xo x1 : Option Value} {m0 : Str → Option Value} {cd : Value} {p : Program} {loose : List Str} {mean : ExcName → Option Value} {mg mb : Str → Option Value} {base h₀ : Heap} {L fa : Addr} {s : Shared} {Q : Flow → Shared → Prop} {E : Value → Shared → Prop}
    (B : Below callerA base [] h₀) (X : (hd.heap_39 w.params).In h₀) (T : Top p loose mean mg mb h₀)
    (hWB : Wa ≠ Be) (hnW : ∀ q ∈ rest, q.1 ≠ Wa) (hnB : ∀ q ∈ rest, q.1 ≠ Be)
    (hm1 : (L + 1, o1) ∈ rest) (hd1 : o1.data = .cell (some (.int ring tr))) (hm5 : (L + 1 + 1 + 1 + 1 + 1, o5) ∈ rest) (hd5 : o5.data = .cell (some (.ref Wa)))
    (hRu : (Ru, listOf [Value.ref P0, Value.ref P1].toArray nR) ∈ rest) (hP : (P1, listOf vsP.toArray nP) ∈ rest) (hiP : IntsAre vsP ps) (hps : ∀ b ∈ ps, 0 ≤ b ∧ b < ring) (hr : 4 ≤ ring ∧ ring ≤ 12) (ha : 0 ≤ a ∧ a < ring)
    (hiW : IntsAre vsW ws) (hiB : IntsAre vsB bs) (hlW : (ws.length : Int) = ring) (hlB : (bs.length : Int) = ring)
    (F : Fr h₀ L s.heap (fun y => if y = Str.ofString "other" then xo else if y = Str.ofString "one" then x1 else if y = Str.ofString "beyond" then some (.ref Be) else if y = Str.ofString "rulers" then some (.ref Ru) else m0 y)) (N : News h₀ L s.heap ((Wa, listOf vsW.toArray nW) :: (Be, listOf vsB.toArray nB) :: rest))
    (hgo : ∀ (nW' nB' : Nat) (vsW' vsB' : List Value) (xo x1 : Option Value) (h' : Heap) (tk' : Nat), IntsAre vsW' (rowW ring ps ws a) → IntsAre vsB' (rowB ring ps bs a) → Fr h₀ L h' (fun y => if y = Str.ofString "other" then xo else if y = Str.ofString "one" then x1 else if y = Str.ofString "beyond" then some (.ref Be) else if y = Str.ofString "rulers" then some (.ref Ru) else m0 y) → News h₀ L h' ((Wa, listOf vsW'.toArray nW') :: (Be, listOf vsB'.toArray nB') :: rest) → (ForRest lawProg w (callerA.deeper (lawEnv w L fa cd)) E (lawEnv w L fa cd) (forT (lawS w 8)) (.ref I1) (forB (lawS w 8)) [] Q { s with heap := h', toks := tk' })) :
    wpAny (model lawProg w) (callerA.deeper (lawEnv w L fa cd)) (assign (forT (lawS w 8)) (lawEnv w L fa cd) (.int a ta)) (fun _ s₂ => wpAny (model lawProg w) (callerA.deeper (lawEnv w L fa cd)) (execs (forB (lawS w 8)) (lawEnv w L fa cd)) (ForPost lawProg w (callerA.deeper (lawEnv w L fa cd)) E (lawEnv w L fa cd) (forT (lawS w 8)) (.ref I1) (forB (lawS w 8)) [] Q) (fun _ _ => False) s₂) (fun _ _ => False) s := by
  dsimp only [in8, rulS, lawS, lawB, lawQ, lawSc, lawEnv, forB, forT, forI, pkBody, pkQual, pkScope, nthS]
  (k_with "exec For Name Subscript cons nil" => (with_unfolding_all refine' for_start ?_ ?hs; (case hs => exact fun _ => rfl); k_whole))
  k_steps
  rename_i h7 F7 N7
  refine item_list (vs := [Value.ref P0, Value.ref P1]) (News.isList N7 (.tail _ (.tail _ hRu))) (by decide) (by decide) rfl ?_
  k_steps
  refine li_iter F7 N7 (.tail _ (.tail _ hP)) fun I2 oI h8 hI hIl hLI F8 N8 => ?_
  have pm1 : ∀ q ∈ (Wa, listOf vsW.toArray nW) :: (Be, listOf vsB.toArray nB) :: (I2, oI) :: rest, q ∈ (I2, oI) :: (Wa, listOf vsW.toArray nW) :: (Be, listOf vsB.toArray nB) :: rest := by
    intro q hq
    simp only [List.mem_cons] at hq ⊢
    rcases hq with rfl | rfl | rfl | hq <;> simp [*]
  refine s8_inner (ring := ring) (a := a) (ta := ta) (o1 := o1) (o5 := o5) (nP := nP) (ps := ps) (rest := rest) (Ru := Ru) (m0 := m0) (fun _ => rfl) B X T hWB hnW hnB (fun q hq => Nat.ne_of_lt (hIl q (.tail _ (.tail _ hq)))) (Nat.ne_of_lt (hIl _ (.head _))) (Nat.ne_of_lt (hIl _ (.tail _ (.head _)))) hm1 hd1 hm5 hd5 hP hiP hps hr ha ps.length 0 _ nW nB vsW vsB ws bs oI xo (by omega) hI hiW hiB hlW hlB (fr_eq F8 ?_) (news_sub N8 pm1) ?_
  · intro y
    by_cases h1 : y = Str.ofString "other"
    · subst h1; rfl
    · by_cases h2 : y = Str.ofString "one"
      · subst h2; rfl
      · simp [h1, h2]
  intro nW3 nB3 vsW3 vsB3 xo3 h3 tk3 hiW3 hiB3 F3 N3
  k_steps
  rw [List.drop_zero] at hiW3 hiB3
  exact hgo nW3 nB3 vsW3 vsB3 xo3 _ h3 _ hiW3 hiB3 F3 N3

noncomputable def allW (ring : Int) (ps qs : List Int) (ws : List Int) : List Int := ps.foldl (rowW ring qs) ws
noncomputable def allB (ring : Int) (ps qs : List Int) (bs : List Int) : List Int := ps.foldl (rowB ring qs) bs
theorem s8_loop {w : World} {ring : Int} {tr : Tok} {o1 o5 : Obj} {Wa Be I1 P0 P1 Ru : Addr} {nP nQ nR : Nat} {vsP vsQ : List Value} {ps qs : List Int} {rest : List (Addr × Obj)} {m0 : Str → Option Value} {cd : Value} {p : Program} {loose : List Str} {mean : ExcName → Option Value} {mg mb : Str → Option Value} {base h₀ : Heap} {L fa : Addr}  {Q : Flow → Shared → Prop} {E : Value → Shared → Prop}
    (hl1 : ∀ v, letOwnedTupleGo (forT (lawS w 8)) (.ref I1) v = pure ())
    (B : Below callerA base [] h₀) (X : (hd.heap_39 w.params).In h₀) (T : Top p loose mean mg mb h₀)
    (hWB : Wa ≠ Be) (hnW : ∀ q ∈ rest, q.1 ≠ Wa) (hnB : ∀ q ∈ rest, q.1 ≠ Be) (hnI : ∀ q ∈ rest, q.1 ≠ I1) (hWI : Wa ≠ I1) (hBI : Be ≠ I1)
    (hm1 : (L + 1, o1) ∈ rest) (hd1 : o1.data = .cell (some (.int ring tr))) (hm5 : (L + 1 + 1 + 1 + 1 + 1, o5) ∈ rest) (hd5 : o5.data = .cell (some (.ref Wa)))
    (hRu : (Ru, listOf [Value.ref P0, Value.ref P1].toArray nR) ∈ rest) (hP : (P0, listOf vsP.toArray nP) ∈ rest) (hiP : IntsAre vsP ps) (hps : ∀ b ∈ ps, 0 ≤ b ∧ b < ring) (hQ1 : (P1, listOf vsQ.toArray nQ) ∈ rest) (hiQ : IntsAre vsQ qs) (hqs : ∀ b ∈ qs, 0 ≤ b ∧ b < ring) (hr : 4 ≤ ring ∧ ring ≤ 12) :
    ∀ (j i : Nat) (s : Shared) (nW nB : Nat) (vsW vsB : List Value) (ws bs : List Int) (oI : Obj) (xo x1 : Option Value), ps.length = i + j → IterO oI P0 i → IntsAre vsW ws → IntsAre vsB bs → (ws.length : Int) = ring → (bs.length : Int) = ring →
      Fr h₀ L s.heap (fun y => if y = Str.ofString "other" then xo else if y = Str.ofString "one" then x1 else if y = Str.ofString "beyond" then some (.ref Be) else if y = Str.ofString "rulers" then some (.ref Ru) else m0 y) → News h₀ L s.heap ((Wa, listOf vsW.toArray nW) :: (Be, listOf vsB.toArray nB) :: (I1, oI) :: rest) →
      (∀ (nW' nB' : Nat) (vsW' vsB' : List Value) (xo x1 : Option Value) (h' : Heap) (tk' : Nat), IntsAre vsW' (allW ring (ps.drop i) qs ws) → IntsAre vsB' (allB ring (ps.drop i) qs bs) → Fr h₀ L h' (fun y => if y = Str.ofString "other" then xo else if y = Str.ofString "one" then x1 else if y = Str.ofString "beyond" then some (.ref Be) else if y = Str.ofString "rulers" then some (.ref Ru) else m0 y) → News h₀ L h' ((Wa, listOf vsW'.toArray nW') :: (Be, listOf vsB'.toArray nB') :: rest) → Q .next { s with heap := h', toks := tk' }) →
      (ForRest lawProg w (callerA.deeper (lawEnv w L fa cd)) E (lawEnv w L fa cd) (forT (lawS w 8)) (.ref I1) (forB (lawS w 8)) [] Q s) := by
  have hne : ∀ (o o' : Obj), ∀ q ∈ (Wa, o) :: (Be, o') :: rest, q.1 ≠ I1 := by
    intro o o' q hq
    rcases List.mem_cons.mp hq with rfl | hq
    · exact hWI
    rcases List.mem_cons.mp hq with rfl | hq
    · exact hBI
    · exact hnI q hq
  have pm1 : ∀ {a b c : Addr × Obj}, ∀ q ∈ c :: a :: b :: rest, q ∈ a :: b :: c :: rest := by
    intro a b c q hq
    simp only [List.mem_cons] at hq ⊢
    rcases hq with rfl | rfl | rfl | hq <;> simp [*]
  have pm2 : ∀ {a b c : Addr × Obj}, ∀ q ∈ a :: b :: c :: rest, q ∈ c :: a :: b :: rest := by
    intro a b c q hq
    simp only [List.mem_cons] at hq ⊢
    rcases hq with rfl | rfl | rfl | hq <;> simp [*]
  have hlP := hiP.length
  intro j
  induction j with
  | zero =>
    intro i s nW nB vsW vsB ws bs oI xo x1 hij hI hiW hiB hlW hlB F N hQ
    refine for_turn hl1 ?_
    refine li_end rfl F (news_sub N pm1) hI (hne _ _) (.tail _ (.tail _ hP)) (by rw [List.getElem?_eq_none]; omega) fun h' F' N' => ?_
    refine wpAny_execs_nil ?_
    have hd : ps.drop i = [] := List.drop_eq_nil_of_le (by omega)
    rw [hd] at hQ
    exact hQ nW nB vsW vsB xo x1 h' _ hiW hiB F' N'
  | succ j ih =>
    intro i s nW nB vsW vsB ws bs oI xo x1 hij hI hiW hiB hlW hlB F N hQ
    refine for_turn hl1 ?_
    have hlt : i < vsP.length := by omega
    obtain ⟨b, tb, hx⟩ := ints_at hiP i hlt
    obtain ⟨b', tb', he, hb⟩ := IntsAre.at hiP i _ hx
    cases he
    have hbp := hps b (List.mem_of_getElem? hb)
    have hdr : ps.drop i = b :: ps.drop (i + 1) := by
      rw [List.drop_eq_getElem_cons (by omega)]
      congr 1
      have := List.getElem?_eq_getElem (l := ps) (i := i) (by omega)
      rw [hb] at this
      exact (Option.some.inj this).symm
    refine li_next F (news_sub N pm1) hI (hne _ _) (.tail _ (.tail _ hP)) hx fun h' oI' hI' F' N' => ?_
    dsimp only
    refine s8_outer (rest := (I1, oI') :: rest) (P0 := P0) (P1 := P1) (Ru := Ru) (nR := nR) B X T hWB ?_ ?_ (.tail _ hm1) hd1 (.tail _ hm5) hd5 (.tail _ hRu) (.tail _ hQ1) hiQ hqs hr hbp hiW hiB hlW hlB F' (news_sub N' pm2) ?_
    · intro q hq
      rcases List.mem_cons.mp hq with rfl | hq
      · exact Ne.symm hWI
      · exact hnW q hq
    · intro q hq
      rcases List.mem_cons.mp hq with rfl | hq
      · exact Ne.symm hBI
      · exact hnB q hq
    · intro nW2 nB2 vsW2 vsB2 xo2 x12 h2 tk2 hiW2 hiB2 F2 N2
      refine ih (i + 1) _ nW2 nB2 vsW2 vsB2 _ _ oI' xo2 x12 (by omega) hI' hiW2 hiB2 (by rw [rowW_len]; exact hlW) (by rw [rowB_len]; exact hlB) F2 N2 ?_
      intro nW3 nB3 vsW3 vsB3 xo3 x13 h3 tk3 hiW3 hiB3 F3 N3
      rw [hdr] at hQ
      exact hQ nW3 nB3 vsW3 vsB3 xo3 x13 h3 tk3 hiW3 hiB3 F3 N3

theorem s8_spec {w : World} {ring : Int} {tr : Tok} {o1 o5 : Obj} {Wa Be P0 P1 Ru : Addr} {nP nQ nR nW nB : Nat} {vsP vsQ vsW vsB : List Value} {ps qs ws bs : List Int} {rest : List (Addr × Obj)} {m0 : Str → Option Value} {cd : Value} {p : Program} {loose : List Str} {mean : ExcName → Option Value} {mg mb : Str → Option Value} {base h₀ : Heap} {L fa : Addr} {s : Shared} {Q : Flow → Shared → Prop} {E : Value → Shared → Prop}
    (B : Below callerA base [] h₀) (X : (hd.heap_39 w.params).In h₀) (T : Top p loose mean mg mb h₀)
    (F : Fr h₀ L s.heap (fun y => if y = Str.ofString "beyond" then some (.ref Be) else if y = Str.ofString "rulers" then some (.ref Ru) else m0 y)) (N : News h₀ L s.heap ((Wa, listOf vsW.toArray nW) :: (Be, listOf vsB.toArray nB) :: rest))
    (hWB : Wa ≠ Be) (hnW : ∀ q ∈ rest, q.1 ≠ Wa) (hnB : ∀ q ∈ rest, q.1 ≠ Be)
    (hm1 : (L + 1, o1) ∈ rest) (hd1 : o1.data = .cell (some (.int ring tr))) (hm5 : (L + 1 + 1 + 1 + 1 + 1, o5) ∈ rest) (hd5 : o5.data = .cell (some (.ref Wa)))
    (hRu : (Ru, listOf [Value.ref P0, Value.ref P1].toArray nR) ∈ rest) (hP : (P0, listOf vsP.toArray nP) ∈ rest) (hiP : IntsAre vsP ps) (hps : ∀ b ∈ ps, 0 ≤ b ∧ b < ring) (hQ1 : (P1, listOf vsQ.toArray nQ) ∈ rest) (hiQ : IntsAre vsQ qs) (hqs : ∀ b ∈ qs, 0 ≤ b ∧ b < ring) (hr : 4 ≤ ring ∧ ring ≤ 12)
    (hiW : IntsAre vsW ws) (hiB : IntsAre vsB bs) (hlW : (ws.length : Int) = ring) (hlB : (bs.length : Int) = ring)
    (hret : ∀ (nW' nB' : Nat) (vsW' vsB' : List Value) (xo x1 : Option Value) (h' : Heap) (tk' : Nat), IntsAre vsW' (allW ring ps qs ws) → IntsAre vsB' (allB ring ps qs bs) → Fr h₀ L h' (fun y => if y = Str.ofString "other" then xo else if y = Str.ofString "one" then x1 else if y = Str.ofString "beyond" then some (.ref Be) else if y = Str.ofString "rulers" then some (.ref Ru) else m0 y) → News h₀ L h' ((Wa, listOf vsW'.toArray nW') :: (Be, listOf vsB'.toArray nB') :: rest) → Q .next { s with heap := h', toks := tk' }) :
    wpAny (model lawProg w) (callerA.deeper (lawEnv w L fa cd)) (exec (lawS w 8) (lawEnv w L fa cd)) Q E s := by
  dsimp only [in8, rulS, lawS, lawB, lawQ, lawSc, lawEnv, forB, forT, forI, pkBody, pkQual, pkScope, nthS]
  (k_with "exec For Name Subscript cons nil" => (with_unfolding_all refine' for_start ?_ ?hs; (case hs => exact fun _ => rfl); k_whole))
  k_steps
  refine item_list (vs := [Value.ref P0, Value.ref P1]) (News.isList N (.tail _ (.tail _ hRu))) (by decide) (by decide) rfl ?_
  k_steps
  refine li_iter F N (.tail _ (.tail _ hP)) fun I1 oI h8 hI hIl hLI F8 N8 => ?_
  have pm1 : ∀ q ∈ (Wa, listOf vsW.toArray nW) :: (Be, listOf vsB.toArray nB) :: (I1, oI) :: rest, q ∈ (I1, oI) :: (Wa, listOf vsW.toArray nW) :: (Be, listOf vsB.toArray nB) :: rest := by
    intro q hq
    simp only [List.mem_cons] at hq ⊢
    rcases hq with rfl | rfl | rfl | hq <;> simp [*]
  refine s8_loop (ring := ring) (o1 := o1) (o5 := o5) (nP := nP) (nQ := nQ) (nR := nR) (ps := ps) (qs := qs) (rest := rest) (P0 := P0) (P1 := P1) (Ru := Ru) (m0 := m0) (fun _ => rfl) B X T hWB hnW hnB (fun q hq => Nat.ne_of_lt (hIl q (.tail _ (.tail _ hq)))) (Nat.ne_of_lt (hIl _ (.head _))) (Nat.ne_of_lt (hIl _ (.tail _ (.head _)))) hm1 hd1 hm5 hd5 hRu hP hiP hps hQ1 hiQ hqs hr ps.length 0 _ nW nB vsW vsB ws bs oI _ _ (by omega) hI hiW hiB hlW hlB (fr_pad (fr_pad F8 (Str.ofString "one") rfl) (Str.ofString "other") rfl) (news_sub N8 pm1) ?_
  intro nW3 nB3 vsW3 vsB3 xo3 x13 h3 tk3 hiW3 hiB3 F3 N3
  rw [List.drop_zero] at hiW3 hiB3
  exact hret nW3 nB3 vsW3 vsB3 xo3 x13 h3 _ hiW3 hiB3 F3 N3
end Mine
end PartRg

section PartRh
open PySem PySem.Spec PySem.Calls PySem.W PyProof.Rows
set_option Elab.async false
set_option maxRecDepth 100000
set_option maxHeartbeats 8000000
namespace Mine
/-- the walk's lines are looked up afresh from here on -/
theorem syncRh {M : Model} {A : Around} {E : Value → Shared → Prop} {s : Shared} {env : Env} {Q : Flow → Shared → Prop} (h : Q .next s) : wpAny M A (execs [] env) Q E s := by
  w_top off
  first | (walk1; exact h) | exact wpAny_execs_nil h

/-- how many unlike numbers -/
noncomputable def dcount (ns : List Int) : Nat := (firstMet (fun i => ns.getD i 0) ns.length).length
noncomputable abbrev tup3 (a b c : Value) : Obj := { cls := .type "tuple", data := .seq #[a, b, c] }
section
variable {prog : Program} {w : World} {A : Around} {E : Value → Shared → Prop} {s : Shared} {h₀ : Heap} {L : Addr} {m : Str → Option Value} {news : List (Addr × Obj)} {env : Env}
theorem set_list {l : Addr} {vs : List Value} {ns : List Int} {n : Nat} {Q : Value → Shared → Prop} (hh : A.handled = none) (F : Fr h₀ L s.heap m) (N : News h₀ L s.heap news) (hm : (l, listOf vs.toArray n) ∈ news) (hi : IntsAre vs ns) (hb : ns.length ≤ 100)
    (h : ∀ D h' (tk : Nat) o, Fr h₀ L h' m → News h₀ L h' ((D, o) :: news) → (∀ q ∈ news, q.1 < D) → o.SetObjOf (intKind prog w) (fun k' => (firstMet (fun i => ns.getD i 0) ns.length).any (· == k')) (dcount ns) → ((dcount ns : Int) < 2 ^ 63) → Q (.ref D) { s with heap := h', toks := tk }) :
    wpAny (model prog w) A (call (.type "set") [.ref l]) Q E s := by
  have hvn : vs.length = ns.length := hi.length
  have hsz : vs.toArray.size = ns.length := by rw [List.size_toArray]; exact hvn
  refine PySem.call_set_list (items := vs.toArray) (ns := ns) hh (News.isList N hm) (by simpa using hi) (by rw [hsz]; unfold scanBound; omega) fun h' tk hS hk => ?_
  rw [hsz] at hS
  obtain ⟨o, ho, hso⟩ := hS.objOf
  have hLlt : L < s.heap.objs.size := F.ns.lt
  have hle := firstMet_length_le (fun i => ns.getD i 0) ns.length
  refine h _ h' tk o ⟨F.ns.at' fun o' e => hk L o' hLlt e, fun b o' e => hk b o' (Heap.lt_size (F.keep b o' e)) (F.keep b o' e), F.above⟩ (fun p hp => ?_) (fun q hq => Heap.lt_size (N q hq).1) hso (by
    have h4 : ((dcount ns : Nat) : Int) ≤ 100 := by unfold dcount; omega
    exact Int.lt_of_le_of_lt h4 (by decide))
  rcases List.mem_cons.mp hp with rfl | hp
  · exact ⟨ho, Nat.ne_of_gt hLlt, Heap.get?_none_of_le (Nat.le_trans F.above (Nat.le_of_lt hLlt))⟩
  · exact ⟨hk _ _ (Heap.lt_size (N p hp).1) (N p hp).1, (N p hp).2.1, (N p hp).2.2⟩

noncomputable def SrcP (prog : Program) (w : World) (A : Around) (h₀ : Heap) (L : Addr) (m : Str → Option Value) (env : Env) (elt : PySem.Expr) (x : Str) (scope : Scope) (cl : List (Str × Addr)) (Fin : Shared → List Value → List (Addr × Obj) → Prop) (xv : Value) (s₁ : Shared) : Prop :=
  ∃ T items oT news, xv = .ref T ∧ A.handled = none ∧ Fr h₀ L s₁.heap m ∧ News h₀ L s₁.heap news ∧ (T, oT) ∈ news ∧ oT.cls = .type "tuple" ∧ (∃ n, oT.data = .seq items n) ∧ items.size ≤ sizeLine ∧
    ∀ s₂ : Shared, (∃ h, s₂ = { s₁ with heap := h }) → LCg.CompRest prog w A h₀ L m env elt x scope cl s₂ (fun nw => (T, oT) ∈ nw) (fun i v => items[i]? = some v) (Fin s₂) items.size 0 [] news
theorem asg_P {elt iter : PySem.Expr} {x y : Str} {px py : Pos} {scope : Scope} {cl : List (Str × Addr)} {pos spos : Pos} {Q : Flow → Shared → Prop} (F₀ : Fr h₀ L s.heap m) (hLe : env.locals = L)
    (hsw : swapsWith (.ListComp elt [⟨.Name x px, iter, [], 0⟩] scope pos) (some (.Name y py)) spos.line env = pure true)
    (hclos : closureFor scope env = pure cl) (hcell : ∀ z ∈ scope.names, z.2 ≠ .cell) (hkind : scope.kind = .function)
    (hnames : ∀ z ∈ scope.names, z.2 = .local → scope.names.lookup z.1 = some .local) (hx : scope.names.lookup x = some .local)
    (hy : env.kindOf y = some .local) (hp : (env.scope.kind == .class || (env.scope.kind == .module && env.locals != env.globals)) = false)
    (h : wpAny (model prog w) A (eval iter env) (SrcP prog w A h₀ L m env elt x scope cl (fun s₂ => LCg.FinA h₀ L m s₂ y Q)) E s)
    (hs : ∀ x, foldedSetIterable iter env x = pure x := by intro _; rfl) :
    wpAny (model prog w) A (exec (.Assign [.Name y py] (.ListComp elt [⟨.Name x px, iter, [], 0⟩] scope pos) spos) env) Q E s := by
  subst hLe
  rw [exec_Assign_Name_used _ _ _ _ hsw]
  refine wpAny_bind (wpAny_standAt (wpAny_bind ?_))
  show wpAny _ A (do let _ ← comprehension (.ListComp elt [⟨.Name x px, iter, [], 0⟩] scope pos) scope env _ (newList []) false (eval iter env) (some (assign (.Name y py) env))) _ _ s
  refine wpAny_bind (wpAny_mono (wpAny_comprehension_free (use := some (assign (.Name y py) env)) (Q := fun _ s' => Q .next s') rfl hs hclos hkind hnames
    (wpAny_mono h (fun xv s₁ h₁ => ?_) fun _ _ e => e)) (fun _ s' hq => wpAny_pure (wpAny_pure hq)) fun _ _ e => e)
  obtain ⟨T, items, oT, news, rfl, hh, F, N, hT, hcls, ⟨nT, hdat⟩, hsz, R⟩ := h₁
  have ht : s₁.heap.IsTuple T items := ⟨oT, (N _ hT).1, hcls, nT, hdat⟩
  have hlt : T < s₁.heap.objs.size := Heap.lt_size (N _ hT).1
  refine wpAny_pyIter_tuple ht ?_
  have up : ∀ b o, s₁.heap.get? b = some o → (s₁.heap.push { cls := .type "tuple_iterator", data := .fields #[.ref T, .int 0 0] }).get? b = some o := fun b o e => Heap.get?_push_of_some _ e
  refine LCg.block_U (Walks.tuple hh s₁.heap.objs.size T (Nat.ne_of_lt hlt) items) hsz (fun i h st => by obtain ⟨o, e, _⟩ := st.1; exact ⟨o, e⟩) ?hSt hcell hkind hx ⟨⟨_, Heap.get?_push_size _ rfl, rfl, rfl⟩, ht.push _⟩ (fun b hb => ?_)
    (F.keeps up) (N.grown up) (Nat.ne_of_lt F.ns.lt) (Heap.get?_none_of_le (Nat.le_trans F.above (Nat.le_of_lt F.ns.lt))) (fun p hp => Nat.ne_of_lt (Heap.lt_size (N p hp).1)) hT (R _ ⟨_, rfl⟩) ?_
  case hSt =>
    intro i h h' o nw st e e' k N9 S9
    refine ⟨?_, ⟨oT, (N9 _ S9).1, hcls, nT, hdat⟩⟩
    obtain ⟨o', q, r⟩ := st.1
    rw [e] at q
    cases q
    exact ⟨o, e', r⟩
  · show b < (s₁.heap.push _).objs.size
    rw [Heap.size_push]
    rcases List.mem_cons.mp hb with rfl | hb
    · exact Nat.lt_succ_self _
    · rw [List.mem_singleton.mp hb]; exact Nat.lt_succ_of_lt hlt
  · intro D C h' tk m' ys news' F' N' o1 hn hC₀ hD₀ hCL hDL hCD offC fin
    show wpAny _ A (assign (.Name y py) env (.ref D)) _ _ _
    refine wpAny_assign_Name (wpAny_storeName_local hy F'.ns (fun h₂ hn₂ hs₂ => ?_) hp)
    have hL₀ : h₀.get? env.locals = none := Heap.get?_none_of_le F'.above
    have F₂ : Fr h₀ env.locals h₂ (fun z => if z = y then some (.ref D) else m z) := ⟨hn₂, fun b o e => hs₂.extBut b o (fun q => by rw [q, hL₀] at e; cases e) (F'.keep b o e), F'.above⟩
    refine ⟨m', hn.sameBut hs₂ hCL, fun h'' hs'' => fin D h'' _ (F₂.change hs'' hCL hC₀) (fun p hp => ?_) o1⟩
    have z : h₂.get? p.1 = some p.2 := hs₂.extBut _ _ (N' p hp).2.1 (N' p hp).1
    refine ⟨hs''.extBut _ _ ?_ z, (N' p hp).2⟩
    rcases List.mem_cons.mp hp with rfl | hp
    · exact Ne.symm hCD
    · exact offC p hp
end
local macro_rules | `(tactic| walk_at "exec Assign cons ListComp") => `(tactic| (k_here; refine stop_here ?_))
local macro_rules | `(tactic| walk_at "call type:set cons nil") => `(tactic| (k_here; refine stop_here ?_))

theorem s18_spec {w : World} {o7 : Obj} {St Su Ru P0 P1 : Addr} {nS nU nR nP nQ : Nat} {vsS vsU vsP vsQ : List Value} {st9 us ps qs : List Int} {news : List (Addr × Obj)} {m0 : Str → Option Value} {cd : Value} {p : Program} {loose : List Str} {mean : ExcName → Option Value} {mg mb : Str → Option Value} {base h₀ : Heap} {L fa : Addr} {s : Shared} {Q : Flow → Shared → Prop} {E : Value → Shared → Prop}
    (B : Below callerA base [] h₀) (X : (hd.heap_39 w.params).In h₀) (T : Top p loose mean mg mb h₀)
    (F : Fr h₀ L s.heap (fun y => if y = Str.ofString "sums" then some (.ref Su) else if y = Str.ofString "rulers" then some (.ref Ru) else m0 y)) (N : News h₀ L s.heap news) (hm7 : (L + 1 + 1 + 1 + 1 + 1 + 1 + 1, o7) ∈ news) (hd7 : o7.data = .cell (some (.ref St))) (hSt : (St, listOf vsS.toArray nS) ∈ news) (hiS : IntsAre vsS st9) (hl0 : 0 < st9.length) (hlS : st9.length ≤ 12) (hd0 : 1 ≤ st9.getD 0 0)
    (hRu : (Ru, listOf [Value.ref P0, Value.ref P1].toArray nR) ∈ news) (hSu : (Su, listOf vsU.toArray nU) ∈ news) (hiU : IntsAre vsU us) (hlU : us.length ≤ 12) (hP : (P0, listOf vsP.toArray nP) ∈ news) (hiP : IntsAre vsP ps) (hlP : ps.length ≤ 12) (hQ1 : (P1, listOf vsQ.toArray nQ) ∈ news) (hiQ : IntsAre vsQ qs) (hlQ : qs.length ≤ 12)
    (hret : ∀ (h' : Heap) (tk' : Nat) (D : Addr) (n' : Nat) (t0 t1 t2 : Tok), Fr h₀ L h' (fun y => if y = Str.ofString "kinds" then some (.ref D) else if y = Str.ofString "sums" then some (.ref Su) else if y = Str.ofString "rulers" then some (.ref Ru) else m0 y) → News h₀ L h' ((D, listOf [Value.int (dcount (us.map (· % st9.getD 0 0))) t0, Value.int (dcount (ps.map (· % st9.getD 0 0))) t1, Value.int (dcount (qs.map (· % st9.getD 0 0))) t2].toArray n') :: news) → Q .next { s with heap := h', toks := tk' }) :
    wpAny (model lawProg w) (callerA.deeper (lawEnv w L fa cd)) (exec (lawS w 18) (lawEnv w L fa cd)) Q E s := by
  dsimp only [in8, rulS, lawS, lawB, lawQ, lawSc, lawEnv, forB, forT, forI, pkBody, pkQual, pkScope, nthS]
  have hlv := hiS.length
  have hd9 : st9.getD (Int.toNat 0) 0 ≠ 0 := by show st9.getD 0 0 ≠ 0; omega
  k_steps
  k_dflt (refine asg_P (F₀ := by k_asm) (by rfl) (by with_unfolding_all rfl) (by with_unfolding_all rfl) (by decide) (by rfl) (by decide) (by rfl) (by rfl) (by rfl) ?_)
  k_steps
  rename_i D9 h9 F9 N9 l9
  refine ⟨D9, _, _, _, rfl, rfl, F9, N9, .head _, rfl, ⟨_, rfl⟩, by show (3 : Nat) ≤ sizeLine; rw [sizeLine_eq]; decide, fun s₂ hs₂ => ?_⟩
  obtain ⟨g9, rfl⟩ := hs₂
  refine comp_map (ks := [us, ps, qs]) (fun ls => (dcount (ls.map (· % st9.getD 0 0)) : Int)) (fun ls v => ls.length ≤ 12 ∧ ∃ a vs n, v = .ref a ∧ (a, listOf vs.toArray n) ∈ news ∧ IntsAre vs ls) (fun y v => ∃ t, v = .int y t) rfl ?_ (.head _) ?_ ?_
  · intro i v hi hv
    rcases (show i = 0 ∨ i = 1 ∨ i = 2 by have : i < 3 := hi; omega) with rfl | rfl | rfl
    · cases hv; exact ⟨us, rfl, hlU, Su, vsU, nU, rfl, hSu, hiU⟩
    · cases hv; exact ⟨ps, rfl, hlP, P0, vsP, nP, rfl, hP, hiP⟩
    · cases hv; exact ⟨qs, rfl, hlQ, P1, vsQ, nQ, rfl, hQ1, hiQ⟩
  · intro ls v I oI C oC D m₂ ys h tk E' hk hK hC hx F5 N5
    obtain ⟨hll, a, vsA, nA, rfl, hA, hiA⟩ := hK
    have hlA := hiA.length
    clear hret F9 N9
    k_steps
    k_dflt (refine list_U (F₀ := by k_asm) (by with_unfolding_all rfl) (by decide) (by rfl) (by decide) (by rfl) ?_)
    k_steps
    refine srcU_list (news := (I, oI) :: (C, oC) :: (D, LCg.lst ys) :: (D9, tup3 (.ref Su) (.ref P0) (.ref P1)) :: news) (fun x => x % st9.getD 0 0) (fun k v => ∃ t, v = .int k t) rfl F5 N5 (.tail _ (.tail _ (.tail _ (.tail _ hA)))) hiA (by omega) ?_ ?_
    · intro g8 k8 t8 I8 oI8 C8 oC8 D8 m8 ys8 h8 tk8 E8 hk8 hC8 hx8 F8 N8
      k_steps
      exact ElEnd.mk (by assumption) (by assumption) (fun q hq => hq) ⟨_, by rw [show st9.getD (Int.toNat 0) 0 = st9.getD 0 0 from rfl, Int.fmod_eq_emod_of_nonneg _ (by omega)]⟩
    · intro g8 ys8 hys8 D8 h8 tk8 F8 N8 off8
      have hi8 := hys8.ints
      k_steps
      refine set_list rfl F8 N8 (.head _) hi8 (by rw [List.length_map]; omega) ?_
      intro D7 h7 tk7 o7 F7 N7 l7 hso7 hf7
      have U7 := UpdF.head (d := D7) (o := o7) (fun p hp => Nat.ne_of_lt (l7 p hp))
      k_steps
      exact ElEnd.mk (by assumption) (by assumption) (fun q hq => .tail _ (.tail _ hq)) ⟨_, rfl⟩
  · intro ys hys D h tk F5 N5 off5
    have hys' : Are (fun (y : Int) v => ∃ t, v = Value.int y t) ys [(dcount (us.map (· % st9.getD 0 0)) : Int), (dcount (ps.map (· % st9.getD 0 0)) : Int), (dcount (qs.map (· % st9.getD 0 0)) : Int)] := hys
    clear hys
    cases hys' with
    | cons h0 r0 =>
      cases r0 with
      | cons h1 r1 =>
        cases r1 with
        | cons h2 r2 =>
          cases r2
          obtain ⟨u0, rfl⟩ := h0
          obtain ⟨u1, rfl⟩ := h1
          obtain ⟨u2, rfl⟩ := h2
          refine hret _ _ D 3 u0 u1 u2 F5 (news_sub N5 ?_)
          intro q hq
          rcases List.mem_cons.mp hq with rfl | hq
          · exact .head _
          · exact .tail _ (.tail _ hq)
end Mine
end PartRh

section PartRi
open PySem PySem.Spec PySem.Calls PySem.W PyProof.Rows
set_option Elab.async false
set_option maxRecDepth 100000
set_option maxHeartbeats 8000000
namespace Mine
/-- the walk's lines are looked up afresh from here on -/
theorem syncRi {M : Model} {A : Around} {E : Value → Shared → Prop} {s : Shared} {env : Env} {Q : Flow → Shared → Prop} (h : Q .next s) : wpAny M A (execs [] env) Q E s := by
  w_top off
  first | (walk1; exact h) | exact wpAny_execs_nil h

/-- an address off the law's frame, its cells and the two rows behind them -/
noncomputable def Far (L M a : Nat) : Prop := a < L ∨ M < a
theorem far_ne {L M a c : Nat} (h : Far L M a) (h1 : L < c) (h2 : c ≤ M) : a ≠ c := by
  unfold Far at h
  omega
theorem far_all {L M : Nat} {rest : List (Addr × Obj)} (h : ∀ q ∈ rest, Far L M q.1) {c : Nat} (h1 : L < c) (h2 : c ≤ M) : ∀ q ∈ rest, q.1 ≠ c := fun q hq => far_ne (h q hq) h1 h2
theorem tb2_memA {oA ocA oB ocB : Obj} {cA cB : Addr} {news : List (Addr × Obj)} {g : Obj → Addr → Obj → Obj → Addr → Obj → List (Addr × Obj)} (U : Tb2 oA cA ocA oB cB ocB news g) : (cA, ocA) ∈ news ∧ (cB, ocB) ∈ news := by
  induction U with
  | base => exact ⟨.tail _ (.head _), .tail _ (.tail _ (.tail _ (.head _)))⟩
  | cons _ _ ih => exact ⟨.tail _ ih.1, .tail _ ih.2⟩
theorem far_g {L M : Nat} {oA ocA oB ocB oA' ocA' oB' ocB' : Obj} {cA cB cA' cB' : Addr} {news all : List (Addr × Obj)} {g : Obj → Addr → Obj → Obj → Addr → Obj → List (Addr × Obj)} (U : Tb2 oA cA ocA oB cB ocB news g) (h : ∀ q ∈ news, Far L M q.1)
    {om : Obj} (hM : (M, om) ∈ all) (fA : cA' = cA ∨ ∀ p ∈ all, p.1 < cA') (fB : cB' = cB ∨ ∀ p ∈ all, p.1 < cB') : ∀ q ∈ g oA' cA' ocA' oB' cB' ocB', Far L M q.1 := by
  intro q hq
  rcases U.adr q hq with ⟨r, hr, e⟩ | e | e
  · rw [← e]; exact h r hr
  · rw [e]
    rcases fA with rfl | fA
    · exact h _ (tb2_memA U).1
    · exact .inr (fA _ hM)
  · rw [e]
    rcases fB with rfl | fB
    · exact h _ (tb2_memA U).2
    · exact .inr (fB _ hM)
/-- what is plainly so of one ruler -/
structure RF (ring start many r0 r1 r2 : Int) (k : Nat) (ps ts : List Int) : Prop where
  row : Row r0 r1 r2
  hr0 : 1 ≤ r0 ∧ r0 ≤ 6
  hst : ∀ n v, stream r0 r1 r2 n = some v → 1 ≤ v ∧ v ≤ 6
  hs : -20 ≤ start ∧ start ≤ 20
  hm : 2 ≤ many ∧ many ≤ 5
  hmk : many - 1 = (k : Int)
  hk4 : k ≤ 4
  hps : runP ring (many - 1).toNat start [start % ring] (stream r0 r1 r2) = ps
  hts : ((rangeKs 0 ((siz r0 r1 r2 k).length + 1)).map fun j => (start + ((siz r0 r1 r2 k).take j.toNat).sum) % ring) = ts
  hpl : ps.length ≤ 5
  htl : ts.length ≤ 5
  hperm : ∀ l : List Int, l.Perm ts → l.Pairwise (· ≤ ·) → l = ps
  hso : ps.Pairwise (· ≤ ·)
  hds : ∀ d ∈ (rangeKs 0 ring.toNat).map (fun k => cntLe ps k - cntLt ps k), 0 ≤ d ∧ d < 2 ^ (6 : Int).toNat
  hb : ∀ x ∈ ts, 0 ≤ x ∧ x ≤ 12
  hsum : (ts.map fun p => (64 : Int) ^ p.toNat).sum = dval (2 ^ (6 : Int).toNat) ((rangeKs 0 ring.toNat).map fun k => cntLe ps k - cntLt ps k)
noncomputable def startOf (c : Int) : Int := c.fmod 41 - 20
noncomputable def r0Of (c : Int) : Int := 1 + (c.fdiv 41).fmod 6
noncomputable def r1Of (c : Int) : Int := ([3, 1, 2, 4, 0, 127] : List Int).getD (((c.fdiv 41).fdiv 6).fmod 6).toNat 0
noncomputable def r2Of (c : Int) : Int := ([0, 127, 2, 6] : List Int).getD (((c.fdiv 41).fdiv 36).fmod 4).toNat 0
noncomputable def manyOf (c : Int) : Int := 3 + ((c.fdiv 41).fdiv 144).fmod 3
noncomputable def numOf (ring : Int) (ps : List Int) : Int := dval (2 ^ (6 : Int).toNat) ((rangeKs 0 ring.toNat).map fun k => cntLe ps k - cntLt ps k)

theorem t_asg {w : World} {c : Int} {tc : Tok} {news : List (Addr × Obj)} {m0 : Str → Option Value} {cd : Value} {p : Program} {loose : List Str} {mean : ExcName → Option Value} {mg mb : Str → Option Value} {base h₀ : Heap} {L fa : Addr} {s : Shared} {Q : Unit → Shared → Prop} {E : Value → Shared → Prop}
    (B : Below callerA base [] h₀) (X : (hd.heap_39 w.params).In h₀) (T : Top p loose mean mg mb h₀) (F : Fr h₀ L s.heap m0) (N : News h₀ L s.heap news)
    (hret : ∀ (h' : Heap) (tk' : Nat), Fr h₀ L h' (fun y => if y = Str.ofString "cell" then some (.int c tc) else m0 y) → News h₀ L h' news → Q () { s with heap := h', toks := tk' }) :
    wpAny (model lawProg w) (callerA.deeper (lawEnv w L fa cd)) (assign (forT (lawS w 5)) (lawEnv w L fa cd) (.int c tc)) Q E s := by
  dsimp only [in8, rulS, lawS, lawB, lawQ, lawSc, lawEnv, forB, forT, forI, pkBody, pkQual, pkScope, nthS]
  k_steps
  exact hret _ _ (by assumption) (by assumption)

theorem ruler_turn {w : World} {c ring : Int} {tc tr : Tok} {k : Nat} {ps ts : List Int} {o1 o2 o3 o4 o5 o6 o7 : Obj} {v2 v3 v4 : Option Value} {Ru Nu It : Addr} {nr nn : Nat} {rvs nvs : List Value} {oA ocA oB ocB : Obj} {cA cB : Addr} {g : Obj → Addr → Obj → Obj → Addr → Obj → List (Addr × Obj)} {rest : List (Addr × Obj)} {m0 : Str → Option Value} {cd : Value} {p : Program} {loose : List Str} {mean : ExcName → Option Value} {mg mb : Str → Option Value} {base h₀ : Heap} {L fa : Addr} {s : Shared} {Q : Flow → Shared → Prop} {E : Value → Shared → Prop}
    (B : Below callerA base [] h₀) (X : (hd.heap_39 w.params).In h₀) (T : Top p loose mean mg mb h₀)
    (F : Fr h₀ L s.heap (fun y => if y = Str.ofString "numbers" then some (.ref Nu) else if y = Str.ofString "rulers" then some (.ref Ru) else m0 y)) (N : News h₀ L s.heap ((L + 1 + 1 + 1 + 1 + 1 + 1 + 1, o7) :: (L + 1 + 1 + 1 + 1 + 1 + 1, o6) :: (L + 1 + 1 + 1 + 1 + 1, o5) :: (L + 1 + 1 + 1 + 1, o4) :: (L + 1 + 1 + 1, o3) :: (L + 1 + 1, o2) :: (L + 1, o1) :: (Ru, listOf rvs.toArray nr) :: (Nu, listOf nvs.toArray nn) :: rest))
    (U : Tb2 oA cA ocA oB cB ocB rest g) (hTA : TabP 30 32 4 q30 oA cA ocA) (hTB : TabP 37 47 4 q37 oB cB ocB) (hcA : cA ≠ 37) (hcB : cB ≠ 30) (hL : (37 : Nat) < L) (hRu : @LT.lt Nat _ (L + 7) Ru) (hNu : @LT.lt Nat _ Ru Nu) (hfar : ∀ q ∈ rest, Far L Nu q.1)
    (hd1 : o1.data = .cell (some (.int ring tr))) (hd2 : o2.data = .cell v2) (hd3 : o3.data = .cell v3) (hd4 : o4.data = .cell v4) (hrl : rvs.length ≤ 5) (hnl : nvs.length ≤ 5)
    (hr : 4 ≤ ring ∧ ring ≤ 12) (R : RF ring (startOf c) (manyOf c) (r0Of c) (r1Of c) (r2Of c) k ps ts)
    (hgo : ∀ (h' : Heap) (tk' : Nat) (gens' : Array GenState) (nr' nn' nD : Nat) (D : Addr) (vsD : List Value) (tn : Tok) (o2' o3' o4' : Obj) (v2' v3' v4' : Option Value) (oA' : Obj) (cA' : Addr) (ocA' : Obj) (oB' : Obj) (cB' : Addr) (ocB' : Obj) (m' : Str → Option Value), IntsAre vsD ps → (AllBare s.gens → AllBare gens') → (cA' = cA ∨ ∀ q ∈ rest, q.1 < cA') → (cB' = cB ∨ ∀ q ∈ rest, q.1 < cB') → TabF 30 32 4 q30 oA' cA' ocA' → TabF 37 47 4 q37 oB' cB' ocB' → cA' ≠ 37 → cB' ≠ 30 →
      o2'.data = .cell v2' → o3'.data = .cell v3' → o4'.data = .cell v4' → @LT.lt Nat _ Nu D → (∀ q ∈ g oA' cA' ocA' oB' cB' ocB', Far L Nu q.1) → (∀ q ∈ g oA' cA' ocA' oB' cB' ocB', q.1 < D) → Fr h₀ L h' (fun y => if y = Str.ofString "numbers" then some (.ref Nu) else if y = Str.ofString "rulers" then some (.ref Ru) else m' y) → News h₀ L h' ((L + 1 + 1 + 1 + 1 + 1 + 1 + 1, o7) :: (L + 1 + 1 + 1 + 1 + 1 + 1, o6) :: (L + 1 + 1 + 1 + 1 + 1, o5) :: (L + 1 + 1 + 1 + 1, o4') :: (L + 1 + 1 + 1, o3') :: (L + 1 + 1, o2') :: (L + 1, o1) :: (Ru, listOf (rvs ++ [Value.ref D]).toArray nr') :: (Nu, listOf (nvs ++ [Value.int (numOf ring ps) tn]).toArray nn') :: (D, listOf vsD.toArray nD) :: g oA' cA' ocA' oB' cB' ocB') → (ForRest lawProg w (callerA.deeper (lawEnv w L fa cd)) E (lawEnv w L fa cd) (forT (lawS w 5)) (.ref It) (forB (lawS w 5)) [] Q { s with heap := h', toks := tk', gens := gens' })) :
    wpAny (model lawProg w) (callerA.deeper (lawEnv w L fa cd)) (assign (forT (lawS w 5)) (lawEnv w L fa cd) (.int c tc)) (fun _ s₂ => wpAny (model lawProg w) (callerA.deeper (lawEnv w L fa cd)) (execs [rulS w 0, rulS w 1, rulS w 2, rulS w 3, rulS w 4, rulS w 5, rulS w 6, rulS w 7, rulS w 8, rulS w 9, rulS w 10, rulS w 11] (lawEnv w L fa cd)) (ForPost lawProg w (callerA.deeper (lawEnv w L fa cd)) E (lawEnv w L fa cd) (forT (lawS w 5)) (.ref It) (forB (lawS w 5)) [] Q) (fun _ _ => False) s₂) (fun _ _ => False) s := by
  refine t_asg B X T F N fun h1 tk1 F1 N1 => ?_
  refine wpAny_execs_cons (t0_spec (g := (fun o' => (L + 1 + 1 + 1 + 1 + 1 + 1 + 1, o7) :: (L + 1 + 1 + 1 + 1 + 1 + 1, o6) :: (L + 1 + 1 + 1 + 1 + 1, o5) :: (L + 1 + 1 + 1 + 1, o4) :: (L + 1 + 1 + 1, o3) :: (L + 1 + 1, o') :: (L + 1, o1) :: (Ru, listOf rvs.toArray nr) :: (Nu, listOf nvs.toArray nn) :: rest)) B X T F1 N1 (UpdF.tail (by show @Ne Nat _ _; omega) (UpdF.tail (by show @Ne Nat _ _; omega) (UpdF.tail (by show @Ne Nat _ _; omega) (UpdF.tail (by show @Ne Nat _ _; omega) (UpdF.tail (by show @Ne Nat _ _; omega) (UpdF.head (List.forall_mem_cons.mpr ⟨(by show @Ne Nat _ _; omega), (List.forall_mem_cons.mpr ⟨(by show @Ne Nat _ _; omega), (List.forall_mem_cons.mpr ⟨(by show @Ne Nat _ _; omega), (far_all hfar (by omega) (by omega))⟩)⟩)⟩))))))) hd2 fun h2 tk2 o2a ts0 hd2a F2 N2 => ?_)
  refine wpAny_execs_cons (t1_spec B X T F2 N2 fun h3 tk3 t3 F3 N3 => ?_)
  refine wpAny_execs_cons (t2_spec B X T F3 N3 fun h4 tk4 Rw u0 u1 u2 nR lRw F4 N4 => ?_)
  have hlRw := allLt_mem lRw
  have hRwN : @LT.lt Nat _ Nu Rw := hlRw _ (.tail _ (.tail _ (.tail _ (.tail _ (.tail _ (.tail _ (.tail _ (.tail _ (.head _)))))))))
  refine wpAny_execs_cons (t3_spec (m0 := _) B X T (fr_pad F4 (Str.ofString "cell") rfl) N4 fun h5 tk5 t5 F5 N5 => ?_)
  have UU : Tb2 oA cA ocA oB cB ocB ((Rw, rowO (r0Of c) u0 (r1Of c) u1 (r2Of c) u2 nR) :: (L + 1 + 1 + 1 + 1 + 1 + 1 + 1, o7) :: (L + 1 + 1 + 1 + 1 + 1 + 1, o6) :: (L + 1 + 1 + 1 + 1 + 1, o5) :: (L + 1 + 1 + 1 + 1, o4) :: (L + 1 + 1 + 1, o3) :: (L + 1 + 1, o2a) :: (L + 1, o1) :: (Ru, listOf rvs.toArray nr) :: (Nu, listOf nvs.toArray nn) :: rest) (fun oA' cA' ocA' oB' cB' ocB' => (Rw, rowO (r0Of c) u0 (r1Of c) u1 (r2Of c) u2 nR) :: (L + 1 + 1 + 1 + 1 + 1 + 1 + 1, o7) :: (L + 1 + 1 + 1 + 1 + 1 + 1, o6) :: (L + 1 + 1 + 1 + 1 + 1, o5) :: (L + 1 + 1 + 1 + 1, o4) :: (L + 1 + 1 + 1, o3) :: (L + 1 + 1, o2a) :: (L + 1, o1) :: (Ru, listOf rvs.toArray nr) :: (Nu, listOf nvs.toArray nn) :: g oA' cA' ocA' oB' cB' ocB') := (.cons ⟨(by show @Ne Nat _ _; omega), (by show @Ne Nat _ _; omega)⟩ (.cons ⟨(by show @Ne Nat _ _; omega), (by show @Ne Nat _ _; omega)⟩ (.cons ⟨(by show @Ne Nat _ _; omega), (by show @Ne Nat _ _; omega)⟩ (.cons ⟨(by show @Ne Nat _ _; omega), (by show @Ne Nat _ _; omega)⟩ (.cons ⟨(by show @Ne Nat _ _; omega), (by show @Ne Nat _ _; omega)⟩ (.cons ⟨(by show @Ne Nat _ _; omega), (by show @Ne Nat _ _; omega)⟩ (.cons ⟨(by show @Ne Nat _ _; omega), (by show @Ne Nat _ _; omega)⟩ (.cons ⟨(by show @Ne Nat _ _; omega), (by show @Ne Nat _ _; omega)⟩ (.cons ⟨(by show @Ne Nat _ _; omega), (by show @Ne Nat _ _; omega)⟩ (.cons ⟨(by show @Ne Nat _ _; omega), (by show @Ne Nat _ _; omega)⟩ U))))))))))
  refine wpAny_execs_cons (t4_spec (g := (fun oA' cA' ocA' oB' cB' ocB' => (Rw, rowO (r0Of c) u0 (r1Of c) u1 (r2Of c) u2 nR) :: (L + 1 + 1 + 1 + 1 + 1 + 1 + 1, o7) :: (L + 1 + 1 + 1 + 1 + 1 + 1, o6) :: (L + 1 + 1 + 1 + 1 + 1, o5) :: (L + 1 + 1 + 1 + 1, o4) :: (L + 1 + 1 + 1, o3) :: (L + 1 + 1, o2a) :: (L + 1, o1) :: (Ru, listOf rvs.toArray nr) :: (Nu, listOf nvs.toArray nn) :: g oA' cA' ocA' oB' cB' ocB')) (g3 := (fun oA' cA' ocA' oB' cB' ocB' o' => (Rw, rowO (r0Of c) u0 (r1Of c) u1 (r2Of c) u2 nR) :: (L + 1 + 1 + 1 + 1 + 1 + 1 + 1, o7) :: (L + 1 + 1 + 1 + 1 + 1 + 1, o6) :: (L + 1 + 1 + 1 + 1 + 1, o5) :: (L + 1 + 1 + 1 + 1, o4) :: (L + 1 + 1 + 1, o') :: (L + 1 + 1, o2a) :: (L + 1, o1) :: (Ru, listOf rvs.toArray nr) :: (Nu, listOf nvs.toArray nn) :: g oA' cA' ocA' oB' cB' ocB')) (o1 := o1) (o2 := o2a) (o3 := o3) (Rw := Rw) (nR := nR) B X T (fr_pad (fr_pad F5 (Str.ofString "many") rfl) (Str.ofString "row") rfl) N5 UU hTA hTB hcA hcB (.tail _ (.tail _ (.tail _ (.tail _ (.tail _ (.tail _ (.tail _ (.head _)))))))) hd1 (.tail _ (.tail _ (.tail _ (.tail _ (.tail _ (.tail _ (.head _))))))) hd2a (fun oA' cA' ocA' oB' cB' ocB' fA fB => (UpdF.tail (by show @Ne Nat _ _; omega) (UpdF.tail (by show @Ne Nat _ _; omega) (UpdF.tail (by show @Ne Nat _ _; omega) (UpdF.tail (by show @Ne Nat _ _; omega) (UpdF.tail (by show @Ne Nat _ _; omega) (UpdF.head (List.forall_mem_cons.mpr ⟨(by show @Ne Nat _ _; omega), (List.forall_mem_cons.mpr ⟨(by show @Ne Nat _ _; omega), (List.forall_mem_cons.mpr ⟨(by show @Ne Nat _ _; omega), (List.forall_mem_cons.mpr ⟨(by show @Ne Nat _ _; omega), (far_all (far_g U hfar (.tail _ (.tail _ (.tail _ (.tail _ (.tail _ (.tail _ (.tail _ (.tail _ (.tail _ (.head _)))))))))) fA fB) (by omega) (by omega))⟩)⟩)⟩)⟩)))))))) hd3 (fun _ _ _ _ _ _ => (.head _)) R.hr0 R.hst R.hs R.hm hr fun h6 tk6 gens6 D nD vsD o3a oA6 cA6 ocA6 oB6 cB6 ocB6 hiD hbar hA6 hB6 sA6 sB6 hcA6 hcB6 fA6 fB6 lD hd3a F6 N6 => ?_)
  replace hiD : IntsAre vsD (runP ring (manyOf c - 1).toNat (startOf c) [startOf c % ring] (stream (r0Of c) (r1Of c) (r2Of c))) := hiD
  rw [R.hps] at hiD
  have hlD := allLt_mem lD
  have hfar6 := far_g (oA' := oA6) (ocA' := ocA6) (oB' := oB6) (ocB' := ocB6) U hfar (.tail _ (.tail _ (.tail _ (.tail _ (.tail _ (.tail _ (.tail _ (.tail _ (.tail _ (.head _)))))))))) fA6 fB6
  have hDRw : @LT.lt Nat _ Rw D := hlD _ (.head _)
  have hlDg : ∀ q ∈ g oA6 cA6 ocA6 oB6 cB6 ocB6, q.1 < D := fun q hq => hlD q (.tail _ (.tail _ (.tail _ (.tail _ (.tail _ (.tail _ (.tail _ (.tail _ (.tail _ (.tail _ (hq)))))))))))
  have hfA : cA6 = cA ∨ ∀ q ∈ rest, q.1 < cA6 := fA6.imp id fun h q hq => h q (.tail _ (.tail _ (.tail _ (.tail _ (.tail _ (.tail _ (.tail _ (.tail _ (.tail _ (.tail _ (hq)))))))))))
  have hfB : cB6 = cB ∨ ∀ q ∈ rest, q.1 < cB6 := fB6.imp id fun h q hq => h q (.tail _ (.tail _ (.tail _ (.tail _ (.tail _ (.tail _ (.tail _ (.tail _ (.tail _ (.tail _ (hq)))))))))))
  clear UU N5 F5 N4 F4 N3 F3 N2 F2 N1 F1
  refine wpAny_execs_cons (t5_spec (o4 := o4) (g4 := (fun o' => (D, listOf vsD.toArray nD) :: (Rw, rowO (r0Of c) u0 (r1Of c) u1 (r2Of c) u2 nR) :: (L + 1 + 1 + 1 + 1 + 1 + 1 + 1, o7) :: (L + 1 + 1 + 1 + 1 + 1 + 1, o6) :: (L + 1 + 1 + 1 + 1 + 1, o5) :: (L + 1 + 1 + 1 + 1, o') :: (L + 1 + 1 + 1, o3a) :: (L + 1 + 1, o2a) :: (L + 1, o1) :: (Ru, listOf rvs.toArray nr) :: (Nu, listOf nvs.toArray nn) :: g oA6 cA6 ocA6 oB6 cB6 ocB6)) (k := k) B X T (fr_pad (fr_pad F6 (Str.ofString "many") rfl) (Str.ofString "row") rfl) N6 (UpdF.tail (by show @Ne Nat _ _; omega) (UpdF.tail (by show @Ne Nat _ _; omega) (UpdF.tail (by show @Ne Nat _ _; omega) (UpdF.tail (by show @Ne Nat _ _; omega) (UpdF.tail (by show @Ne Nat _ _; omega) (UpdF.head (List.forall_mem_cons.mpr ⟨(by show @Ne Nat _ _; omega), (List.forall_mem_cons.mpr ⟨(by show @Ne Nat _ _; omega), (List.forall_mem_cons.mpr ⟨(by show @Ne Nat _ _; omega), (List.forall_mem_cons.mpr ⟨(by show @Ne Nat _ _; omega), (List.forall_mem_cons.mpr ⟨(by show @Ne Nat _ _; omega), (far_all hfar6 (by omega) (by omega))⟩)⟩)⟩)⟩)⟩))))))) hd4 (.tail _ (.head _)) R.row R.hmk R.hk4 fun h7 tk7 Sz nS vsS o4a hiS lSz hd4a F7 N7 => ?_)
  have hlSz := allLt_mem lSz
  have hszl : (siz (r0Of c) (r1Of c) (r2Of c) k).length ≤ 4 := Nat.le_trans siz_len R.hk4
  have hSzD : @LT.lt Nat _ D Sz := hlSz _ (.head _)
  refine wpAny_execs_cons (t6_spec (o1 := o1) (o2 := o2a) (o4 := o4a) (Sz := Sz) (nS := nS) B X T F7 N7 (.tail _ (.tail _ (.tail _ (.tail _ (.tail _ (.tail _ (.tail _ (.tail _ (.tail _ (.head _)))))))))) hd1 (.tail _ (.tail _ (.tail _ (.tail _ (.tail _ (.tail _ (.tail _ (.tail _ (.head _))))))))) hd2a (.tail _ (.tail _ (.tail _ (.tail _ (.tail _ (.tail _ (.head _))))))) hd4a (.head _) hiS hszl hr fun h8 tk8 To nT vsT hiT hTo F8 N8 => ?_)
  replace hiT : IntsAre vsT ((rangeKs 0 ((siz (r0Of c) (r1Of c) (r2Of c) k).length + 1)).map fun j => (startOf c + ((siz (r0Of c) (r1Of c) (r2Of c) k).take j.toNat).sum) % ring) := hiT
  rw [R.hts] at hiT
  refine wpAny_execs_cons (t7_spec (o3 := o3a) (Pl := D) (nP := nD) (nT := nT) B X T F8 N8 (.tail _ (.tail _ (.tail _ (.tail _ (.tail _ (.tail _ (.tail _ (.tail _ (.head _))))))))) hd3a (.tail _ (.tail _ (.head _))) hiD (.head _) hiT R.htl R.hpl R.hperm fun h9 tk9 F9 N9 => ?_)
  have U6 : Tb2 oA6 cA6 ocA6 oB6 cB6 ocB6 (g oA6 cA6 ocA6 oB6 cB6 ocB6) g := U.re hcA6 hcB6
  have hTo37 : To ≠ 37 := fun e => hTo (37, oB6) (.tail _ (.tail _ (.tail _ (.tail _ (.tail _ (.tail _ (.tail _ (.tail _ (.tail _ (.tail _ (.tail _ (.tail _ (U6.mem37))))))))))))) e.symm
  refine wpAny_execs_cons (t8_spec (o1 := o1) (o3 := o3a) (Pl := D) (nP := nD) B X T F9 N9 (Tb1.cons hTo37 (Tb1.cons (by show @Ne Nat _ _; omega) (Tb1.cons (by show @Ne Nat _ _; omega) (Tb1.cons (by show @Ne Nat _ _; omega) (Tb1.cons (by show @Ne Nat _ _; omega) (Tb1.cons (by show @Ne Nat _ _; omega) (Tb1.cons (by show @Ne Nat _ _; omega) (Tb1.cons (by show @Ne Nat _ _; omega) (Tb1.cons (by show @Ne Nat _ _; omega) (Tb1.cons (by show @Ne Nat _ _; omega) (Tb1.cons (by show @Ne Nat _ _; omega) (Tb1.cons (by show @Ne Nat _ _; omega) (Tb1.cons (by show @Ne Nat _ _; omega) (U6.b oA6 ocA6 hcA6)))))))))))))) hB6 (.tail _ (.tail _ (.tail _ (.tail _ (.tail _ (.tail _ (.tail _ (.tail _ (.tail _ (.tail _ (.head _))))))))))) hd1 (.tail _ (.tail _ (.tail _ (.tail _ (.tail _ (.tail _ (.tail _ (.tail _ (.head _))))))))) hd3a (.tail _ (.tail _ (.head _))) hiD R.hpl R.hso hr R.hds fun h10 tk10 tn F10 N10 => ?_)
  refine wpAny_execs_cons (t9_spec (To := To) (nT := nT) B X T (fr_pad (fr_pad F10 (Str.ofString "told") rfl) (Str.ofString "number") rfl) N10 (.head _) hiT R.htl R.hb R.hsum fun h11 tk11 F11 N11 => ?_)
  have N12 : News h₀ L h11 ((Ru, listOf rvs.toArray nr) :: (D, listOf vsD.toArray nD) :: (L + 1 + 1 + 1 + 1 + 1 + 1 + 1, o7) :: (L + 1 + 1 + 1 + 1 + 1 + 1, o6) :: (L + 1 + 1 + 1 + 1 + 1, o5) :: (L + 1 + 1 + 1 + 1, o4a) :: (L + 1 + 1 + 1, o3a) :: (L + 1 + 1, o2a) :: (L + 1, o1) :: (Nu, listOf nvs.toArray nn) :: g oA6 cA6 ocA6 oB6 cB6 ocB6) := (news_sub N11 (List.forall_mem_cons.mpr ⟨(.tail _ (.tail _ (.tail _ (.tail _ (.tail _ (.tail _ (.tail _ (.tail _ (.tail _ (.tail _ (.tail _ (.head _)))))))))))), (List.forall_mem_cons.mpr ⟨(.tail _ (.tail _ (.head _))), (List.forall_mem_cons.mpr ⟨(.tail _ (.tail _ (.tail _ (.tail _ (.head _))))), (List.forall_mem_cons.mpr ⟨(.tail _ (.tail _ (.tail _ (.tail _ (.tail _ (.head _)))))), (List.forall_mem_cons.mpr ⟨(.tail _ (.tail _ (.tail _ (.tail _ (.tail _ (.tail _ (.head _))))))), (List.forall_mem_cons.mpr ⟨(.tail _ (.tail _ (.tail _ (.tail _ (.tail _ (.tail _ (.tail _ (.head _)))))))), (List.forall_mem_cons.mpr ⟨(.tail _ (.tail _ (.tail _ (.tail _ (.tail _ (.tail _ (.tail _ (.tail _ (.head _))))))))), (List.forall_mem_cons.mpr ⟨(.tail _ (.tail _ (.tail _ (.tail _ (.tail _ (.tail _ (.tail _ (.tail _ (.tail _ (.head _)))))))))), (List.forall_mem_cons.mpr ⟨(.tail _ (.tail _ (.tail _ (.tail _ (.tail _ (.tail _ (.tail _ (.tail _ (.tail _ (.tail _ (.head _))))))))))), (List.forall_mem_cons.mpr ⟨(.tail _ (.tail _ (.tail _ (.tail _ (.tail _ (.tail _ (.tail _ (.tail _ (.tail _ (.tail _ (.tail _ (.tail _ (.head _))))))))))))), (fun q hq => (.tail _ (.tail _ (.tail _ (.tail _ (.tail _ (.tail _ (.tail _ (.tail _ (.tail _ (.tail _ (.tail _ (.tail _ (.tail _ (hq)))))))))))))))⟩)⟩)⟩)⟩)⟩)⟩)⟩)⟩)⟩)⟩))
  refine wpAny_execs_cons (t10_spec (o3 := o3a) (Pl := D) B X T (fr_pad F11 (Str.ofString "rulers") rfl) N12 (List.forall_mem_cons.mpr ⟨(by show @Ne Nat _ _; omega), (List.forall_mem_cons.mpr ⟨(by show @Ne Nat _ _; omega), (List.forall_mem_cons.mpr ⟨(by show @Ne Nat _ _; omega), (List.forall_mem_cons.mpr ⟨(by show @Ne Nat _ _; omega), (List.forall_mem_cons.mpr ⟨(by show @Ne Nat _ _; omega), (List.forall_mem_cons.mpr ⟨(by show @Ne Nat _ _; omega), (List.forall_mem_cons.mpr ⟨(by show @Ne Nat _ _; omega), (List.forall_mem_cons.mpr ⟨(by show @Ne Nat _ _; omega), (List.forall_mem_cons.mpr ⟨(by show @Ne Nat _ _; omega), (far_all hfar6 (by omega) (by omega))⟩)⟩)⟩)⟩)⟩)⟩)⟩)⟩)⟩) hrl (.tail _ (.tail _ (.tail _ (.tail _ (.tail _ (.head _)))))) hd3a fun h12 tk12 nr12 F12 N13 => ?_)
  have N14 : News h₀ L h12 ((Nu, listOf nvs.toArray nn) :: (Ru, listOf (rvs ++ [Value.ref D]).toArray nr12) :: (D, listOf vsD.toArray nD) :: (L + 1 + 1 + 1 + 1 + 1 + 1 + 1, o7) :: (L + 1 + 1 + 1 + 1 + 1 + 1, o6) :: (L + 1 + 1 + 1 + 1 + 1, o5) :: (L + 1 + 1 + 1 + 1, o4a) :: (L + 1 + 1 + 1, o3a) :: (L + 1 + 1, o2a) :: (L + 1, o1) :: g oA6 cA6 ocA6 oB6 cB6 ocB6) := (news_sub N13 (List.forall_mem_cons.mpr ⟨(.tail _ (.tail _ (.tail _ (.tail _ (.tail _ (.tail _ (.tail _ (.tail _ (.tail _ (.head _)))))))))), (List.forall_mem_cons.mpr ⟨(.head _), (List.forall_mem_cons.mpr ⟨(.tail _ (.head _)), (List.forall_mem_cons.mpr ⟨(.tail _ (.tail _ (.head _))), (List.forall_mem_cons.mpr ⟨(.tail _ (.tail _ (.tail _ (.head _)))), (List.forall_mem_cons.mpr ⟨(.tail _ (.tail _ (.tail _ (.tail _ (.head _))))), (List.forall_mem_cons.mpr ⟨(.tail _ (.tail _ (.tail _ (.tail _ (.tail _ (.head _)))))), (List.forall_mem_cons.mpr ⟨(.tail _ (.tail _ (.tail _ (.tail _ (.tail _ (.tail _ (.head _))))))), (List.forall_mem_cons.mpr ⟨(.tail _ (.tail _ (.tail _ (.tail _ (.tail _ (.tail _ (.tail _ (.head _)))))))), (List.forall_mem_cons.mpr ⟨(.tail _ (.tail _ (.tail _ (.tail _ (.tail _ (.tail _ (.tail _ (.tail _ (.head _))))))))), (fun q hq => (.tail _ (.tail _ (.tail _ (.tail _ (.tail _ (.tail _ (.tail _ (.tail _ (.tail _ (.tail _ (hq))))))))))))⟩)⟩)⟩)⟩)⟩)⟩)⟩)⟩)⟩)⟩))
  refine wpAny_execs_cons (t11_spec B X T (fr_pad (fr_pad F12 (Str.ofString "number") rfl) (Str.ofString "numbers") rfl) N14 (List.forall_mem_cons.mpr ⟨(by show @Ne Nat _ _; omega), (List.forall_mem_cons.mpr ⟨(by show @Ne Nat _ _; omega), (List.forall_mem_cons.mpr ⟨(by show @Ne Nat _ _; omega), (List.forall_mem_cons.mpr ⟨(by show @Ne Nat _ _; omega), (List.forall_mem_cons.mpr ⟨(by show @Ne Nat _ _; omega), (List.forall_mem_cons.mpr ⟨(by show @Ne Nat _ _; omega), (List.forall_mem_cons.mpr ⟨(by show @Ne Nat _ _; omega), (List.forall_mem_cons.mpr ⟨(by show @Ne Nat _ _; omega), (List.forall_mem_cons.mpr ⟨(by show @Ne Nat _ _; omega), (far_all hfar6 (by omega) (by omega))⟩)⟩)⟩)⟩)⟩)⟩)⟩)⟩)⟩) hnl fun h13 tk13 nn13 F13 N15 => ?_)
  refine wpAny_execs_nil ?_
  have N16 : News h₀ L h13 ((L + 1 + 1 + 1 + 1 + 1 + 1 + 1, o7) :: (L + 1 + 1 + 1 + 1 + 1 + 1, o6) :: (L + 1 + 1 + 1 + 1 + 1, o5) :: (L + 1 + 1 + 1 + 1, o4a) :: (L + 1 + 1 + 1, o3a) :: (L + 1 + 1, o2a) :: (L + 1, o1) :: (Ru, listOf (rvs ++ [Value.ref D]).toArray nr12) :: (Nu, listOf (nvs ++ [Value.int (numOf ring ps) tn]).toArray nn13) :: (D, listOf vsD.toArray nD) :: g oA6 cA6 ocA6 oB6 cB6 ocB6) := (news_sub N15 (List.forall_mem_cons.mpr ⟨(.tail _ (.tail _ (.tail _ (.head _)))), (List.forall_mem_cons.mpr ⟨(.tail _ (.tail _ (.tail _ (.tail _ (.head _))))), (List.forall_mem_cons.mpr ⟨(.tail _ (.tail _ (.tail _ (.tail _ (.tail _ (.head _)))))), (List.forall_mem_cons.mpr ⟨(.tail _ (.tail _ (.tail _ (.tail _ (.tail _ (.tail _ (.head _))))))), (List.forall_mem_cons.mpr ⟨(.tail _ (.tail _ (.tail _ (.tail _ (.tail _ (.tail _ (.tail _ (.head _)))))))), (List.forall_mem_cons.mpr ⟨(.tail _ (.tail _ (.tail _ (.tail _ (.tail _ (.tail _ (.tail _ (.tail _ (.head _))))))))), (List.forall_mem_cons.mpr ⟨(.tail _ (.tail _ (.tail _ (.tail _ (.tail _ (.tail _ (.tail _ (.tail _ (.tail _ (.head _)))))))))), (List.forall_mem_cons.mpr ⟨(.tail _ (.head _)), (List.forall_mem_cons.mpr ⟨(.head _), (List.forall_mem_cons.mpr ⟨(.tail _ (.tail _ (.head _))), (fun q hq => (.tail _ (.tail _ (.tail _ (.tail _ (.tail _ (.tail _ (.tail _ (.tail _ (.tail _ (.tail _ (hq))))))))))))⟩)⟩)⟩)⟩)⟩)⟩)⟩)⟩)⟩)⟩))
  exact hgo h13 _ gens6 nr12 nn13 nD D vsD tn o2a o3a o4a _ _ _ oA6 cA6 ocA6 oB6 cB6 ocB6 _ hiD hbar hfA hfB hA6 hB6 hcA6 hcB6 hd2a hd3a hd4a (by omega) hfar6 hlDg (fr_pad (fr_pad F13 (Str.ofString "rulers") rfl) (Str.ofString "numbers") rfl) N16
end Mine
end PartRi

section PartRj
open PySem PySem.Spec PySem.Calls PySem.W PyProof.Rows
set_option Elab.async false
set_option maxRecDepth 100000
set_option maxHeartbeats 8000000
namespace Mine
/-- the walk's lines are looked up afresh from here on -/
theorem syncRj {M : Model} {A : Around} {E : Value → Shared → Prop} {s : Shared} {env : Env} {Q : Flow → Shared → Prop} (h : Q .next s) : wpAny M A (execs [] env) Q E s := by
  w_top off
  first | (walk1; exact h) | exact wpAny_execs_nil h

theorem g_ne {oA ocA oB ocB oA' ocA' oB' ocB' : Obj} {cA cB cA' cB' I : Addr} {news : List (Addr × Obj)} {g : Obj → Addr → Obj → Obj → Addr → Obj → List (Addr × Obj)} (U : Tb2 oA cA ocA oB cB ocB news g) (h : ∀ q ∈ news, q.1 ≠ I)
    (fA : cA' = cA ∨ @LT.lt Nat _ I cA') (fB : cB' = cB ∨ @LT.lt Nat _ I cB') : ∀ q ∈ g oA' cA' ocA' oB' cB' ocB', q.1 ≠ I := by
  intro q hq
  rcases U.adr q hq with ⟨r, hr, e⟩ | e | e
  · rw [← e]; exact h r hr
  · rw [e]
    rcases fA with rfl | fA
    · exact h _ (tb2_memA U).1
    · exact Nat.ne_of_gt fA
  · rw [e]
    rcases fB with rfl | fB
    · exact h _ (tb2_memA U).2
    · exact Nat.ne_of_gt fB

theorem s5_let {w : World} : (∀ I v, letOwnedTupleGo (forT (lawS w 5)) (.ref I) v = pure ()) ∧ ∀ env x, foldedSetIterable (forI (lawS w 5)) env x = pure x :=
  ⟨fun _ _ => rfl, fun _ _ => rfl⟩
theorem s5_iter {w : World} {C : Addr} {c0 c1 c2 : Int} {t0 t1 t2 : Tok} {n : Nat} {news : List (Addr × Obj)} {m0 : Str → Option Value} {cd : Value} {p : Program} {loose : List Str} {mean : ExcName → Option Value} {mg mb : Str → Option Value} {base h₀ : Heap} {L fa : Addr} {s : Shared} {Q : Value → Shared → Prop} {E : Value → Shared → Prop}
    (B : Below callerA base [] h₀) (X : (hd.heap_39 w.params).In h₀) (T : Top p loose mean mg mb h₀) (F : Fr h₀ L s.heap (fun y => if y = Str.ofString "cells" then some (.ref C) else m0 y)) (N : News h₀ L s.heap news) (hC : (C, c3 c0 t0 c1 t1 c2 t2 n) ∈ news)
    (hret : ∀ (h' : Heap) (tk' : Nat) (Sl : Addr) (n' : Nat), (∀ q ∈ news, q.1 < Sl) → Fr h₀ L h' (fun y => if y = Str.ofString "cells" then some (.ref C) else m0 y) → News h₀ L h' ((Sl, listOf [Value.int c1 t1, Value.int c2 t2].toArray n') :: news) → Q (.ref Sl) { s with heap := h', toks := tk' }) :
    wpAny (model lawProg w) (callerA.deeper (lawEnv w L fa cd)) (eval (forI (lawS w 5)) (lawEnv w L fa cd)) Q E s := by
  dsimp only [in8, rulS, lawS, lawB, lawQ, lawSc, lawEnv, forB, forT, forI, pkBody, pkQual, pkScope, nthS]
  have hi : IntsAre [Value.int c0 t0, Value.int c1 t1, Value.int c2 t2] [c0, c1, c2] := .cons _ _ (.cons _ _ (.cons _ _ .nil))
  k_steps
  exact hret _ _ _ _ (by assumption) (by assumption) (by assumption)

theorem s5_spec {w : World} {C : Addr} {c0 c1 c2 ring : Int} {t0 t1 t2 tr : Tok} {n : Nat} {k0 k1 : Nat} {ps0 ts0 ps1 ts1 : List Int} {o1 o2 o3 o4 o5 o6 o7 : Obj} {v2 v3 v4 : Option Value} {Ru Nu : Addr} {nr nn : Nat} {oA ocA oB ocB : Obj} {cA cB : Addr} {g : Obj → Addr → Obj → Obj → Addr → Obj → List (Addr × Obj)} {rest : List (Addr × Obj)} {m0 : Str → Option Value} {cd : Value} {p : Program} {loose : List Str} {mean : ExcName → Option Value} {mg mb : Str → Option Value} {base h₀ : Heap} {L fa : Addr} {s : Shared} {Q : Flow → Shared → Prop} {E : Value → Shared → Prop}
    (B : Below callerA base [] h₀) (X : (hd.heap_39 w.params).In h₀) (T : Top p loose mean mg mb h₀)
    (F : Fr h₀ L s.heap (fun y => if y = Str.ofString "numbers" then some (.ref Nu) else if y = Str.ofString "rulers" then some (.ref Ru) else if y = Str.ofString "cells" then some (.ref C) else m0 y)) (N : News h₀ L s.heap ((L + 1 + 1 + 1 + 1 + 1 + 1 + 1, o7) :: (L + 1 + 1 + 1 + 1 + 1 + 1, o6) :: (L + 1 + 1 + 1 + 1 + 1, o5) :: (L + 1 + 1 + 1 + 1, o4) :: (L + 1 + 1 + 1, o3) :: (L + 1 + 1, o2) :: (L + 1, o1) :: (Ru, listOf ([] : List Value).toArray nr) :: (Nu, listOf ([] : List Value).toArray nn) :: (C, c3 c0 t0 c1 t1 c2 t2 n) :: rest))
    (U : Tb2 oA cA ocA oB cB ocB rest g) (hTA : TabP 30 32 4 q30 oA cA ocA) (hTB : TabP 37 47 4 q37 oB cB ocB) (hcA : cA ≠ 37) (hcB : cB ≠ 30) (hL : (37 : Nat) < L) (hRu : @LT.lt Nat _ (L + 7) Ru) (hNu : @LT.lt Nat _ Ru Nu) (hfar : ∀ q ∈ rest, Far L Nu q.1)
    (hd1 : o1.data = .cell (some (.int ring tr))) (hd2 : o2.data = .cell v2) (hd3 : o3.data = .cell v3) (hd4 : o4.data = .cell v4)
    (hr : 4 ≤ ring ∧ ring ≤ 12) (R0 : RF ring (startOf c1) (manyOf c1) (r0Of c1) (r1Of c1) (r2Of c1) k0 ps0 ts0) (R1 : RF ring (startOf c2) (manyOf c2) (r0Of c2) (r1Of c2) (r2Of c2) k1 ps1 ts1)
    (hret : ∀ (h' : Heap) (tk' : Nat) (gens' : Array GenState) (nr' nn' n0 n1 : Nat) (D0 D1 : Addr) (vs0 vs1 : List Value) (u0 u1 : Tok) (o2' o3' o4' : Obj) (oA' : Obj) (cA' : Addr) (ocA' : Obj) (oB' : Obj) (cB' : Addr) (ocB' : Obj) (m' : Str → Option Value), IntsAre vs0 ps0 → IntsAre vs1 ps1 → (AllBare s.gens → AllBare gens') → TabF 30 32 4 q30 oA' cA' ocA' → TabF 37 47 4 q37 oB' cB' ocB' → cA' ≠ 37 → cB' ≠ 30 →
      @LT.lt Nat _ Nu D0 → @LT.lt Nat _ D0 D1 → (∀ q ∈ g oA' cA' ocA' oB' cB' ocB', Far L Nu q.1) → Fr h₀ L h' (fun y => if y = Str.ofString "numbers" then some (.ref Nu) else if y = Str.ofString "rulers" then some (.ref Ru) else m' y) → News h₀ L h' ((L + 1 + 1 + 1 + 1 + 1 + 1 + 1, o7) :: (L + 1 + 1 + 1 + 1 + 1 + 1, o6) :: (L + 1 + 1 + 1 + 1 + 1, o5) :: (L + 1 + 1 + 1 + 1, o4') :: (L + 1 + 1 + 1, o3') :: (L + 1 + 1, o2') :: (L + 1, o1) :: (Ru, listOf [Value.ref D0, Value.ref D1].toArray nr') :: (Nu, listOf [Value.int (numOf ring ps0) u0, Value.int (numOf ring ps1) u1].toArray nn') :: (D1, listOf vs1.toArray n1) :: (D0, listOf vs0.toArray n0) :: g oA' cA' ocA' oB' cB' ocB') → Q .next { s with heap := h', toks := tk', gens := gens' }) :
    wpAny (model lawProg w) (callerA.deeper (lawEnv w L fa cd)) (exec (lawS w 5) (lawEnv w L fa cd)) Q E s := by
  obtain ⟨hlet, hfol⟩ := s5_let (w := w)
  show wpAny _ _ (exec (.For (forT (lawS w 5)) (forI (lawS w 5)) (forB (lawS w 5)) [] _) (lawEnv w L fa cd)) Q E s
  refine for_start ?_ (hfol _)
  refine s5_iter (C := C) B X T (fr_pad F (Str.ofString "cells") rfl) N (.tail _ (.tail _ (.tail _ (.tail _ (.tail _ (.tail _ (.tail _ (.tail _ (.tail _ (.head _)))))))))) fun h1 tk1 Sl n1 hSl F1 N1 => ?_
  refine li_iter F1 N1 (.head _) fun It oI0 h2 hI0 hIt hLI F2 N2 => ?_
  have hIS : @LT.lt Nat _ Sl It := hIt _ (.head _)
  have hIN : @LT.lt Nat _ Nu It := hIt _ (.tail _ (.tail _ (.tail _ (.tail _ (.tail _ (.tail _ (.tail _ (.tail _ (.tail _ (.head _))))))))))
  have hSN : @LT.lt Nat _ Nu Sl := hSl _ (.tail _ (.tail _ (.tail _ (.tail _ (.tail _ (.tail _ (.tail _ (.tail _ (.head _)))))))))
  have hrI : ∀ q ∈ rest, q.1 ≠ It := fun q hq => Nat.ne_of_lt (hIt q (.tail _ (.tail _ (.tail _ (.tail _ (.tail _ (.tail _ (.tail _ (.tail _ (.tail _ (.tail _ (.tail _ (hq)))))))))))))
  refine for_turn (hlet It) ?_
  refine li_next (vs := [Value.int c1 t1, Value.int c2 t2]) (x := Value.int c1 t1) F2 N2 hI0 (fun q hq => Nat.ne_of_lt (hIt q hq)) (.head _) rfl fun h3 oI1 hI1 F3 N3 => ?_
  dsimp only
  refine ruler_turn (c := c1) (k := k0) (ps := ps0) (ts := ts0) (rest := (It, oI1) :: (Sl, listOf [Value.int c1 t1, Value.int c2 t2].toArray n1) :: rest) (g := (fun oA' cA' ocA' oB' cB' ocB' => (It, oI1) :: (Sl, listOf [Value.int c1 t1, Value.int c2 t2].toArray n1) :: g oA' cA' ocA' oB' cB' ocB')) (rvs := []) (nvs := []) (Ru := Ru) (Nu := Nu) B X T (fr_pad (fr_pad F3 (Str.ofString "rulers") rfl) (Str.ofString "numbers") rfl) (news_sub N3 (List.forall_mem_cons.mpr ⟨(.tail _ (.tail _ (.head _))), (List.forall_mem_cons.mpr ⟨(.tail _ (.tail _ (.tail _ (.head _)))), (List.forall_mem_cons.mpr ⟨(.tail _ (.tail _ (.tail _ (.tail _ (.head _))))), (List.forall_mem_cons.mpr ⟨(.tail _ (.tail _ (.tail _ (.tail _ (.tail _ (.head _)))))), (List.forall_mem_cons.mpr ⟨(.tail _ (.tail _ (.tail _ (.tail _ (.tail _ (.tail _ (.head _))))))), (List.forall_mem_cons.mpr ⟨(.tail _ (.tail _ (.tail _ (.tail _ (.tail _ (.tail _ (.tail _ (.head _)))))))), (List.forall_mem_cons.mpr ⟨(.tail _ (.tail _ (.tail _ (.tail _ (.tail _ (.tail _ (.tail _ (.tail _ (.head _))))))))), (List.forall_mem_cons.mpr ⟨(.tail _ (.tail _ (.tail _ (.tail _ (.tail _ (.tail _ (.tail _ (.tail _ (.tail _ (.head _)))))))))), (List.forall_mem_cons.mpr ⟨(.tail _ (.tail _ (.tail _ (.tail _ (.tail _ (.tail _ (.tail _ (.tail _ (.tail _ (.tail _ (.head _))))))))))), (List.forall_mem_cons.mpr ⟨(.head _), (List.forall_mem_cons.mpr ⟨(.tail _ (.head _)), (fun q hq => (.tail _ (.tail _ (.tail _ (.tail _ (.tail _ (.tail _ (.tail _ (.tail _ (.tail _ (.tail _ (.tail _ (.tail _ (hq))))))))))))))⟩)⟩)⟩)⟩)⟩)⟩)⟩)⟩)⟩)⟩)⟩)) (.cons ⟨(by show @Ne Nat _ _; omega), (by show @Ne Nat _ _; omega)⟩ (.cons ⟨(by show @Ne Nat _ _; omega), (by show @Ne Nat _ _; omega)⟩ U)) hTA hTB hcA hcB hL hRu hNu (List.forall_mem_cons.mpr ⟨.inr hIN, List.forall_mem_cons.mpr ⟨.inr hSN, hfar⟩⟩) hd1 hd2 hd3 hd4 (by decide) (by decide) hr R0 ?_
  intro h4 tk4 gens4 nr4 nn4 nD0 D0 vs0 u0 o2a o3a o4a v2a v3a v4a oA4 cA4 ocA4 oB4 cB4 ocB4 m4 hi0 hb4 fA4 fB4 hA4 hB4 hcA4 hcB4 hd2a hd3a hd4a hND0 hfar4 hlt4 F4 N4
  have hID0 : @LT.lt Nat _ It D0 := hlt4 _ (.head _)
  have hgI : ∀ q ∈ g oA4 cA4 ocA4 oB4 cB4 ocB4, q.1 ≠ It := g_ne U hrI (fA4.imp id fun h => h _ (.head _)) (fB4.imp id fun h => h _ (.head _))
  refine for_turn (hlet It) ?_
  refine li_next (i := 1) (vs := [Value.int c1 t1, Value.int c2 t2]) (n := n1) (Lk := Sl) (x := Value.int c2 t2) (news := (L + 1 + 1 + 1 + 1 + 1 + 1 + 1, o7) :: (L + 1 + 1 + 1 + 1 + 1 + 1, o6) :: (L + 1 + 1 + 1 + 1 + 1, o5) :: (L + 1 + 1 + 1 + 1, o4a) :: (L + 1 + 1 + 1, o3a) :: (L + 1 + 1, o2a) :: (L + 1, o1) :: (Ru, listOf [Value.ref D0].toArray nr4) :: (Nu, listOf [Value.int (numOf ring ps0) u0].toArray nn4) :: (D0, listOf vs0.toArray nD0) :: (Sl, listOf [Value.int c1 t1, Value.int c2 t2].toArray n1) :: g oA4 cA4 ocA4 oB4 cB4 ocB4) F4 (news_sub N4 (List.forall_mem_cons.mpr ⟨(.tail _ (.tail _ (.tail _ (.tail _ (.tail _ (.tail _ (.tail _ (.tail _ (.tail _ (.tail _ (.head _))))))))))), (List.forall_mem_cons.mpr ⟨(.head _), (List.forall_mem_cons.mpr ⟨(.tail _ (.head _)), (List.forall_mem_cons.mpr ⟨(.tail _ (.tail _ (.head _))), (List.forall_mem_cons.mpr ⟨(.tail _ (.tail _ (.tail _ (.head _)))), (List.forall_mem_cons.mpr ⟨(.tail _ (.tail _ (.tail _ (.tail _ (.head _))))), (List.forall_mem_cons.mpr ⟨(.tail _ (.tail _ (.tail _ (.tail _ (.tail _ (.head _)))))), (List.forall_mem_cons.mpr ⟨(.tail _ (.tail _ (.tail _ (.tail _ (.tail _ (.tail _ (.head _))))))), (List.forall_mem_cons.mpr ⟨(.tail _ (.tail _ (.tail _ (.tail _ (.tail _ (.tail _ (.tail _ (.head _)))))))), (List.forall_mem_cons.mpr ⟨(.tail _ (.tail _ (.tail _ (.tail _ (.tail _ (.tail _ (.tail _ (.tail _ (.head _))))))))), (List.forall_mem_cons.mpr ⟨(.tail _ (.tail _ (.tail _ (.tail _ (.tail _ (.tail _ (.tail _ (.tail _ (.tail _ (.head _)))))))))), (List.forall_mem_cons.mpr ⟨(.tail _ (.tail _ (.tail _ (.tail _ (.tail _ (.tail _ (.tail _ (.tail _ (.tail _ (.tail _ (.tail _ (.head _)))))))))))), (fun q hq => (.tail _ (.tail _ (.tail _ (.tail _ (.tail _ (.tail _ (.tail _ (.tail _ (.tail _ (.tail _ (.tail _ (.tail _ (hq))))))))))))))⟩)⟩)⟩)⟩)⟩)⟩)⟩)⟩)⟩)⟩)⟩)⟩)) hI1 (List.forall_mem_cons.mpr ⟨(by show @Ne Nat _ _; omega), (List.forall_mem_cons.mpr ⟨(by show @Ne Nat _ _; omega), (List.forall_mem_cons.mpr ⟨(by show @Ne Nat _ _; omega), (List.forall_mem_cons.mpr ⟨(by show @Ne Nat _ _; omega), (List.forall_mem_cons.mpr ⟨(by show @Ne Nat _ _; omega), (List.forall_mem_cons.mpr ⟨(by show @Ne Nat _ _; omega), (List.forall_mem_cons.mpr ⟨(by show @Ne Nat _ _; omega), (List.forall_mem_cons.mpr ⟨(by show @Ne Nat _ _; omega), (List.forall_mem_cons.mpr ⟨(by show @Ne Nat _ _; omega), (List.forall_mem_cons.mpr ⟨(by show @Ne Nat _ _; omega), (List.forall_mem_cons.mpr ⟨(by show @Ne Nat _ _; omega), hgI⟩)⟩)⟩)⟩)⟩)⟩)⟩)⟩)⟩)⟩)⟩) (.tail _ (.tail _ (.tail _ (.tail _ (.tail _ (.tail _ (.tail _ (.tail _ (.tail _ (.tail _ (.head _))))))))))) rfl fun h5 oI2 hI2 F5 N5 => ?_
  dsimp only
  have U4 : Tb2 oA4 cA4 ocA4 oB4 cB4 ocB4 (g oA4 cA4 ocA4 oB4 cB4 ocB4) g := U.re hcA4 hcB4
  refine ruler_turn (c := c2) (k := k1) (ps := ps1) (ts := ts1) (rest := (D0, listOf vs0.toArray nD0) :: (It, oI2) :: (Sl, listOf [Value.int c1 t1, Value.int c2 t2].toArray n1) :: g oA4 cA4 ocA4 oB4 cB4 ocB4) (g := (fun oA' cA' ocA' oB' cB' ocB' => (D0, listOf vs0.toArray nD0) :: (It, oI2) :: (Sl, listOf [Value.int c1 t1, Value.int c2 t2].toArray n1) :: g oA' cA' ocA' oB' cB' ocB')) (rvs := [Value.ref D0]) (nvs := [Value.int (numOf ring ps0) u0]) (Ru := Ru) (Nu := Nu) B X T (fr_pad (fr_pad F5 (Str.ofString "rulers") rfl) (Str.ofString "numbers") rfl) (news_sub N5 (List.forall_mem_cons.mpr ⟨(.tail _ (.head _)), (List.forall_mem_cons.mpr ⟨(.tail _ (.tail _ (.head _))), (List.forall_mem_cons.mpr ⟨(.tail _ (.tail _ (.tail _ (.head _)))), (List.forall_mem_cons.mpr ⟨(.tail _ (.tail _ (.tail _ (.tail _ (.head _))))), (List.forall_mem_cons.mpr ⟨(.tail _ (.tail _ (.tail _ (.tail _ (.tail _ (.head _)))))), (List.forall_mem_cons.mpr ⟨(.tail _ (.tail _ (.tail _ (.tail _ (.tail _ (.tail _ (.head _))))))), (List.forall_mem_cons.mpr ⟨(.tail _ (.tail _ (.tail _ (.tail _ (.tail _ (.tail _ (.tail _ (.head _)))))))), (List.forall_mem_cons.mpr ⟨(.tail _ (.tail _ (.tail _ (.tail _ (.tail _ (.tail _ (.tail _ (.tail _ (.head _))))))))), (List.forall_mem_cons.mpr ⟨(.tail _ (.tail _ (.tail _ (.tail _ (.tail _ (.tail _ (.tail _ (.tail _ (.tail _ (.head _)))))))))), (List.forall_mem_cons.mpr ⟨(.tail _ (.tail _ (.tail _ (.tail _ (.tail _ (.tail _ (.tail _ (.tail _ (.tail _ (.tail _ (.head _))))))))))), (List.forall_mem_cons.mpr ⟨(.head _), (List.forall_mem_cons.mpr ⟨(.tail _ (.tail _ (.tail _ (.tail _ (.tail _ (.tail _ (.tail _ (.tail _ (.tail _ (.tail _ (.tail _ (.head _)))))))))))), (fun q hq => (.tail _ (.tail _ (.tail _ (.tail _ (.tail _ (.tail _ (.tail _ (.tail _ (.tail _ (.tail _ (.tail _ (.tail _ (hq))))))))))))))⟩)⟩)⟩)⟩)⟩)⟩)⟩)⟩)⟩)⟩)⟩)⟩)) (.cons ⟨(by show @Ne Nat _ _; omega), (by show @Ne Nat _ _; omega)⟩ (.cons ⟨(by show @Ne Nat _ _; omega), (by show @Ne Nat _ _; omega)⟩ (.cons ⟨(by show @Ne Nat _ _; omega), (by show @Ne Nat _ _; omega)⟩ U4))) (.inr hA4) (.inr hB4) hcA4 hcB4 hL hRu hNu (List.forall_mem_cons.mpr ⟨.inr hND0, List.forall_mem_cons.mpr ⟨.inr hIN, List.forall_mem_cons.mpr ⟨.inr hSN, fun q hq => hfar4 q (.tail _ (.tail _ hq))⟩⟩⟩) hd1 hd2a hd3a hd4a (by show (1 : Nat) ≤ 5; decide) (by show (1 : Nat) ≤ 5; decide) hr R1 ?_
  intro h6 tk6 gens6 nr6 nn6 nD1 D1 vs1 u1 o2b o3b o4b v2b v3b v4b oA6 cA6 ocA6 oB6 cB6 ocB6 m6 hi1 hb6 fA6 fB6 hA6 hB6 hcA6 hcB6 hd2b hd3b hd4b hND1 hfar6 hlt6 F6 N6
  have hD01 : @LT.lt Nat _ D0 D1 := hlt6 _ (.head _)
  have hgI6 : ∀ q ∈ g oA6 cA6 ocA6 oB6 cB6 ocB6, q.1 ≠ It := g_ne U4 hgI (fA6.imp id fun h => h _ (.tail _ (.head _))) (fB6.imp id fun h => h _ (.tail _ (.head _)))
  refine for_turn (hlet It) ?_
  refine li_end (i := 2) (vs := [Value.int c1 t1, Value.int c2 t2]) (n := n1) (Lk := Sl) (oI := oI2) (news := (L + 1 + 1 + 1 + 1 + 1 + 1 + 1, o7) :: (L + 1 + 1 + 1 + 1 + 1 + 1, o6) :: (L + 1 + 1 + 1 + 1 + 1, o5) :: (L + 1 + 1 + 1 + 1, o4b) :: (L + 1 + 1 + 1, o3b) :: (L + 1 + 1, o2b) :: (L + 1, o1) :: (Ru, listOf [Value.ref D0, Value.ref D1].toArray nr6) :: (Nu, listOf [Value.int (numOf ring ps0) u0, Value.int (numOf ring ps1) u1].toArray nn6) :: (D1, listOf vs1.toArray nD1) :: (D0, listOf vs0.toArray nD0) :: (Sl, listOf [Value.int c1 t1, Value.int c2 t2].toArray n1) :: g oA6 cA6 ocA6 oB6 cB6 ocB6) rfl F6 (news_sub N6 (List.forall_mem_cons.mpr ⟨(.tail _ (.tail _ (.tail _ (.tail _ (.tail _ (.tail _ (.tail _ (.tail _ (.tail _ (.tail _ (.tail _ (.head _)))))))))))), (List.forall_mem_cons.mpr ⟨(.head _), (List.forall_mem_cons.mpr ⟨(.tail _ (.head _)), (List.forall_mem_cons.mpr ⟨(.tail _ (.tail _ (.head _))), (List.forall_mem_cons.mpr ⟨(.tail _ (.tail _ (.tail _ (.head _)))), (List.forall_mem_cons.mpr ⟨(.tail _ (.tail _ (.tail _ (.tail _ (.head _))))), (List.forall_mem_cons.mpr ⟨(.tail _ (.tail _ (.tail _ (.tail _ (.tail _ (.head _)))))), (List.forall_mem_cons.mpr ⟨(.tail _ (.tail _ (.tail _ (.tail _ (.tail _ (.tail _ (.head _))))))), (List.forall_mem_cons.mpr ⟨(.tail _ (.tail _ (.tail _ (.tail _ (.tail _ (.tail _ (.tail _ (.head _)))))))), (List.forall_mem_cons.mpr ⟨(.tail _ (.tail _ (.tail _ (.tail _ (.tail _ (.tail _ (.tail _ (.tail _ (.head _))))))))), (List.forall_mem_cons.mpr ⟨(.tail _ (.tail _ (.tail _ (.tail _ (.tail _ (.tail _ (.tail _ (.tail _ (.tail _ (.head _)))))))))), (List.forall_mem_cons.mpr ⟨(.tail _ (.tail _ (.tail _ (.tail _ (.tail _ (.tail _ (.tail _ (.tail _ (.tail _ (.tail _ (.head _))))))))))), (List.forall_mem_cons.mpr ⟨(.tail _ (.tail _ (.tail _ (.tail _ (.tail _ (.tail _ (.tail _ (.tail _ (.tail _ (.tail _ (.tail _ (.tail _ (.head _))))))))))))), (fun q hq => (.tail _ (.tail _ (.tail _ (.tail _ (.tail _ (.tail _ (.tail _ (.tail _ (.tail _ (.tail _ (.tail _ (.tail _ (.tail _ (hq)))))))))))))))⟩)⟩)⟩)⟩)⟩)⟩)⟩)⟩)⟩)⟩)⟩)⟩)⟩)) hI2 (List.forall_mem_cons.mpr ⟨(by show @Ne Nat _ _; omega), (List.forall_mem_cons.mpr ⟨(by show @Ne Nat _ _; omega), (List.forall_mem_cons.mpr ⟨(by show @Ne Nat _ _; omega), (List.forall_mem_cons.mpr ⟨(by show @Ne Nat _ _; omega), (List.forall_mem_cons.mpr ⟨(by show @Ne Nat _ _; omega), (List.forall_mem_cons.mpr ⟨(by show @Ne Nat _ _; omega), (List.forall_mem_cons.mpr ⟨(by show @Ne Nat _ _; omega), (List.forall_mem_cons.mpr ⟨(by show @Ne Nat _ _; omega), (List.forall_mem_cons.mpr ⟨(by show @Ne Nat _ _; omega), (List.forall_mem_cons.mpr ⟨(by show @Ne Nat _ _; omega), (List.forall_mem_cons.mpr ⟨(by show @Ne Nat _ _; omega), (List.forall_mem_cons.mpr ⟨(by show @Ne Nat _ _; omega), hgI6⟩)⟩)⟩)⟩)⟩)⟩)⟩)⟩)⟩)⟩)⟩)⟩) (.tail _ (.tail _ (.tail _ (.tail _ (.tail _ (.tail _ (.tail _ (.tail _ (.tail _ (.tail _ (.tail _ (.head _)))))))))))) rfl fun h7 F7 N7 => ?_
  refine wpAny_execs_nil ?_
  exact hret h7 _ gens6 nr6 nn6 nD0 nD1 D0 D1 vs0 vs1 u0 u1 o2b o3b o4b oA6 cA6 ocA6 oB6 cB6 ocB6 m6 hi0 hi1 (fun hb => hb6 (hb4 hb)) hA6 hB6 hcA6 hcB6 hND0 hD01 (fun q hq => hfar6 q (.tail _ (.tail _ (.tail _ hq)))) F7 (news_sub N7 (List.forall_mem_cons.mpr ⟨(.head _), (List.forall_mem_cons.mpr ⟨(.tail _ (.head _)), (List.forall_mem_cons.mpr ⟨(.tail _ (.tail _ (.head _))), (List.forall_mem_cons.mpr ⟨(.tail _ (.tail _ (.tail _ (.head _)))), (List.forall_mem_cons.mpr ⟨(.tail _ (.tail _ (.tail _ (.tail _ (.head _))))), (List.forall_mem_cons.mpr ⟨(.tail _ (.tail _ (.tail _ (.tail _ (.tail _ (.head _)))))), (List.forall_mem_cons.mpr ⟨(.tail _ (.tail _ (.tail _ (.tail _ (.tail _ (.tail _ (.head _))))))), (List.forall_mem_cons.mpr ⟨(.tail _ (.tail _ (.tail _ (.tail _ (.tail _ (.tail _ (.tail _ (.head _)))))))), (List.forall_mem_cons.mpr ⟨(.tail _ (.tail _ (.tail _ (.tail _ (.tail _ (.tail _ (.tail _ (.tail _ (.head _))))))))), (List.forall_mem_cons.mpr ⟨(.tail _ (.tail _ (.tail _ (.tail _ (.tail _ (.tail _ (.tail _ (.tail _ (.tail _ (.head _)))))))))), (List.forall_mem_cons.mpr ⟨(.tail _ (.tail _ (.tail _ (.tail _ (.tail _ (.tail _ (.tail _ (.tail _ (.tail _ (.tail _ (.head _))))))))))), (fun q hq => (.tail _ (.tail _ (.tail _ (.tail _ (.tail _ (.tail _ (.tail _ (.tail _ (.tail _ (.tail _ (.tail _ (.tail _ (hq))))))))))))))⟩)⟩)⟩)⟩)⟩)⟩)⟩)⟩)⟩)⟩)⟩))
end Mine
end PartRj

section PartRk
open PySem PySem.Spec PySem.Calls PySem.W PyProof.Rows
set_option Elab.async false
set_option maxRecDepth 100000
set_option maxHeartbeats 8000000
namespace Mine
/-- the walk's lines are looked up afresh from here on -/
theorem syncRk {M : Model} {A : Around} {E : Value → Shared → Prop} {s : Shared} {env : Env} {Q : Flow → Shared → Prop} (h : Q .next s) : wpAny M A (execs [] env) Q E s := by
  w_top off
  first | (walk1; exact h) | exact wpAny_execs_nil h

theorem s0_spec {w : World} {news : List (Addr × Obj)} {m0 : Str → Option Value} {cd : Value} {p : Program} {loose : List Str} {mean : ExcName → Option Value} {mg mb : Str → Option Value} {base h₀ : Heap} {L fa : Addr} {s : Shared} {Q : Flow → Shared → Prop} {E : Value → Shared → Prop}
    (B : Below callerA base [] h₀) (X : (hd.heap_39 w.params).In h₀) (T : Top p loose mean mg mb h₀) (F : Fr h₀ L s.heap m0) (N : News h₀ L s.heap news)
    (hret : ∀ (h' : Heap) (tk' : Nat) (C : Addr) (t0 t1 t2 : Tok) (n : Nat), (∀ q ∈ news, q.1 < C) → Fr h₀ L h' (fun y => if y = Str.ofString "cells" then some (.ref C) else m0 y) → News h₀ L h' ((C, c3 0 t0 1126 t1 1498 t2 n) :: news) → Q .next { s with heap := h', toks := tk' }) :
    wpAny (model lawProg w) (callerA.deeper (lawEnv w L fa cd)) (exec (lawS w 0) (lawEnv w L fa cd)) Q E s := by
  dsimp only [in8, rulS, lawS, lawB, lawQ, lawSc, lawEnv, forB, forT, forI, pkBody, pkQual, pkScope, nthS]
  k_steps
  exact hret _ _ _ _ _ _ _ (by assumption) (by assumption) (by assumption)
local macro_rules | `(tactic| walk_at "call type:enumerate cons nil") => `(tactic| (k_here; refine stop_here ?_))

theorem s1_fol {w : World} : ∀ env x, foldedSetIterable (forI (lawS w 1)) env x = pure x := fun _ _ => rfl
theorem s1_iter {w : World} {C Sc : Addr} {vs : List Value} {ns : List Int} {news : List (Addr × Obj)} {m0 : Str → Option Value} {cd : Value} {p : Program} {loose : List Str} {mean : ExcName → Option Value} {mg mb : Str → Option Value} {base h₀ : Heap} {L fa : Addr} {s : Shared} {Q : Value → Shared → Prop} {E : Value → Shared → Prop}
    (B : Below callerA base [] h₀) (X : (hd.heap_39 w.params).In h₀) (T : Top p loose mean mg mb h₀) (F : Fr h₀ L s.heap (fun y => if y = Str.ofString "cells" then some (.ref C) else if y = Str.ofString "script" then some (.ref Sc) else m0 y)) (N : News h₀ L s.heap news) (hSc : h₀.IsList Sc vs.toArray) (hi : IntsAre vs ns) (hl : ns.length ≤ 63)
    (hret : ∀ (Ev It Lk : Addr) (oI : Obj) (h' : Heap) (tk' nK : Nat) (ws : List Value) (ms : List Int), IntsAre ws ms → IterO oI Lk 0 → (∀ q ∈ news, q.1 < It) → (∀ q ∈ news, q.1 ≠ Lk) → @LT.lt Nat _ Lk It → @LT.lt Nat _ It Ev → Fr h₀ L h' (fun y => if y = Str.ofString "cells" then some (.ref C) else if y = Str.ofString "script" then some (.ref Sc) else m0 y) → News h₀ L h' ((Ev, enumO It 0 .none) :: (It, oI) :: (Lk, listOf ws.toArray nK) :: news) → Q (.ref Ev) { s with heap := h', toks := tk' }) :
    wpAny (model lawProg w) (callerA.deeper (lawEnv w L fa cd)) (eval (forI (lawS w 1)) (lawEnv w L fa cd)) Q E s := by
  dsimp only [in8, rulS, lawS, lawB, lawQ, lawSc, lawEnv, forB, forT, forI, pkBody, pkQual, pkScope, nthS]
  have hlv := hi.length
  k_steps
  rename_i D9 ws9 h9 F9 N9 l9 hI9 hC9 hL9
  refine enum_call F9 N9 (.head _) ?_
  intro Ev It oI h8 hI8 hlt hIE F8 N8
  k_steps
  exact hret Ev It D9 oI h8 _ 0 ws9 _ hI9 hI8 (fun q hq => hlt q (.tail _ hq)) (fun q hq => Nat.ne_of_lt (l9 q hq)) (hlt _ (.head _)) hIE F8 N8

theorem s1_spec {w : World} {C Sc : Addr} {c0 c1 c2 : Int} {t0 t1 t2 : Tok} {n : Nat} {vs : List Value} {ns : List Int} {rest : List (Addr × Obj)} {m0 : Str → Option Value} {cd : Value} {p : Program} {loose : List Str} {mean : ExcName → Option Value} {mg mb : Str → Option Value} {base h₀ : Heap} {L fa : Addr} {s : Shared} {Q : Flow → Shared → Prop} {E : Value → Shared → Prop}
    (B : Below callerA base [] h₀) (X : (hd.heap_39 w.params).In h₀) (T : Top p loose mean mg mb h₀) (F : Fr h₀ L s.heap (fun y => if y = Str.ofString "cells" then some (.ref C) else if y = Str.ofString "script" then some (.ref Sc) else m0 y)) (N : News h₀ L s.heap ((C, c3 c0 t0 c1 t1 c2 t2 n) :: rest)) (hC : ∀ q ∈ rest, q.1 ≠ C) (hSc : h₀.IsList Sc vs.toArray) (hi : IntsAre vs ns) (hl : ns.length ≤ 63)
    (hret : ∀ (h' : Heap) (tk' : Nat) (c0 c1 c2 : Int) (t0 t1 t2 : Tok) (n : Nat) (m' : Str → Option Value), Fr h₀ L h' (fun y => if y = Str.ofString "cells" then some (.ref C) else m' y) → News h₀ L h' ((C, c3 c0 t0 c1 t1 c2 t2 n) :: rest) → Q .next { s with heap := h', toks := tk' }) :
    wpAny (model lawProg w) (callerA.deeper (lawEnv w L fa cd)) (exec (lawS w 1) (lawEnv w L fa cd)) Q E s := by
  show wpAny _ _ (exec (.For (forT (lawS w 1)) (forI (lawS w 1)) (forB (lawS w 1)) [] _) (lawEnv w L fa cd)) Q E s
  refine for_start ?_ (s1_fol _)
  refine s1_iter (C := C) (Sc := Sc) B X T F N hSc hi hl fun Ev It Lk oI h1 tk1 nK ws ms hiW hI hlt hLk hLI hIE F1 N1 => ?_
  refine wpAny_pyIter_enum (N1 _ (.head _)).1 ?_
  have hCL : C ≠ Lk := hLk _ (.head _)
  refine enum_loop (nK := nK) (rest := (Lk, listOf ws.toArray nK) :: rest) B X T (.head _) hiW (List.forall_mem_cons.mpr ⟨Ne.symm hCL, hC⟩) (hlt _ (.head _)) (List.forall_mem_cons.mpr ⟨hLI, fun q hq => hlt q (.tail _ hq)⟩) hIE ws.length 0 _ n c0 c1 c2 t0 t1 t2 _ _ _ oI .none (by omega) hI (fr_pad (fr_pad (fr_pad F1 (Str.ofString "cells") rfl) (Str.ofString "k") rfl) (Str.ofString "x") rfl) (news_sub N1 (by intro q hq; simp only [List.mem_cons] at hq ⊢; rcases hq with rfl | rfl | rfl | rfl | hq <;> simp [*])) ?_
  intro n2 d0 d1 d2 u0 u1 u2 xv2 kv2 m2 h2 tk2 F2 N2
  exact hret h2 tk2 d0 d1 d2 u0 u1 u2 n2 _ (fr_pad F2 (Str.ofString "cells") rfl) (news_sub N2 (List.forall_mem_cons.mpr ⟨.head _, fun q hq => .tail _ (.tail _ hq)⟩))
end Mine
end PartRk

section PartRl
open PySem PySem.Spec PySem.Calls PySem.W PyProof.Rows
set_option Elab.async false
set_option maxRecDepth 100000
set_option maxHeartbeats 8000000
namespace Mine

noncomputable def ringOf (c : Int) : Int := ([12, 6, 8, 9, 10, 4, 7, 5] : List Int).getD (c.fmod 8).toNat 0
noncomputable def Mo (ring : Int) : Int := (64 : Int) ^ ring.toNat - 1
noncomputable def waysOf (ring : Int) (ps qs : List Int) : List Int := allW ring ps qs (List.replicate ring.toNat 0)
noncomputable def beyOf (ring : Int) (ps qs : List Int) : List Int := allB ring ps qs (List.replicate ring.toNat 0)
noncomputable def prodOf (ring : Int) (ps qs : List Int) : Int := numOf ring ps * numOf ring qs
noncomputable def stillOf (ring : Int) (ws : List Int) : List Int := (rangeKs 1 ring.toNat).filter fun k => decide (rotS (signsOf ws) k = signsOf ws)
noncomputable def sumsOf (ring : Int) (ws : List Int) : List Int := (rangeKs 0 ring.toNat).filter fun k => decide (0 < ws.getD k.toNat 0)
/-- what is plainly so of the two rulers together -/
structure LF (ring : Int) (ps qs : List Int) : Prop where
  hq0 : ∀ b ∈ ps, 0 ≤ b ∧ b < ring
  hq1 : ∀ b ∈ qs, 0 ≤ b ∧ b < ring
  h0 : 0 ≤ numOf ring ps ∧ numOf ring ps < 2 ^ 72
  h1 : 0 ≤ numOf ring qs ∧ numOf ring qs < 2 ^ 72
  ha0 : 0 ≤ prodOf ring ps qs
  hb : 0 < Mo ring
  hb2 : Mo ring < 2 ^ 200
  ha : prodOf ring ps qs < 2 ^ (2 * Builtin.Int.intBits (Mo ring))
  hrs0 : 0 ≤ prodOf ring ps qs % Mo ring
  hrsK : ((Builtin.Int.intBits (prodOf ring ps qs % Mo ring) : Int) + 6 - 1).fdiv 6 ≤ 200
  hrs : i2d (prodOf ring ps qs % Mo ring) 6 = bareOf (waysOf ring ps qs)
  hrd0 : 0 ≤ prodOf ring ps qs / Mo ring
  hrdK : ((Builtin.Int.intBits (prodOf ring ps qs / Mo ring) : Int) + 6 - 1).fdiv 6 ≤ 200
  hrd : i2d (prodOf ring ps qs / Mo ring) 6 = bareOf (beyOf ring ps qs)
  ha1 : -prodOf ring ps qs < 2 ^ (2 * Builtin.Int.intBits (Mo ring))
  ha2 : - -prodOf ring ps qs - 1 < 2 ^ (2 * Builtin.Int.intBits (Mo ring))
  hbk : -prodOf ring ps qs / Mo ring = -(prodOf ring ps qs / Mo ring) - 1
  hlf0 : 0 ≤ -prodOf ring ps qs % Mo ring
  hlfK : ((Builtin.Int.intBits (-prodOf ring ps qs % Mo ring) : Int) + 6 - 1).fdiv 6 ≤ 200
  hlf : i2d (-prodOf ring ps qs % Mo ring) 6 = (waysOf ring ps qs).map fun c => 63 - c
  hsg : (signsOf (waysOf ring ps qs)).length ≤ 12
  hst0 : 0 < (stillOf ring (waysOf ring ps qs)).length
  hstl : (stillOf ring (waysOf ring ps qs)).length ≤ 12
  hd0 : 1 ≤ (stillOf ring (waysOf ring ps qs)).getD 0 0
  hmul : stillOf ring (waysOf ring ps qs) = (rangeKs 1 ring.toNat).filter fun k => decide (k % (stillOf ring (waysOf ring ps qs)).getD 0 0 = 0)
  hlast : (stillOf ring (waysOf ring ps qs)).getD (-1 + ((stillOf ring (waysOf ring ps qs)).length : Int)).toNat 0 = ring
  hrot : rotS (signsOf (waysOf ring ps qs)) ((stillOf ring (waysOf ring ps qs)).getD 0 0) = signsOf (waysOf ring ps qs)
  hlU : (sumsOf ring (waysOf ring ps qs)).length ≤ 12
  hkin : (dcount ((sumsOf ring (waysOf ring ps qs)).map (· % (stillOf ring (waysOf ring ps qs)).getD 0 0)) : Int) ≥ (dcount (ps.map (· % (stillOf ring (waysOf ring ps qs)).getD 0 0)) : Int) + (dcount (qs.map (· % (stillOf ring (waysOf ring ps qs)).getD 0 0)) : Int) - 1
theorem neg_mo (ring : Int) : -(1 - (64 : Int) ^ ring.toNat) = Mo ring := by unfold Mo; omega

theorem allW_len {ring : Int} {ps qs ws : List Int} : (allW ring ps qs ws).length = ws.length := by
  unfold allW
  induction ps generalizing ws with
  | nil => rfl
  | cons b ps ih => rw [List.foldl_cons, ih, rowW_len]
theorem allB_len {ring : Int} {ps qs ws : List Int} : (allB ring ps qs ws).length = ws.length := by
  unfold allB
  induction ps generalizing ws with
  | nil => rfl
  | cons b ps ih => rw [List.foldl_cons, ih, rowB_len]

theorem law2 {w : World} {ring : Int} {tr u0 u1 : Tok} {ps qs : List Int} {o1 o2 o3 o4 o5 o6 o7 : Obj} {v5 v6 v7 : Option Value} {Ru Nu D0 D1 : Addr} {nr nn n0 n1 : Nat} {vs0 vs1 : List Value} {oA ocA oB ocB : Obj} {cA cB : Addr} {g : Obj → Addr → Obj → Obj → Addr → Obj → List (Addr × Obj)} {rest : List (Addr × Obj)} {m0 : Str → Option Value} {cd : Value} {p : Program} {loose : List Str} {mean : ExcName → Option Value} {mg mb : Str → Option Value} {base h₀ : Heap} {L fa : Addr} {s : Shared} {Q : Flow → Shared → Prop} {E : Value → Shared → Prop}
    (B : Below callerA base [] h₀) (X : (hd.heap_39 w.params).In h₀) (T : Top p loose mean mg mb h₀)
    (F : Fr h₀ L s.heap (fun y => if y = Str.ofString "numbers" then some (.ref Nu) else if y = Str.ofString "rulers" then some (.ref Ru) else m0 y)) (N : News h₀ L s.heap ((L + 1 + 1 + 1 + 1 + 1 + 1 + 1, o7) :: (L + 1 + 1 + 1 + 1 + 1 + 1, o6) :: (L + 1 + 1 + 1 + 1 + 1, o5) :: (L + 1 + 1 + 1 + 1, o4) :: (L + 1 + 1 + 1, o3) :: (L + 1 + 1, o2) :: (L + 1, o1) :: (Ru, listOf [Value.ref D0, Value.ref D1].toArray nr) :: (Nu, listOf [Value.int (numOf ring ps) u0, Value.int (numOf ring qs) u1].toArray nn) :: (D1, listOf vs1.toArray n1) :: (D0, listOf vs0.toArray n0) :: rest))
    (U : Tb2 oA cA ocA oB cB ocB rest g) (hTA : TabF 30 32 4 q30 oA cA ocA) (hTB : TabF 37 47 4 q37 oB cB ocB) (hcA : cA ≠ 37) (hcB : cB ≠ 30) (hL : (37 : Nat) < L) (hRu : @LT.lt Nat _ (L + 7) Ru) (hNu : @LT.lt Nat _ Ru Nu) (hD0 : @LT.lt Nat _ Nu D0) (hD1 : @LT.lt Nat _ D0 D1) (hfar : ∀ q ∈ rest, Far L Nu q.1)
    (hd1 : o1.data = .cell (some (.int ring tr))) (hd5 : o5.data = .cell v5) (hd6 : o6.data = .cell v6) (hd7 : o7.data = .cell v7)
    (hi0 : IntsAre vs0 ps) (hi1 : IntsAre vs1 qs) (hl0 : ps.length ≤ 5) (hl1 : qs.length ≤ 5) (hr : 4 ≤ ring ∧ ring ≤ 12) (R : LF ring ps qs)
    (hret : ∀ (h' : Heap) (tk' : Nat) (m' : Str → Option Value), Fr h₀ L h' m' → News h₀ L h' rest → Q (.ret (.bool true)) { s with heap := h', toks := tk' }) :
    wpAny (model lawProg w) (callerA.deeper (lawEnv w L fa cd)) (execs [lawS w 6, lawS w 7, lawS w 8, lawS w 9, lawS w 10, lawS w 11, lawS w 12, lawS w 13, lawS w 14, lawS w 15, lawS w 16, lawS w 17, lawS w 18, lawS w 19] (lawEnv w L fa cd)) Q E s := by
  have hWl : ((waysOf ring ps qs).length : Int) = ring := by unfold waysOf; rw [allW_len, List.length_replicate]; omega
  have hBl : ((beyOf ring ps qs).length : Int) = ring := by unfold beyOf; rw [allB_len, List.length_replicate]; omega
  refine wpAny_execs_cons (s6_spec (o1 := o1) (o5 := o5) (g5 := (fun o' => (L + 1 + 1 + 1 + 1 + 1 + 1 + 1, o7) :: (L + 1 + 1 + 1 + 1 + 1 + 1, o6) :: (L + 1 + 1 + 1 + 1 + 1, o') :: (L + 1 + 1 + 1 + 1, o4) :: (L + 1 + 1 + 1, o3) :: (L + 1 + 1, o2) :: (L + 1, o1) :: (Ru, listOf [Value.ref D0, Value.ref D1].toArray nr) :: (Nu, listOf [Value.int (numOf ring ps) u0, Value.int (numOf ring qs) u1].toArray nn) :: (D1, listOf vs1.toArray n1) :: (D0, listOf vs0.toArray n0) :: rest)) B X T F N (.tail _ (.tail _ (.tail _ (.tail _ (.tail _ (.tail _ (.head _))))))) hd1 (UpdF.tail (by show @Ne Nat _ _; omega) (UpdF.tail (by show @Ne Nat _ _; omega) (UpdF.head (List.forall_mem_cons.mpr ⟨(by show @Ne Nat _ _; omega), (List.forall_mem_cons.mpr ⟨(by show @Ne Nat _ _; omega), (List.forall_mem_cons.mpr ⟨(by show @Ne Nat _ _; omega), (List.forall_mem_cons.mpr ⟨(by show @Ne Nat _ _; omega), (List.forall_mem_cons.mpr ⟨(by show @Ne Nat _ _; omega), (List.forall_mem_cons.mpr ⟨(by show @Ne Nat _ _; omega), (List.forall_mem_cons.mpr ⟨(by show @Ne Nat _ _; omega), (List.forall_mem_cons.mpr ⟨(by show @Ne Nat _ _; omega), (far_all hfar (by omega) (by omega))⟩)⟩)⟩)⟩)⟩)⟩)⟩)⟩)))) hd5 hr fun h1 tk1 Wa vsW o5a hiW hWa hd5a F1 N1 => ?_)
  have hWN : @LT.lt Nat _ D1 Wa := hWa _ (.tail _ (.tail _ (.tail _ (.tail _ (.tail _ (.tail _ (.tail _ (.tail _ (.tail _ (.head _))))))))))
  refine wpAny_execs_cons (s7_spec (o1 := o1) B X T F1 N1 (.tail _ (.tail _ (.tail _ (.tail _ (.tail _ (.tail _ (.tail _ (.head _)))))))) hd1 hr fun h2 tk2 Be vsB hiB hBe F2 N2 => ?_)
  have hBW : @LT.lt Nat _ Wa Be := hBe _ (.head _)
  refine wpAny_execs_cons (s8_spec (o1 := o1) (o5 := o5a) (P0 := D0) (P1 := D1) (Ru := Ru) (nR := nr) (nP := n0) (nQ := n1) (rest := (L + 1 + 1 + 1 + 1 + 1 + 1 + 1, o7) :: (L + 1 + 1 + 1 + 1 + 1 + 1, o6) :: (L + 1 + 1 + 1 + 1 + 1, o5a) :: (L + 1 + 1 + 1 + 1, o4) :: (L + 1 + 1 + 1, o3) :: (L + 1 + 1, o2) :: (L + 1, o1) :: (Ru, listOf [Value.ref D0, Value.ref D1].toArray nr) :: (Nu, listOf [Value.int (numOf ring ps) u0, Value.int (numOf ring qs) u1].toArray nn) :: (D1, listOf vs1.toArray n1) :: (D0, listOf vs0.toArray n0) :: rest) B X T (fr_pad (fr_pad F2 (Str.ofString "rulers") rfl) (Str.ofString "beyond") rfl) (news_sub N2 (List.forall_mem_cons.mpr ⟨(.tail _ (.head _)), (List.forall_mem_cons.mpr ⟨(.head _), (List.forall_mem_cons.mpr ⟨(.tail _ (.tail _ (.head _))), (List.forall_mem_cons.mpr ⟨(.tail _ (.tail _ (.tail _ (.head _)))), (List.forall_mem_cons.mpr ⟨(.tail _ (.tail _ (.tail _ (.tail _ (.head _))))), (List.forall_mem_cons.mpr ⟨(.tail _ (.tail _ (.tail _ (.tail _ (.tail _ (.head _)))))), (List.forall_mem_cons.mpr ⟨(.tail _ (.tail _ (.tail _ (.tail _ (.tail _ (.tail _ (.head _))))))), (List.forall_mem_cons.mpr ⟨(.tail _ (.tail _ (.tail _ (.tail _ (.tail _ (.tail _ (.tail _ (.head _)))))))), (List.forall_mem_cons.mpr ⟨(.tail _ (.tail _ (.tail _ (.tail _ (.tail _ (.tail _ (.tail _ (.tail _ (.head _))))))))), (List.forall_mem_cons.mpr ⟨(.tail _ (.tail _ (.tail _ (.tail _ (.tail _ (.tail _ (.tail _ (.tail _ (.tail _ (.head _)))))))))), (List.forall_mem_cons.mpr ⟨(.tail _ (.tail _ (.tail _ (.tail _ (.tail _ (.tail _ (.tail _ (.tail _ (.tail _ (.tail _ (.head _))))))))))), (List.forall_mem_cons.mpr ⟨(.tail _ (.tail _ (.tail _ (.tail _ (.tail _ (.tail _ (.tail _ (.tail _ (.tail _ (.tail _ (.tail _ (.head _)))))))))))), (List.forall_mem_cons.mpr ⟨(.tail _ (.tail _ (.tail _ (.tail _ (.tail _ (.tail _ (.tail _ (.tail _ (.tail _ (.tail _ (.tail _ (.tail _ (.head _))))))))))))), (fun q hq => (.tail _ (.tail _ (.tail _ (.tail _ (.tail _ (.tail _ (.tail _ (.tail _ (.tail _ (.tail _ (.tail _ (.tail _ (.tail _ (hq)))))))))))))))⟩)⟩)⟩)⟩)⟩)⟩)⟩)⟩)⟩)⟩)⟩)⟩)⟩)) (Nat.ne_of_lt hBW) (List.forall_mem_cons.mpr ⟨Nat.ne_of_lt (hWa (L + 1 + 1 + 1 + 1 + 1 + 1 + 1, o7) (.head _)), (List.forall_mem_cons.mpr ⟨Nat.ne_of_lt (hWa (L + 1 + 1 + 1 + 1 + 1 + 1, o6) (.tail _ (.head _))), (List.forall_mem_cons.mpr ⟨Nat.ne_of_lt (hWa (L + 1 + 1 + 1 + 1 + 1, o5) (.tail _ (.tail _ (.head _)))), (List.forall_mem_cons.mpr ⟨Nat.ne_of_lt (hWa (L + 1 + 1 + 1 + 1, o4) (.tail _ (.tail _ (.tail _ (.head _))))), (List.forall_mem_cons.mpr ⟨Nat.ne_of_lt (hWa (L + 1 + 1 + 1, o3) (.tail _ (.tail _ (.tail _ (.tail _ (.head _)))))), (List.forall_mem_cons.mpr ⟨Nat.ne_of_lt (hWa (L + 1 + 1, o2) (.tail _ (.tail _ (.tail _ (.tail _ (.tail _ (.head _))))))), (List.forall_mem_cons.mpr ⟨Nat.ne_of_lt (hWa (L + 1, o1) (.tail _ (.tail _ (.tail _ (.tail _ (.tail _ (.tail _ (.head _)))))))), (List.forall_mem_cons.mpr ⟨Nat.ne_of_lt (hWa (Ru, listOf [Value.ref D0, Value.ref D1].toArray nr) (.tail _ (.tail _ (.tail _ (.tail _ (.tail _ (.tail _ (.tail _ (.head _))))))))), (List.forall_mem_cons.mpr ⟨Nat.ne_of_lt (hWa (Nu, listOf [Value.int (numOf ring ps) u0, Value.int (numOf ring qs) u1].toArray nn) (.tail _ (.tail _ (.tail _ (.tail _ (.tail _ (.tail _ (.tail _ (.tail _ (.head _)))))))))), (List.forall_mem_cons.mpr ⟨Nat.ne_of_lt (hWa (D1, listOf vs1.toArray n1) (.tail _ (.tail _ (.tail _ (.tail _ (.tail _ (.tail _ (.tail _ (.tail _ (.tail _ (.head _))))))))))), (List.forall_mem_cons.mpr ⟨Nat.ne_of_lt (hWa (D0, listOf vs0.toArray n0) (.tail _ (.tail _ (.tail _ (.tail _ (.tail _ (.tail _ (.tail _ (.tail _ (.tail _ (.tail _ (.head _)))))))))))), (fun q hq => Nat.ne_of_lt (hWa q (.tail _ (.tail _ (.tail _ (.tail _ (.tail _ (.tail _ (.tail _ (.tail _ (.tail _ (.tail _ (.tail _ (hq))))))))))))))⟩)⟩)⟩)⟩)⟩)⟩)⟩)⟩)⟩)⟩)⟩) (List.forall_mem_cons.mpr ⟨Nat.ne_of_lt (hBe (L + 1 + 1 + 1 + 1 + 1 + 1 + 1, o7) (.tail _ (.head _))), (List.forall_mem_cons.mpr ⟨Nat.ne_of_lt (hBe (L + 1 + 1 + 1 + 1 + 1 + 1, o6) (.tail _ (.tail _ (.head _)))), (List.forall_mem_cons.mpr ⟨Nat.ne_of_lt (hBe (L + 1 + 1 + 1 + 1 + 1, o5a) (.tail _ (.tail _ (.tail _ (.head _))))), (List.forall_mem_cons.mpr ⟨Nat.ne_of_lt (hBe (L + 1 + 1 + 1 + 1, o4) (.tail _ (.tail _ (.tail _ (.tail _ (.head _)))))), (List.forall_mem_cons.mpr ⟨Nat.ne_of_lt (hBe (L + 1 + 1 + 1, o3) (.tail _ (.tail _ (.tail _ (.tail _ (.tail _ (.head _))))))), (List.forall_mem_cons.mpr ⟨Nat.ne_of_lt (hBe (L + 1 + 1, o2) (.tail _ (.tail _ (.tail _ (.tail _ (.tail _ (.tail _ (.head _)))))))), (List.forall_mem_cons.mpr ⟨Nat.ne_of_lt (hBe (L + 1, o1) (.tail _ (.tail _ (.tail _ (.tail _ (.tail _ (.tail _ (.tail _ (.head _))))))))), (List.forall_mem_cons.mpr ⟨Nat.ne_of_lt (hBe (Ru, listOf [Value.ref D0, Value.ref D1].toArray nr) (.tail _ (.tail _ (.tail _ (.tail _ (.tail _ (.tail _ (.tail _ (.tail _ (.head _)))))))))), (List.forall_mem_cons.mpr ⟨Nat.ne_of_lt (hBe (Nu, listOf [Value.int (numOf ring ps) u0, Value.int (numOf ring qs) u1].toArray nn) (.tail _ (.tail _ (.tail _ (.tail _ (.tail _ (.tail _ (.tail _ (.tail _ (.tail _ (.head _))))))))))), (List.forall_mem_cons.mpr ⟨Nat.ne_of_lt (hBe (D1, listOf vs1.toArray n1) (.tail _ (.tail _ (.tail _ (.tail _ (.tail _ (.tail _ (.tail _ (.tail _ (.tail _ (.tail _ (.head _)))))))))))), (List.forall_mem_cons.mpr ⟨Nat.ne_of_lt (hBe (D0, listOf vs0.toArray n0) (.tail _ (.tail _ (.tail _ (.tail _ (.tail _ (.tail _ (.tail _ (.tail _ (.tail _ (.tail _ (.tail _ (.head _))))))))))))), (fun q hq => Nat.ne_of_lt (hBe q (.tail _ (.tail _ (.tail _ (.tail _ (.tail _ (.tail _ (.tail _ (.tail _ (.tail _ (.tail _ (.tail _ (.tail _ (hq)))))))))))))))⟩)⟩)⟩)⟩)⟩)⟩)⟩)⟩)⟩)⟩)⟩) (.tail _ (.tail _ (.tail _ (.tail _ (.tail _ (.tail _ (.head _))))))) hd1 (.tail _ (.tail _ (.head _))) hd5a (.tail _ (.tail _ (.tail _ (.tail _ (.tail _ (.tail _ (.tail _ (.head _)))))))) (.tail _ (.tail _ (.tail _ (.tail _ (.tail _ (.tail _ (.tail _ (.tail _ (.tail _ (.tail _ (.head _))))))))))) hi0 R.hq0 (.tail _ (.tail _ (.tail _ (.tail _ (.tail _ (.tail _ (.tail _ (.tail _ (.tail _ (.head _)))))))))) hi1 R.hq1 hr hiW hiB (by rw [List.length_replicate]; omega) (by rw [List.length_replicate]; omega) fun nW nB vsW3 vsB3 xo x1 h3 tk3 hiW3 hiB3 F3 N3 => ?_)
  replace hiW3 : IntsAre vsW3 (waysOf ring ps qs) := hiW3
  replace hiB3 : IntsAre vsB3 (beyOf ring ps qs) := hiB3
  have UU : Tb2 oA cA ocA oB cB ocB ((Wa, listOf vsW3.toArray nW) :: (Be, listOf vsB3.toArray nB) :: (L + 1 + 1 + 1 + 1 + 1 + 1 + 1, o7) :: (L + 1 + 1 + 1 + 1 + 1 + 1, o6) :: (L + 1 + 1 + 1 + 1 + 1, o5a) :: (L + 1 + 1 + 1 + 1, o4) :: (L + 1 + 1 + 1, o3) :: (L + 1 + 1, o2) :: (L + 1, o1) :: (Ru, listOf [Value.ref D0, Value.ref D1].toArray nr) :: (Nu, listOf [Value.int (numOf ring ps) u0, Value.int (numOf ring qs) u1].toArray nn) :: (D1, listOf vs1.toArray n1) :: (D0, listOf vs0.toArray n0) :: rest) (fun oA' cA' ocA' oB' cB' ocB' => (Wa, listOf vsW3.toArray nW) :: (Be, listOf vsB3.toArray nB) :: (L + 1 + 1 + 1 + 1 + 1 + 1 + 1, o7) :: (L + 1 + 1 + 1 + 1 + 1 + 1, o6) :: (L + 1 + 1 + 1 + 1 + 1, o5a) :: (L + 1 + 1 + 1 + 1, o4) :: (L + 1 + 1 + 1, o3) :: (L + 1 + 1, o2) :: (L + 1, o1) :: (Ru, listOf [Value.ref D0, Value.ref D1].toArray nr) :: (Nu, listOf [Value.int (numOf ring ps) u0, Value.int (numOf ring qs) u1].toArray nn) :: (D1, listOf vs1.toArray n1) :: (D0, listOf vs0.toArray n0) :: g oA' cA' ocA' oB' cB' ocB') := (.cons ⟨(by show @Ne Nat _ _; omega), (by show @Ne Nat _ _; omega)⟩ (.cons ⟨(by show @Ne Nat _ _; omega), (by show @Ne Nat _ _; omega)⟩ (.cons ⟨(by show @Ne Nat _ _; omega), (by show @Ne Nat _ _; omega)⟩ (.cons ⟨(by show @Ne Nat _ _; omega), (by show @Ne Nat _ _; omega)⟩ (.cons ⟨(by show @Ne Nat _ _; omega), (by show @Ne Nat _ _; omega)⟩ (.cons ⟨(by show @Ne Nat _ _; omega), (by show @Ne Nat _ _; omega)⟩ (.cons ⟨(by show @Ne Nat _ _; omega), (by show @Ne Nat _ _; omega)⟩ (.cons ⟨(by show @Ne Nat _ _; omega), (by show @Ne Nat _ _; omega)⟩ (.cons ⟨(by show @Ne Nat _ _; omega), (by show @Ne Nat _ _; omega)⟩ (.cons ⟨(by show @Ne Nat _ _; omega), (by show @Ne Nat _ _; omega)⟩ (.cons ⟨(by show @Ne Nat _ _; omega), (by show @Ne Nat _ _; omega)⟩ (.cons ⟨(by show @Ne Nat _ _; omega), (by show @Ne Nat _ _; omega)⟩ (.cons ⟨(by show @Ne Nat _ _; omega), (by show @Ne Nat _ _; omega)⟩ U)))))))))))))
  refine wpAny_execs_cons (s9_spec (n0 := numOf ring ps) (n1 := numOf ring qs) (u0 := u0) (u1 := u1) (o1 := o1) (Nu := Nu) (nN := nn) B X T (fr_pad F3 (Str.ofString "numbers") rfl) N3 UU hTA hTB hcA hcB (.tail _ (.tail _ (.tail _ (.tail _ (.tail _ (.tail _ (.tail _ (.tail _ (.head _))))))))) hd1 hr (.tail _ (.tail _ (.tail _ (.tail _ (.tail _ (.tail _ (.tail _ (.tail _ (.tail _ (.tail _ (.head _))))))))))) R.h0 R.h1 R.ha0 R.hb R.hb2 R.ha fun h4 tk4 tx ty F4 N4 => ?_)
  replace F4 : Fr h₀ L h4 (fun y => if y = Str.ofString "rest" then some (.int ((prodOf ring ps qs) % Mo ring) ty) else if y = Str.ofString "rounds" then some (.int ((prodOf ring ps qs) / Mo ring) tx) else if y = Str.ofString "numbers" then some (.ref Nu) else _) := F4
  refine wpAny_execs_cons (s10_spec (rs := (prodOf ring ps qs) % Mo ring) (rd := (prodOf ring ps qs) / Mo ring) (t1 := ty) (t2 := tx) (o5 := o5a) (Wa := Wa) (Be := Be) (nW := nW) (nB := nB) B X T (fr_pad (fr_pad (fr_pad F4 (Str.ofString "beyond") rfl) (Str.ofString "rounds") rfl) (Str.ofString "rest") rfl) N4 (UU.a hcB) hTA (.tail _ (.tail _ (.tail _ (.tail _ (.head _))))) hd5a (.head _) hiW3 (by omega) (.tail _ (.head _)) hiB3 (by omega) R.hrs0 R.hrsK R.hrs R.hrd0 R.hrdK R.hrd fun h5 tk5 F5 N5 => ?_)
  refine wpAny_execs_cons (s11_spec (n0 := numOf ring ps) (n1 := numOf ring qs) (u0 := u0) (u1 := u1) (o1 := o1) (Nu := Nu) (nN := nn) B X T (fr_pad F5 (Str.ofString "numbers") rfl) N5 UU hTA hTB hcA hcB (.tail _ (.tail _ (.tail _ (.tail _ (.tail _ (.tail _ (.tail _ (.tail _ (.head _))))))))) hd1 hr (.tail _ (.tail _ (.tail _ (.tail _ (.tail _ (.tail _ (.tail _ (.tail _ (.tail _ (.tail _ (.head _))))))))))) R.h0 R.h1 (by have := R.hb; unfold Mo at this; omega) (by rw [neg_mo]; exact R.hb2) (by rw [neg_mo]; exact R.ha1) (by rw [neg_mo]; exact R.ha2) fun h6 tk6 tb tl F6 N6 => ?_)
  rw [neg_mo] at F6
  refine wpAny_execs_cons (s12_spec (bk := -(prodOf ring ps qs) / Mo ring) (lf := -(-(prodOf ring ps qs) % Mo ring)) (rd := (prodOf ring ps qs) / Mo ring) (t1 := tb) (t2 := tl) (t3 := tx) (o5 := o5a) (Wa := Wa) (nW := nW) B X T (fr_pad (fr_pad (fr_pad F6 (Str.ofString "rounds") rfl) (Str.ofString "left") rfl) (Str.ofString "back") rfl) N6 (UU.a hcB) hTA (.tail _ (.tail _ (.tail _ (.tail _ (.head _))))) hd5a (.head _) hiW3 (by omega) R.hbk (by rw [Int.neg_neg]; exact R.hlf0) (by rw [Int.neg_neg]; exact R.hlfK) (by rw [Int.neg_neg]; exact R.hlf) fun h7 tk7 F7 N7 => ?_)
  refine wpAny_execs_cons (s13_spec (o5 := o5a) (o6 := o6) (g6 := (fun o' => (Wa, listOf vsW3.toArray nW) :: (Be, listOf vsB3.toArray nB) :: (L + 1 + 1 + 1 + 1 + 1 + 1 + 1, o7) :: (L + 1 + 1 + 1 + 1 + 1 + 1, o') :: (L + 1 + 1 + 1 + 1 + 1, o5a) :: (L + 1 + 1 + 1 + 1, o4) :: (L + 1 + 1 + 1, o3) :: (L + 1 + 1, o2) :: (L + 1, o1) :: (Ru, listOf [Value.ref D0, Value.ref D1].toArray nr) :: (Nu, listOf [Value.int (numOf ring ps) u0, Value.int (numOf ring qs) u1].toArray nn) :: (D1, listOf vs1.toArray n1) :: (D0, listOf vs0.toArray n0) :: rest)) (Wa := Wa) (nW := nW) B X T F7 N7 (.tail _ (.tail _ (.tail _ (.tail _ (.head _))))) hd5a (.head _) hiW3 (by omega) (UpdF.tail (by show @Ne Nat _ _; omega) (UpdF.tail (by show @Ne Nat _ _; omega) (UpdF.tail (by show @Ne Nat _ _; omega) (UpdF.head (List.forall_mem_cons.mpr ⟨(by show @Ne Nat _ _; omega), (List.forall_mem_cons.mpr ⟨(by show @Ne Nat _ _; omega), (List.forall_mem_cons.mpr ⟨(by show @Ne Nat _ _; omega), (List.forall_mem_cons.mpr ⟨(by show @Ne Nat _ _; omega), (List.forall_mem_cons.mpr ⟨(by show @Ne Nat _ _; omega), (List.forall_mem_cons.mpr ⟨(by show @Ne Nat _ _; omega), (List.forall_mem_cons.mpr ⟨(by show @Ne Nat _ _; omega), (List.forall_mem_cons.mpr ⟨(by show @Ne Nat _ _; omega), (List.forall_mem_cons.mpr ⟨(by show @Ne Nat _ _; omega), (far_all hfar (by omega) (by omega))⟩)⟩)⟩)⟩)⟩)⟩)⟩)⟩)⟩))))) hd6 fun h8 tk8 o6a tsg hd6a F8 N8 => ?_)
  refine wpAny_execs_cons (s14_spec (sg := signsOf (waysOf ring ps qs)) (tsg := tsg) (o1 := o1) (o6 := o6a) (o7 := o7) (g7 := (fun o' => (Wa, listOf vsW3.toArray nW) :: (Be, listOf vsB3.toArray nB) :: (L + 1 + 1 + 1 + 1 + 1 + 1 + 1, o') :: (L + 1 + 1 + 1 + 1 + 1 + 1, o6a) :: (L + 1 + 1 + 1 + 1 + 1, o5a) :: (L + 1 + 1 + 1 + 1, o4) :: (L + 1 + 1 + 1, o3) :: (L + 1 + 1, o2) :: (L + 1, o1) :: (Ru, listOf [Value.ref D0, Value.ref D1].toArray nr) :: (Nu, listOf [Value.int (numOf ring ps) u0, Value.int (numOf ring qs) u1].toArray nn) :: (D1, listOf vs1.toArray n1) :: (D0, listOf vs0.toArray n0) :: rest)) B X T F8 N8 (.tail _ (.tail _ (.tail _ (.tail _ (.tail _ (.tail _ (.tail _ (.tail _ (.head _))))))))) hd1 hr (.tail _ (.tail _ (.tail _ (.head _)))) hd6a R.hsg (UpdF.tail (by show @Ne Nat _ _; omega) (UpdF.tail (by show @Ne Nat _ _; omega) (UpdF.head (List.forall_mem_cons.mpr ⟨(by show @Ne Nat _ _; omega), (List.forall_mem_cons.mpr ⟨(by show @Ne Nat _ _; omega), (List.forall_mem_cons.mpr ⟨(by show @Ne Nat _ _; omega), (List.forall_mem_cons.mpr ⟨(by show @Ne Nat _ _; omega), (List.forall_mem_cons.mpr ⟨(by show @Ne Nat _ _; omega), (List.forall_mem_cons.mpr ⟨(by show @Ne Nat _ _; omega), (List.forall_mem_cons.mpr ⟨(by show @Ne Nat _ _; omega), (List.forall_mem_cons.mpr ⟨(by show @Ne Nat _ _; omega), (List.forall_mem_cons.mpr ⟨(by show @Ne Nat _ _; omega), (List.forall_mem_cons.mpr ⟨(by show @Ne Nat _ _; omega), (far_all hfar (by omega) (by omega))⟩)⟩)⟩)⟩)⟩)⟩)⟩)⟩)⟩)⟩)))) hd7 fun h9 tk9 St nS vsS o7a hiS hneS hd7a F9 N9 => ?_)
  replace hiS : IntsAre vsS (stillOf ring (waysOf ring ps qs)) := hiS
  refine wpAny_execs_cons (s15_spec (o1 := o1) (o7 := o7a) (St := St) (nS := nS) (st9 := (stillOf ring (waysOf ring ps qs))) B X T F9 N9 (.tail _ (.tail _ (.tail _ (.tail _ (.tail _ (.tail _ (.tail _ (.tail _ (.tail _ (.head _)))))))))) hd1 hr (.tail _ (.tail _ (.tail _ (.head _)))) hd7a (.head _) hiS R.hst0 R.hstl R.hd0 R.hmul R.hlast fun h10 tk10 F10 N10 => ?_)
  refine wpAny_execs_cons (s16_spec (sg := signsOf (waysOf ring ps qs)) (tsg := tsg) (o6 := o6a) (o7 := o7a) (St := St) (nS := nS) (st9 := (stillOf ring (waysOf ring ps qs))) B X T F10 N10 (.tail _ (.tail _ (.tail _ (.tail _ (.head _))))) hd6a R.hsg (.tail _ (.tail _ (.tail _ (.head _)))) hd7a (.head _) hiS R.hst0 R.hstl R.hrot fun h11 tk11 F11 N11 => ?_)
  refine wpAny_execs_cons (s17_spec (o1 := o1) (o5 := o5a) (Wa := Wa) (nW := nW) (ws := (waysOf ring ps qs)) B X T F11 N11 (.tail _ (.tail _ (.tail _ (.tail _ (.tail _ (.tail _ (.tail _ (.tail _ (.tail _ (.head _)))))))))) hd1 hr (.tail _ (.tail _ (.tail _ (.tail _ (.tail _ (.head _)))))) hd5a (.tail _ (.head _)) hiW3 hWl fun h12 tk12 Su nU vsU hiU hneU F12 N12 => ?_)
  replace hiU : IntsAre vsU (sumsOf ring (waysOf ring ps qs)) := hiU
  refine wpAny_execs_cons (s18_spec (o7 := o7a) (St := St) (Su := Su) (Ru := Ru) (P0 := D0) (P1 := D1) (nS := nS) (nU := nU) (nR := nr) (nP := n0) (nQ := n1) (st9 := (stillOf ring (waysOf ring ps qs))) (us := (sumsOf ring (waysOf ring ps qs))) (ps := ps) (qs := qs) B X T (fr_pad (fr_pad F12 (Str.ofString "rulers") rfl) (Str.ofString "sums") rfl) N12 (.tail _ (.tail _ (.tail _ (.tail _ (.head _))))) hd7a (.tail _ (.head _)) hiS R.hst0 R.hstl R.hd0 (.tail _ (.tail _ (.tail _ (.tail _ (.tail _ (.tail _ (.tail _ (.tail _ (.tail _ (.tail _ (.tail _ (.head _)))))))))))) (.head _) hiU R.hlU (.tail _ (.tail _ (.tail _ (.tail _ (.tail _ (.tail _ (.tail _ (.tail _ (.tail _ (.tail _ (.tail _ (.tail _ (.tail _ (.tail _ (.head _))))))))))))))) hi0 (by omega) (.tail _ (.tail _ (.tail _ (.tail _ (.tail _ (.tail _ (.tail _ (.tail _ (.tail _ (.tail _ (.tail _ (.tail _ (.tail _ (.head _)))))))))))))) hi1 (by omega) fun h13 tk13 Ki nK k0 k1 k2 F13 N13 => ?_)
  refine wpAny_execs_cons (s19_spec (Ki := Ki) (nK := nK) B X T (fr_pad F13 (Str.ofString "kinds") rfl) N13 (.head _) R.hkin fun h14 tk14 F14 N14 => ?_)
  exact hret h14 _ _ F14 (news_sub N14 (fun q hq => (.tail _ (.tail _ (.tail _ (.tail _ (.tail _ (.tail _ (.tail _ (.tail _ (.tail _ (.tail _ (.tail _ (.tail _ (.tail _ (.tail _ (.tail _ (.tail _ (hq)))))))))))))))))))
end Mine
end PartRl

section PartRm
open PySem PySem.Spec PySem.Calls PySem.W PyProof.Rows
set_option Elab.async false
set_option maxRecDepth 100000
set_option maxHeartbeats 8000000
namespace Mine

theorem law1 {w : World} {o1 o2 o3 o4 o5 o6 o7 : Obj} {v1 v2 v3 v4 v5 v6 v7 : Option Value} {Sc : Addr} {vs : List Value} {ns : List Int} {m0 : Str → Option Value} {cd : Value} {p : Program} {loose : List Str} {mean : ExcName → Option Value} {mg mb : Str → Option Value} {base h₀ : Heap} {L fa : Addr} {s : Shared} {Q : Flow → Shared → Prop} {E : Value → Shared → Prop}
    (B : Below callerA base [] h₀) (X : (hd.heap_39 w.params).In h₀) (T : Top p loose mean mg mb h₀)
    (plain : ∀ c0 c1 c2 : Int, (4 ≤ ringOf c0 ∧ ringOf c0 ≤ 12) ∧ ∃ (k0 k1 : Nat) (ps0 ts0 ps1 ts1 : List Int), RF (ringOf c0) (startOf c1) (manyOf c1) (r0Of c1) (r1Of c1) (r2Of c1) k0 ps0 ts0 ∧ RF (ringOf c0) (startOf c2) (manyOf c2) (r0Of c2) (r1Of c2) (r2Of c2) k1 ps1 ts1 ∧ LF (ringOf c0) ps0 ps1)
    (F : Fr h₀ L s.heap (fun y => if y = Str.ofString "script" then some (.ref Sc) else m0 y)) (N : News h₀ L s.heap ((L + 1 + 1 + 1 + 1 + 1 + 1 + 1, o7) :: (L + 1 + 1 + 1 + 1 + 1 + 1, o6) :: (L + 1 + 1 + 1 + 1 + 1, o5) :: (L + 1 + 1 + 1 + 1, o4) :: (L + 1 + 1 + 1, o3) :: (L + 1 + 1, o2) :: (L + 1, o1) :: (37, tabObj #[]) :: (30, tabObj #[]) :: [])) (hL : (37 : Nat) < L) (hSc : h₀.IsList Sc vs.toArray) (hi : IntsAre vs ns) (hl : ns.length ≤ 63)
    (hd1 : o1.data = .cell v1) (hd2 : o2.data = .cell v2) (hd3 : o3.data = .cell v3) (hd4 : o4.data = .cell v4) (hd5 : o5.data = .cell v5) (hd6 : o6.data = .cell v6) (hd7 : o7.data = .cell v7)
    (hret : ∀ (h' : Heap) (tk' : Nat) (gens' : Array GenState) (oA : Obj) (cA : Addr) (ocA : Obj) (oB : Obj) (cB : Addr) (ocB : Obj) (m' : Str → Option Value), (AllBare s.gens → AllBare gens') → TabF 30 32 4 q30 oA cA ocA → TabF 37 47 4 q37 oB cB ocB → Fr h₀ L h' m' → News h₀ L h' [(30, oA), (cA, ocA), (37, oB), (cB, ocB)] → Q (.ret (.bool true)) { s with heap := h', toks := tk', gens := gens' }) :
    wpAny (model lawProg w) (callerA.deeper (lawEnv w L fa cd)) (execs [lawS w 0, lawS w 1, lawS w 2, lawS w 3, lawS w 4, lawS w 5, lawS w 6, lawS w 7, lawS w 8, lawS w 9, lawS w 10, lawS w 11, lawS w 12, lawS w 13, lawS w 14, lawS w 15, lawS w 16, lawS w 17, lawS w 18, lawS w 19] (lawEnv w L fa cd)) Q E s := by
  refine wpAny_execs_cons (s0_spec B X T F N fun h1 tk1 C t0 t1 t2 n0 hC F1 N1 => ?_)
  refine wpAny_execs_cons (s1_spec (rest := (L + 1 + 1 + 1 + 1 + 1 + 1 + 1, o7) :: (L + 1 + 1 + 1 + 1 + 1 + 1, o6) :: (L + 1 + 1 + 1 + 1 + 1, o5) :: (L + 1 + 1 + 1 + 1, o4) :: (L + 1 + 1 + 1, o3) :: (L + 1 + 1, o2) :: (L + 1, o1) :: (37, tabObj #[]) :: (30, tabObj #[]) :: []) B X T (fr_pad (fr_pad F1 (Str.ofString "script") rfl) (Str.ofString "cells") rfl) N1 (fun q hq => Nat.ne_of_lt (hC q hq)) hSc hi hl fun h2 tk2 c0 c1 c2 u0 u1 u2 n2 m2 F2 N2 => ?_)
  obtain ⟨hr, k0, k1, ps0, ts0, ps1, ts1, R0, R1, R⟩ := plain c0 c1 c2
  have hC7 : @LT.lt Nat _ (L + 7) C := hC _ (.head _)
  refine wpAny_execs_cons (s2_spec (C := C) (o1 := o1) (g := (fun o' => (C, c3 c0 u0 c1 u1 c2 u2 n2) :: (L + 1 + 1 + 1 + 1 + 1 + 1 + 1, o7) :: (L + 1 + 1 + 1 + 1 + 1 + 1, o6) :: (L + 1 + 1 + 1 + 1 + 1, o5) :: (L + 1 + 1 + 1 + 1, o4) :: (L + 1 + 1 + 1, o3) :: (L + 1 + 1, o2) :: (L + 1, o') :: (37, tabObj #[]) :: (30, tabObj #[]) :: [])) B X T F2 N2 (.head _) (UpdF.tail (by show @Ne Nat _ _; omega) (UpdF.tail (by show @Ne Nat _ _; omega) (UpdF.tail (by show @Ne Nat _ _; omega) (UpdF.tail (by show @Ne Nat _ _; omega) (UpdF.tail (by show @Ne Nat _ _; omega) (UpdF.tail (by show @Ne Nat _ _; omega) (UpdF.tail (by show @Ne Nat _ _; omega) (UpdF.head (List.forall_mem_cons.mpr ⟨(by show @Ne Nat _ _; omega), (List.forall_mem_cons.mpr ⟨(by show @Ne Nat _ _; omega), (fun _ h => nomatch h)⟩)⟩))))))))) hd1 fun h3 tk3 o1a tr hd1a F3 N3 => ?_)
  refine wpAny_execs_cons (s3_spec B X T F3 N3 fun h4 tk4 Ru hRu F4 N4 => ?_)
  have hRC : @LT.lt Nat _ C Ru := hRu _ (.head _)
  refine wpAny_execs_cons (s4_spec B X T F4 N4 fun h5 tk5 Nu hNu F5 N5 => ?_)
  have hNR : @LT.lt Nat _ Ru Nu := hNu _ (.head _)
  refine wpAny_execs_cons (s5_spec (C := C) (c0 := c0) (c1 := c1) (c2 := c2) (ring := ringOf c0) (Ru := Ru) (Nu := Nu) (rest := [(30, tabObj #[]), (30, tabObj #[]), (37, tabObj #[]), (37, tabObj #[])]) (oA := tabObj #[]) (cA := 30) (ocA := tabObj #[]) (oB := tabObj #[]) (cB := 37) (ocB := tabObj #[]) (g := (fun a b c d e f => [(30, a), (b, c), (37, d), (e, f)])) B X T (fr_pad (fr_pad (fr_pad F5 (Str.ofString "cells") rfl) (Str.ofString "rulers") rfl) (Str.ofString "numbers") rfl) (news_sub N5 (List.forall_mem_cons.mpr ⟨(.tail _ (.tail _ (.tail _ (.head _)))), (List.forall_mem_cons.mpr ⟨(.tail _ (.tail _ (.tail _ (.tail _ (.head _))))), (List.forall_mem_cons.mpr ⟨(.tail _ (.tail _ (.tail _ (.tail _ (.tail _ (.head _)))))), (List.forall_mem_cons.mpr ⟨(.tail _ (.tail _ (.tail _ (.tail _ (.tail _ (.tail _ (.head _))))))), (List.forall_mem_cons.mpr ⟨(.tail _ (.tail _ (.tail _ (.tail _ (.tail _ (.tail _ (.tail _ (.head _)))))))), (List.forall_mem_cons.mpr ⟨(.tail _ (.tail _ (.tail _ (.tail _ (.tail _ (.tail _ (.tail _ (.tail _ (.head _))))))))), (List.forall_mem_cons.mpr ⟨(.tail _ (.tail _ (.tail _ (.tail _ (.tail _ (.tail _ (.tail _ (.tail _ (.tail _ (.head _)))))))))), (List.forall_mem_cons.mpr ⟨(.tail _ (.head _)), (List.forall_mem_cons.mpr ⟨(.head _), (List.forall_mem_cons.mpr ⟨(.tail _ (.tail _ (.head _))), (List.forall_mem_cons.mpr ⟨(.tail _ (.tail _ (.tail _ (.tail _ (.tail _ (.tail _ (.tail _ (.tail _ (.tail _ (.tail _ (.tail _ (.head _)))))))))))), (List.forall_mem_cons.mpr ⟨(.tail _ (.tail _ (.tail _ (.tail _ (.tail _ (.tail _ (.tail _ (.tail _ (.tail _ (.tail _ (.tail _ (.head _)))))))))))), (List.forall_mem_cons.mpr ⟨(.tail _ (.tail _ (.tail _ (.tail _ (.tail _ (.tail _ (.tail _ (.tail _ (.tail _ (.tail _ (.head _))))))))))), (List.forall_mem_cons.mpr ⟨(.tail _ (.tail _ (.tail _ (.tail _ (.tail _ (.tail _ (.tail _ (.tail _ (.tail _ (.tail _ (.head _))))))))))), (fun q hq => nomatch hq)⟩)⟩)⟩)⟩)⟩)⟩)⟩)⟩)⟩)⟩)⟩)⟩)⟩)⟩)) (.base (fun _ h => nomatch h)) (.inl ⟨rfl, rfl, rfl⟩) (.inl ⟨rfl, rfl, rfl⟩) (by show (30 : Nat) ≠ 37; decide) (by show (37 : Nat) ≠ 30; decide) hL (by omega) hNR (fun q hq => .inl (by simp only [List.mem_cons, List.not_mem_nil, or_false] at hq; rcases hq with rfl | rfl | rfl | rfl <;> (show (_ : Nat) < L; omega))) hd1a hd2 hd3 hd4 hr R0 R1 ?_)
  intro h6 tk6 gens6 nr6 nn6 nD0 nD1 D0 D1 vs0 vs1 w0 w1 o2a o3a o4a oA6 cA6 ocA6 oB6 cB6 ocB6 m6 hi0 hi1 hb6 hA6 hB6 hcA6 hcB6 hD0 hD1 hfar6 F6 N6
  refine law2 (ring := ringOf c0) (ps := ps0) (qs := ps1) (Ru := Ru) (Nu := Nu) (rest := (fun a b c d e f => [(30, a), (b, c), (37, d), (e, f)]) oA6 cA6 ocA6 oB6 cB6 ocB6) (g := (fun a b c d e f => [(30, a), (b, c), (37, d), (e, f)])) (oA := oA6) (cA := cA6) (ocA := ocA6) (oB := oB6) (cB := cB6) (ocB := ocB6) B X T F6 N6 (.base (fun _ h => nomatch h)) hA6 hB6 hcA6 hcB6 hL (by omega) hNR hD0 hD1 hfar6 hd1a hd5 hd6 hd7 hi0 hi1 R0.hpl R1.hpl hr R ?_
  intro h7 tk7 m7 F7 N7
  exact hret h7 _ gens6 oA6 cA6 ocA6 oB6 cB6 ocB6 m7 hb6 hA6 hB6 F7 N7
end Mine
end PartRm

section PartPlK
open PySem PySem.Spec PySem.Calls PySem.W PyProof.Rows
set_option Elab.async false
set_option maxRecDepth 100000
set_option maxHeartbeats 8000000
namespace Mine

/-- the set m moved up by x, round d -/
noncomputable def rotm (d m x : Nat) : Nat := Nat.land (Nat.lor (Nat.shiftLeft m x) (Nat.shiftRight (Nat.shiftLeft m x) d)) (Nat.sub (Nat.pow 2 d) 1)
noncomputable def sumE (d a : Nat) (es : List Nat) : Nat := es.foldl (fun c e => Nat.lor c (rotm d a e)) 0
noncomputable def popF (m : Nat) : Nat := Nat.mod (Nat.land (Nat.mul m 0x200040008001) 0x111111111111111) 15
noncomputable def maskE (es : List Nat) : Nat := es.foldl (fun m x => Nat.lor m (Nat.shiftLeft 1 x)) 0
noncomputable def perio (d c : Nat) : Bool := (List.range d).any fun t => Nat.ble 1 t && Nat.beq (rotm d c t) c
noncomputable def chk (d a pa pb : Nat) (eb : List Nat) : Bool := Nat.ble (Nat.add pa pb) (Nat.add (popF (sumE d a eb)) 1) || perio d (sumE d a eb)
noncomputable def chkA (d : Nat) (a pa : Nat) (fam : List (Nat × Nat × List Nat)) : Bool := fam.all fun q => chk d a pa q.2.1 q.2.2
noncomputable def scan (mk : Int) : List Int → List Int
  | [] => []
  | v :: r => (mk + v) :: scan (mk + v) r
noncomputable def maskL (d : Nat) (l : List Int) : Nat := l.foldl (fun m x => Nat.lor m (Nat.shiftLeft 1 (x % (d : Int)).toNat)) 0
noncomputable def fam1 : List (Nat × Nat × List Nat) := [(1, 1, [0])]
theorem kn1 : (fam1.all fun q => chkA 1 q.1 q.2.1 fam1) = true := by decide +kernel
theorem fw1 : (fam1.all fun q => Nat.beq (maskE q.2.2) q.1 && Nat.beq (popF q.1) q.2.1 && q.2.2.all fun e => Nat.blt e 1) = true := by decide +kernel
theorem fr1 : (([1, 2, 3, 4, 5, 6] : List Int).all fun r0 => ([3, 1, 2, 4, 0, 127] : List Int).all fun r1 => ([0, 127, 2, 6] : List Int).all fun r2 => [2, 3, 4].all fun k => fam1.any fun q => Nat.beq (maskL 1 (0 :: scan 0 (siz r0 r1 r2 k))) q.1) = true := by decide +kernel
noncomputable def fam2 : List (Nat × Nat × List Nat) := [(1, 1, [0]), (3, 2, [0, 1])]
theorem kn2 : (fam2.all fun q => chkA 2 q.1 q.2.1 fam2) = true := by decide +kernel
theorem fw2 : (fam2.all fun q => Nat.beq (maskE q.2.2) q.1 && Nat.beq (popF q.1) q.2.1 && q.2.2.all fun e => Nat.blt e 2) = true := by decide +kernel
theorem fr2 : (([1, 2, 3, 4, 5, 6] : List Int).all fun r0 => ([3, 1, 2, 4, 0, 127] : List Int).all fun r1 => ([0, 127, 2, 6] : List Int).all fun r2 => [2, 3, 4].all fun k => fam2.any fun q => Nat.beq (maskL 2 (0 :: scan 0 (siz r0 r1 r2 k))) q.1) = true := by decide +kernel
noncomputable def fam3 : List (Nat × Nat × List Nat) := [(1, 1, [0]), (3, 2, [0, 1]), (5, 2, [0, 2]), (7, 3, [0, 1, 2])]
theorem kn3 : (fam3.all fun q => chkA 3 q.1 q.2.1 fam3) = true := by decide +kernel
theorem fw3 : (fam3.all fun q => Nat.beq (maskE q.2.2) q.1 && Nat.beq (popF q.1) q.2.1 && q.2.2.all fun e => Nat.blt e 3) = true := by decide +kernel
theorem fr3 : (([1, 2, 3, 4, 5, 6] : List Int).all fun r0 => ([3, 1, 2, 4, 0, 127] : List Int).all fun r1 => ([0, 127, 2, 6] : List Int).all fun r2 => [2, 3, 4].all fun k => fam3.any fun q => Nat.beq (maskL 3 (0 :: scan 0 (siz r0 r1 r2 k))) q.1) = true := by decide +kernel
noncomputable def fam4 : List (Nat × Nat × List Nat) := [(1, 1, [0]), (3, 2, [0, 1]), (5, 2, [0, 2]), (7, 3, [0, 1, 2]), (9, 2, [0, 3]), (11, 3, [0, 1, 3]), (13, 3, [0, 2, 3]), (15, 4, [0, 1, 2, 3])]
theorem kn4 : (fam4.all fun q => chkA 4 q.1 q.2.1 fam4) = true := by decide +kernel
theorem fw4 : (fam4.all fun q => Nat.beq (maskE q.2.2) q.1 && Nat.beq (popF q.1) q.2.1 && q.2.2.all fun e => Nat.blt e 4) = true := by decide +kernel
theorem fr4 : (([1, 2, 3, 4, 5, 6] : List Int).all fun r0 => ([3, 1, 2, 4, 0, 127] : List Int).all fun r1 => ([0, 127, 2, 6] : List Int).all fun r2 => [2, 3, 4].all fun k => fam4.any fun q => Nat.beq (maskL 4 (0 :: scan 0 (siz r0 r1 r2 k))) q.1) = true := by decide +kernel
noncomputable def fam5 : List (Nat × Nat × List Nat) := [(1, 1, [0]), (3, 2, [0, 1]), (5, 2, [0, 2]), (7, 3, [0, 1, 2]), (9, 2, [0, 3]), (11, 3, [0, 1, 3]), (13, 3, [0, 2, 3]), (15, 4, [0, 1, 2, 3]), (17, 2, [0, 4]), (19, 3, [0, 1, 4]), (21, 3, [0, 2, 4]), (23, 4, [0, 1, 2, 4]), (25, 3, [0, 3, 4]), (27, 4, [0, 1, 3, 4]), (29, 4, [0, 2, 3, 4]), (31, 5, [0, 1, 2, 3, 4])]
theorem kn5 : (fam5.all fun q => chkA 5 q.1 q.2.1 fam5) = true := by decide +kernel
theorem fw5 : (fam5.all fun q => Nat.beq (maskE q.2.2) q.1 && Nat.beq (popF q.1) q.2.1 && q.2.2.all fun e => Nat.blt e 5) = true := by decide +kernel
theorem fr5 : (([1, 2, 3, 4, 5, 6] : List Int).all fun r0 => ([3, 1, 2, 4, 0, 127] : List Int).all fun r1 => ([0, 127, 2, 6] : List Int).all fun r2 => [2, 3, 4].all fun k => fam5.any fun q => Nat.beq (maskL 5 (0 :: scan 0 (siz r0 r1 r2 k))) q.1) = true := by decide +kernel
noncomputable def fam6 : List (Nat × Nat × List Nat) := [(1, 1, [0]), (3, 2, [0, 1]), (5, 2, [0, 2]), (7, 3, [0, 1, 2]), (9, 2, [0, 3]), (11, 3, [0, 1, 3]), (13, 3, [0, 2, 3]), (15, 4, [0, 1, 2, 3]), (17, 2, [0, 4]), (19, 3, [0, 1, 4]), (21, 3, [0, 2, 4]), (23, 4, [0, 1, 2, 4]), (25, 3, [0, 3, 4]), (27, 4, [0, 1, 3, 4]), (29, 4, [0, 2, 3, 4]), (31, 5, [0, 1, 2, 3, 4]), (33, 2, [0, 5]), (35, 3, [0, 1, 5]), (37, 3, [0, 2, 5]), (39, 4, [0, 1, 2, 5]), (41, 3, [0, 3, 5]), (43, 4, [0, 1, 3, 5]), (45, 4, [0, 2, 3, 5]), (49, 3, [0, 4, 5]), (51, 4, [0, 1, 4, 5]), (53, 4, [0, 2, 4, 5]), (57, 4, [0, 3, 4, 5]), (61, 5, [0, 2, 3, 4, 5])]
theorem kn6 : (fam6.all fun q => chkA 6 q.1 q.2.1 fam6) = true := by decide +kernel
theorem fw6 : (fam6.all fun q => Nat.beq (maskE q.2.2) q.1 && Nat.beq (popF q.1) q.2.1 && q.2.2.all fun e => Nat.blt e 6) = true := by decide +kernel
theorem fr6 : (([1, 2, 3, 4, 5, 6] : List Int).all fun r0 => ([3, 1, 2, 4, 0, 127] : List Int).all fun r1 => ([0, 127, 2, 6] : List Int).all fun r2 => [2, 3, 4].all fun k => fam6.any fun q => Nat.beq (maskL 6 (0 :: scan 0 (siz r0 r1 r2 k))) q.1) = true := by decide +kernel
noncomputable def fam7 : List (Nat × Nat × List Nat) := [(3, 2, [0, 1]), (5, 2, [0, 2]), (7, 3, [0, 1, 2]), (9, 2, [0, 3]), (11, 3, [0, 1, 3]), (13, 3, [0, 2, 3]), (15, 4, [0, 1, 2, 3]), (17, 2, [0, 4]), (19, 3, [0, 1, 4]), (21, 3, [0, 2, 4]), (23, 4, [0, 1, 2, 4]), (25, 3, [0, 3, 4]), (27, 4, [0, 1, 3, 4]), (29, 4, [0, 2, 3, 4]), (31, 5, [0, 1, 2, 3, 4]), (33, 2, [0, 5]), (35, 3, [0, 1, 5]), (37, 3, [0, 2, 5]), (39, 4, [0, 1, 2, 5]), (41, 3, [0, 3, 5]), (43, 4, [0, 1, 3, 5]), (45, 4, [0, 2, 3, 5]), (49, 3, [0, 4, 5]), (51, 4, [0, 1, 4, 5]), (53, 4, [0, 2, 4, 5]), (55, 5, [0, 1, 2, 4, 5]), (57, 4, [0, 3, 4, 5]), (61, 5, [0, 2, 3, 4, 5]), (65, 2, [0, 6]), (67, 3, [0, 1, 6]), (69, 3, [0, 2, 6]), (71, 4, [0, 1, 2, 6]), (73, 3, [0, 3, 6]), (75, 4, [0, 1, 3, 6]), (77, 4, [0, 2, 3, 6]), (81, 3, [0, 4, 6]), (83, 4, [0, 1, 4, 6]), (85, 4, [0, 2, 4, 6]), (87, 5, [0, 1, 2, 4, 6]), (89, 4, [0, 3, 4, 6]), (91, 5, [0, 1, 3, 4, 6]), (97, 3, [0, 5, 6]), (99, 4, [0, 1, 5, 6]), (101, 4, [0, 2, 5, 6]), (103, 5, [0, 1, 2, 5, 6]), (105, 4, [0, 3, 5, 6]), (107, 5, [0, 1, 3, 5, 6]), (109, 5, [0, 2, 3, 5, 6]), (113, 4, [0, 4, 5, 6]), (121, 5, [0, 3, 4, 5, 6])]
theorem kn7 : (fam7.all fun q => chkA 7 q.1 q.2.1 fam7) = true := by decide +kernel
theorem fw7 : (fam7.all fun q => Nat.beq (maskE q.2.2) q.1 && Nat.beq (popF q.1) q.2.1 && q.2.2.all fun e => Nat.blt e 7) = true := by decide +kernel
theorem fr7 : (([1, 2, 3, 4, 5, 6] : List Int).all fun r0 => ([3, 1, 2, 4, 0, 127] : List Int).all fun r1 => ([0, 127, 2, 6] : List Int).all fun r2 => [2, 3, 4].all fun k => fam7.any fun q => Nat.beq (maskL 7 (0 :: scan 0 (siz r0 r1 r2 k))) q.1) = true := by decide +kernel
noncomputable def fam8 : List (Nat × Nat × List Nat) := [(3, 2, [0, 1]), (5, 2, [0, 2]), (7, 3, [0, 1, 2]), (9, 2, [0, 3]), (11, 3, [0, 1, 3]), (13, 3, [0, 2, 3]), (15, 4, [0, 1, 2, 3]), (17, 2, [0, 4]), (19, 3, [0, 1, 4]), (21, 3, [0, 2, 4]), (23, 4, [0, 1, 2, 4]), (25, 3, [0, 3, 4]), (29, 4, [0, 2, 3, 4]), (31, 5, [0, 1, 2, 3, 4]), (33, 2, [0, 5]), (35, 3, [0, 1, 5]), (37, 3, [0, 2, 5]), (41, 3, [0, 3, 5]), (43, 4, [0, 1, 3, 5]), (45, 4, [0, 2, 3, 5]), (49, 3, [0, 4, 5]), (57, 4, [0, 3, 4, 5]), (61, 5, [0, 2, 3, 4, 5]), (65, 2, [0, 6]), (67, 3, [0, 1, 6]), (69, 3, [0, 2, 6]), (73, 3, [0, 3, 6]), (75, 4, [0, 1, 3, 6]), (81, 3, [0, 4, 6]), (83, 4, [0, 1, 4, 6]), (85, 4, [0, 2, 4, 6]), (89, 4, [0, 3, 4, 6]), (91, 5, [0, 1, 3, 4, 6]), (97, 3, [0, 5, 6]), (105, 4, [0, 3, 5, 6]), (113, 4, [0, 4, 5, 6]), (121, 5, [0, 3, 4, 5, 6]), (137, 3, [0, 3, 7]), (139, 4, [0, 1, 3, 7]), (145, 3, [0, 4, 7]), (147, 4, [0, 1, 4, 7]), (149, 4, [0, 2, 4, 7]), (151, 5, [0, 1, 2, 4, 7]), (161, 3, [0, 5, 7]), (163, 4, [0, 1, 5, 7]), (165, 4, [0, 2, 5, 7]), (169, 4, [0, 3, 5, 7]), (171, 5, [0, 1, 3, 5, 7]), (177, 4, [0, 4, 5, 7]), (181, 5, [0, 2, 4, 5, 7]), (193, 3, [0, 6, 7]), (195, 4, [0, 1, 6, 7]), (211, 5, [0, 1, 4, 6, 7]), (225, 4, [0, 5, 6, 7]), (241, 5, [0, 4, 5, 6, 7])]
theorem kn8 : (fam8.all fun q => chkA 8 q.1 q.2.1 fam8) = true := by decide +kernel
theorem fw8 : (fam8.all fun q => Nat.beq (maskE q.2.2) q.1 && Nat.beq (popF q.1) q.2.1 && q.2.2.all fun e => Nat.blt e 8) = true := by decide +kernel
theorem fr8 : (([1, 2, 3, 4, 5, 6] : List Int).all fun r0 => ([3, 1, 2, 4, 0, 127] : List Int).all fun r1 => ([0, 127, 2, 6] : List Int).all fun r2 => [2, 3, 4].all fun k => fam8.any fun q => Nat.beq (maskL 8 (0 :: scan 0 (siz r0 r1 r2 k))) q.1) = true := by decide +kernel
noncomputable def fam9 : List (Nat × Nat × List Nat) := [(3, 2, [0, 1]), (5, 2, [0, 2]), (7, 3, [0, 1, 2]), (9, 2, [0, 3]), (11, 3, [0, 1, 3]), (13, 3, [0, 2, 3]), (15, 4, [0, 1, 2, 3]), (17, 2, [0, 4]), (19, 3, [0, 1, 4]), (21, 3, [0, 2, 4]), (23, 4, [0, 1, 2, 4]), (25, 3, [0, 3, 4]), (27, 4, [0, 1, 3, 4]), (29, 4, [0, 2, 3, 4]), (31, 5, [0, 1, 2, 3, 4]), (33, 2, [0, 5]), (35, 3, [0, 1, 5]), (37, 3, [0, 2, 5]), (39, 4, [0, 1, 2, 5]), (41, 3, [0, 3, 5]), (43, 4, [0, 1, 3, 5]), (45, 4, [0, 2, 3, 5]), (49, 3, [0, 4, 5]), (51, 4, [0, 1, 4, 5]), (53, 4, [0, 2, 4, 5]), (57, 4, [0, 3, 4, 5]), (61, 5, [0, 2, 3, 4, 5]), (65, 2, [0, 6]), (67, 3, [0, 1, 6]), (69, 3, [0, 2, 6]), (71, 4, [0, 1, 2, 6]), (73, 3, [0, 3, 6]), (75, 4, [0, 1, 3, 6]), (77, 4, [0, 2, 3, 6]), (81, 3, [0, 4, 6]), (83, 4, [0, 1, 4, 6]), (85, 4, [0, 2, 4, 6]), (89, 4, [0, 3, 4, 6]), (97, 3, [0, 5, 6]), (99, 4, [0, 1, 5, 6]), (103, 5, [0, 1, 2, 5, 6]), (105, 4, [0, 3, 5, 6]), (113, 4, [0, 4, 5, 6]), (121, 5, [0, 3, 4, 5, 6]), (137, 3, [0, 3, 7]), (141, 4, [0, 2, 3, 7]), (145, 3, [0, 4, 7]), (147, 4, [0, 1, 4, 7]), (153, 4, [0, 3, 4, 7]), (161, 3, [0, 5, 7]), (163, 4, [0, 1, 5, 7]), (165, 4, [0, 2, 5, 7]), (169, 4, [0, 3, 5, 7]), (171, 5, [0, 1, 3, 5, 7]), (177, 4, [0, 4, 5, 7]), (193, 3, [0, 6, 7]), (195, 4, [0, 1, 6, 7]), (205, 5, [0, 2, 3, 6, 7]), (209, 4, [0, 4, 6, 7]), (225, 4, [0, 5, 6, 7]), (241, 5, [0, 4, 5, 6, 7]), (263, 4, [0, 1, 2, 8]), (273, 3, [0, 4, 8]), (275, 4, [0, 1, 4, 8]), (281, 4, [0, 3, 4, 8]), (289, 3, [0, 5, 8]), (291, 4, [0, 1, 5, 8]), (293, 4, [0, 2, 5, 8]), (305, 4, [0, 4, 5, 8]), (321, 3, [0, 6, 8]), (323, 4, [0, 1, 6, 8]), (325, 4, [0, 2, 6, 8]), (329, 4, [0, 3, 6, 8]), (331, 5, [0, 1, 3, 6, 8]), (337, 4, [0, 4, 6, 8]), (339, 5, [0, 1, 4, 6, 8]), (341, 5, [0, 2, 4, 6, 8]), (353, 4, [0, 5, 6, 8]), (409, 5, [0, 3, 4, 7, 8]), (449, 4, [0, 6, 7, 8]), (481, 5, [0, 5, 6, 7, 8])]
theorem kn9 : (fam9.all fun q => chkA 9 q.1 q.2.1 fam9) = true := by decide +kernel
theorem fw9 : (fam9.all fun q => Nat.beq (maskE q.2.2) q.1 && Nat.beq (popF q.1) q.2.1 && q.2.2.all fun e => Nat.blt e 9) = true := by decide +kernel
theorem fr9 : (([1, 2, 3, 4, 5, 6] : List Int).all fun r0 => ([3, 1, 2, 4, 0, 127] : List Int).all fun r1 => ([0, 127, 2, 6] : List Int).all fun r2 => [2, 3, 4].all fun k => fam9.any fun q => Nat.beq (maskL 9 (0 :: scan 0 (siz r0 r1 r2 k))) q.1) = true := by decide +kernel
noncomputable def fam10 : List (Nat × Nat × List Nat) := [(3, 2, [0, 1]), (5, 2, [0, 2]), (7, 3, [0, 1, 2]), (9, 2, [0, 3]), (11, 3, [0, 1, 3]), (13, 3, [0, 2, 3]), (15, 4, [0, 1, 2, 3]), (17, 2, [0, 4]), (19, 3, [0, 1, 4]), (21, 3, [0, 2, 4]), (23, 4, [0, 1, 2, 4]), (25, 3, [0, 3, 4]), (29, 4, [0, 2, 3, 4]), (31, 5, [0, 1, 2, 3, 4]), (33, 2, [0, 5]), (35, 3, [0, 1, 5]), (37, 3, [0, 2, 5]), (39, 4, [0, 1, 2, 5]), (41, 3, [0, 3, 5]), (43, 4, [0, 1, 3, 5]), (45, 4, [0, 2, 3, 5]), (49, 3, [0, 4, 5]), (51, 4, [0, 1, 4, 5]), (57, 4, [0, 3, 4, 5]), (61, 5, [0, 2, 3, 4, 5]), (65, 2, [0, 6]), (69, 3, [0, 2, 6]), (73, 3, [0, 3, 6]), (77, 4, [0, 2, 3, 6]), (81, 3, [0, 4, 6]), (83, 4, [0, 1, 4, 6]), (85, 4, [0, 2, 4, 6]), (89, 4, [0, 3, 4, 6]), (97, 3, [0, 5, 6]), (101, 4, [0, 2, 5, 6]), (113, 4, [0, 4, 5, 6]), (121, 5, [0, 3, 4, 5, 6]), (137, 3, [0, 3, 7]), (139, 4, [0, 1, 3, 7]), (145, 3, [0, 4, 7]), (147, 4, [0, 1, 4, 7]), (153, 4, [0, 3, 4, 7]), (161, 3, [0, 5, 7]), (163, 4, [0, 1, 5, 7]), (165, 4, [0, 2, 5, 7]), (169, 4, [0, 3, 5, 7]), (171, 5, [0, 1, 3, 5, 7]), (177, 4, [0, 4, 5, 7]), (193, 3, [0, 6, 7]), (201, 4, [0, 3, 6, 7]), (225, 4, [0, 5, 6, 7]), (241, 5, [0, 4, 5, 6, 7]), (263, 4, [0, 1, 2, 8]), (273, 3, [0, 4, 8]), (277, 4, [0, 2, 4, 8]), (289, 3, [0, 5, 8]), (291, 4, [0, 1, 5, 8]), (293, 4, [0, 2, 5, 8]), (295, 5, [0, 1, 2, 5, 8]), (305, 4, [0, 4, 5, 8]), (307, 5, [0, 1, 4, 5, 8]), (321, 3, [0, 6, 8]), (325, 4, [0, 2, 6, 8]), (329, 4, [0, 3, 6, 8]), (337, 4, [0, 4, 6, 8]), (341, 5, [0, 2, 4, 6, 8]), (353, 4, [0, 5, 6, 8]), (449, 4, [0, 6, 7, 8]), (481, 5, [0, 5, 6, 7, 8]), (523, 4, [0, 1, 3, 9]), (525, 4, [0, 2, 3, 9]), (545, 3, [0, 5, 9]), (547, 4, [0, 1, 5, 9]), (553, 4, [0, 3, 5, 9]), (555, 5, [0, 1, 3, 5, 9]), (577, 3, [0, 6, 9]), (579, 4, [0, 1, 6, 9]), (581, 4, [0, 2, 6, 9]), (585, 4, [0, 3, 6, 9]), (589, 5, [0, 2, 3, 6, 9]), (609, 4, [0, 5, 6, 9]), (613, 5, [0, 2, 5, 6, 9]), (649, 4, [0, 3, 7, 9]), (657, 4, [0, 4, 7, 9]), (673, 4, [0, 5, 7, 9]), (675, 5, [0, 1, 5, 7, 9]), (681, 5, [0, 3, 5, 7, 9]), (705, 4, [0, 6, 7, 9]), (961, 5, [0, 6, 7, 8, 9])]
theorem kn10 : (fam10.all fun q => chkA 10 q.1 q.2.1 fam10) = true := by decide +kernel
theorem fw10 : (fam10.all fun q => Nat.beq (maskE q.2.2) q.1 && Nat.beq (popF q.1) q.2.1 && q.2.2.all fun e => Nat.blt e 10) = true := by decide +kernel
theorem fr10 : (([1, 2, 3, 4, 5, 6] : List Int).all fun r0 => ([3, 1, 2, 4, 0, 127] : List Int).all fun r1 => ([0, 127, 2, 6] : List Int).all fun r2 => [2, 3, 4].all fun k => fam10.any fun q => Nat.beq (maskL 10 (0 :: scan 0 (siz r0 r1 r2 k))) q.1) = true := by decide +kernel
noncomputable def fam12 : List (Nat × Nat × List Nat) := [(3, 2, [0, 1]), (5, 2, [0, 2]), (7, 3, [0, 1, 2]), (9, 2, [0, 3]), (11, 3, [0, 1, 3]), (13, 3, [0, 2, 3]), (15, 4, [0, 1, 2, 3]), (17, 2, [0, 4]), (19, 3, [0, 1, 4]), (21, 3, [0, 2, 4]), (23, 4, [0, 1, 2, 4]), (25, 3, [0, 3, 4]), (29, 4, [0, 2, 3, 4]), (31, 5, [0, 1, 2, 3, 4]), (33, 2, [0, 5]), (35, 3, [0, 1, 5]), (37, 3, [0, 2, 5]), (41, 3, [0, 3, 5]), (43, 4, [0, 1, 3, 5]), (45, 4, [0, 2, 3, 5]), (49, 3, [0, 4, 5]), (57, 4, [0, 3, 4, 5]), (61, 5, [0, 2, 3, 4, 5]), (65, 2, [0, 6]), (69, 3, [0, 2, 6]), (73, 3, [0, 3, 6]), (81, 3, [0, 4, 6]), (83, 4, [0, 1, 4, 6]), (85, 4, [0, 2, 4, 6]), (89, 4, [0, 3, 4, 6]), (97, 3, [0, 5, 6]), (113, 4, [0, 4, 5, 6]), (121, 5, [0, 3, 4, 5, 6]), (137, 3, [0, 3, 7]), (139, 4, [0, 1, 3, 7]), (145, 3, [0, 4, 7]), (147, 4, [0, 1, 4, 7]), (161, 3, [0, 5, 7]), (163, 4, [0, 1, 5, 7]), (165, 4, [0, 2, 5, 7]), (169, 4, [0, 3, 5, 7]), (171, 5, [0, 1, 3, 5, 7]), (177, 4, [0, 4, 5, 7]), (193, 3, [0, 6, 7]), (195, 4, [0, 1, 6, 7]), (225, 4, [0, 5, 6, 7]), (241, 5, [0, 4, 5, 6, 7]), (263, 4, [0, 1, 2, 8]), (273, 3, [0, 4, 8]), (277, 4, [0, 2, 4, 8]), (289, 3, [0, 5, 8]), (293, 4, [0, 2, 5, 8]), (321, 3, [0, 6, 8]), (325, 4, [0, 2, 6, 8]), (329, 4, [0, 3, 6, 8]), (337, 4, [0, 4, 6, 8]), (341, 5, [0, 2, 4, 6, 8]), (353, 4, [0, 5, 6, 8]), (449, 4, [0, 6, 7, 8]), (481, 5, [0, 5, 6, 7, 8]), (523, 4, [0, 1, 3, 9]), (525, 4, [0, 2, 3, 9]), (545, 3, [0, 5, 9]), (547, 4, [0, 1, 5, 9]), (553, 4, [0, 3, 5, 9]), (577, 3, [0, 6, 9]), (585, 4, [0, 3, 6, 9]), (649, 4, [0, 3, 7, 9]), (657, 4, [0, 4, 7, 9]), (673, 4, [0, 5, 7, 9]), (681, 5, [0, 3, 5, 7, 9]), (705, 4, [0, 6, 7, 9]), (961, 5, [0, 6, 7, 8, 9]), (1043, 4, [0, 1, 4, 10]), (1045, 4, [0, 2, 4, 10]), (1049, 4, [0, 3, 4, 10]), (1057, 3, [0, 5, 10]), (1065, 4, [0, 3, 5, 10]), (1089, 3, [0, 6, 10]), (1093, 4, [0, 2, 6, 10]), (1105, 4, [0, 4, 6, 10]), (1169, 4, [0, 4, 7, 10]), (1171, 5, [0, 1, 4, 7, 10]), (1297, 4, [0, 4, 8, 10]), (1313, 4, [0, 5, 8, 10]), (1321, 5, [0, 3, 5, 8, 10]), (1345, 4, [0, 6, 8, 10]), (1361, 5, [0, 4, 6, 8, 10]), (2083, 4, [0, 1, 5, 11]), (2085, 4, [0, 2, 5, 11]), (2089, 4, [0, 3, 5, 11]), (2097, 4, [0, 4, 5, 11]), (2185, 4, [0, 3, 7, 11]), (2337, 4, [0, 5, 8, 11]), (2341, 5, [0, 2, 5, 8, 11]), (2593, 4, [0, 5, 9, 11]), (2625, 4, [0, 6, 9, 11]), (2721, 5, [0, 5, 7, 9, 11])]
theorem kn12 : (fam12.all fun q => chkA 12 q.1 q.2.1 fam12) = true := by decide +kernel
theorem fw12 : (fam12.all fun q => Nat.beq (maskE q.2.2) q.1 && Nat.beq (popF q.1) q.2.1 && q.2.2.all fun e => Nat.blt e 12) = true := by decide +kernel
theorem fr12 : (([1, 2, 3, 4, 5, 6] : List Int).all fun r0 => ([3, 1, 2, 4, 0, 127] : List Int).all fun r1 => ([0, 127, 2, 6] : List Int).all fun r2 => [2, 3, 4].all fun k => fam12.any fun q => Nat.beq (maskL 12 (0 :: scan 0 (siz r0 r1 r2 k))) q.1) = true := by decide +kernel
noncomputable def popB (m : Nat) : Nat := Nat.add (Nat.mod (Nat.div m 1) 2) (Nat.add (Nat.mod (Nat.div m 2) 2) (Nat.add (Nat.mod (Nat.div m 4) 2) (Nat.add (Nat.mod (Nat.div m 8) 2) (Nat.add (Nat.mod (Nat.div m 16) 2) (Nat.add (Nat.mod (Nat.div m 32) 2) (Nat.add (Nat.mod (Nat.div m 64) 2) (Nat.add (Nat.mod (Nat.div m 128) 2) (Nat.add (Nat.mod (Nat.div m 256) 2) (Nat.add (Nat.mod (Nat.div m 512) 2) (Nat.add (Nat.mod (Nat.div m 1024) 2) (Nat.mod (Nat.div m 2048) 2)))))))))))
theorem popB_ok : ((List.range 4096).all fun m => Nat.beq (popB m) (popF m)) = true := by decide +kernel
theorem len_filter_bit (m k : Nat) (l : List Nat) : ((k :: l).filter fun k => Nat.testBit m k).length = m / 2 ^ k % 2 + (l.filter fun k => Nat.testBit m k).length := by
  rw [List.filter_cons, Nat.testBit_eq_decide_div_mod_eq]
  by_cases h : m / 2 ^ k % 2 = 1
  · rw [h]; simp; omega
  · have : m / 2 ^ k % 2 = 0 := by omega
    rw [this]; simp
theorem popB_eq (m : Nat) : ((List.range 12).filter fun k => Nat.testBit m k).length = popB m := by
  rw [show List.range 12 = [0, 1, 2, 3, 4, 5, 6, 7, 8, 9, 10, 11] from rfl]
  simp only [len_filter_bit, List.filter_nil, List.length_nil]
  rfl
end Mine
end PartPlK

section PartPlA
open PySem PySem.Spec PySem.Calls PySem.W PyProof.Rows
set_option Elab.async false
set_option maxRecDepth 100000
set_option maxHeartbeats 2000000
namespace Mine
theorem rangeKs_eq (n : Nat) : rangeKs 0 n = (List.range n).map fun (i : Nat) => (i : Int) := by
  simp [rangeKs]
noncomputable def takeS : Nat → (Nat → Option Int) → List Int
  | 0, _ => []
  | k + 1, st => match st 0 with
    | none => []
    | some v => v :: takeS k (fun n => st (n + 1))
noncomputable def runL (ring mk : Int) (ps : List Int) : List Int → List Int
  | [] => ps
  | v :: r => runL ring (mk + v) (insSorted ps ((mk + v) % ring)) r
theorem runP_L {ring : Int} (k : Nat) : ∀ (mk : Int) (ps : List Int) (st : Nat → Option Int), runP ring k mk ps st = runL ring mk ps (takeS k st) := by
  induction k with
  | zero => intro mk ps st; rfl
  | succ k ih =>
    intro mk ps st
    unfold runP takeS
    cases h : st 0 with
    | none => rfl
    | some v => exact ih _ _ _
theorem takeS_siz : (([1, 2, 3, 4, 5, 6] : List Int).all fun r0 => ([3, 1, 2, 4, 0, 127] : List Int).all fun r1 => ([0, 127, 2, 6] : List Int).all fun r2 => [2, 3, 4].all fun k => decide (takeS k (stream r0 r1 r2) = siz r0 r1 r2 k)) = true := by decide +kernel
theorem ins_perm (ps : List Int) (x : Int) : (insSorted ps x).Perm (x :: ps) := by
  unfold insSorted
  refine List.perm_middle.trans ?_
  rw [List.take_append_drop]
theorem runL_perm {ring : Int} (sz : List Int) : ∀ (mk : Int) (ps : List Int), (runL ring mk ps sz).Perm (ps ++ (scan mk sz).map (· % ring)) := by
  induction sz with
  | nil => intro mk ps; simp [runL, scan]
  | cons v r ih =>
    intro mk ps
    unfold runL scan
    refine (ih _ _).trans ?_
    rw [List.map_cons]
    refine (List.Perm.append_right _ (ins_perm _ _)).trans ?_
    exact List.perm_middle.symm
theorem runL_sorted {ring : Int} (sz : List Int) : ∀ (mk : Int) (ps : List Int), ps.Pairwise (· ≤ ·) → (runL ring mk ps sz).Pairwise (· ≤ ·) := by
  induction sz with
  | nil => intro mk ps h; exact h
  | cons v r ih => intro mk ps h; exact ih _ _ (ins_pairwise h)
theorem scan_take (sz : List Int) : ∀ start : Int, ((List.range (sz.length + 1)).map fun i => start + (sz.take i).sum) = start :: scan start sz := by
  induction sz with
  | nil => intro start; simp [scan]
  | cons v r ih =>
    intro start
    rw [List.length_cons, List.range_succ_eq_map, List.map_cons, List.map_map]
    unfold scan
    rw [← ih (start + v)]
    simp
    intro a _
    omega
theorem told_eq (start ring : Int) (sz : List Int) : ((rangeKs 0 (sz.length + 1)).map fun j => (start + (sz.take j.toNat).sum) % ring) = (start :: scan start sz).map (· % ring) := by
  rw [← scan_take sz start, rangeKs_eq, List.map_map, List.map_map]
  rfl
theorem scan_len (sz : List Int) : ∀ mk, (scan mk sz).length = sz.length := by
  induction sz with
  | nil => intro; rfl
  | cons v r ih => intro mk; simp [scan, ih]
-- counts
theorem cnt_split (ps : List Int) (k : Int) : cntLe ps k - cntLt ps k = ((ps.filter fun y => decide (y = k)).length : Int) := by
  unfold cntLe cntLt
  induction ps with
  | nil => rfl
  | cons a ps ih =>
    simp only [List.filter_cons]
    by_cases h1 : a < k
    · have h2 : a ≤ k := by omega
      have h3 : ¬ a = k := by omega
      simp [h1, h2, h3]; omega
    · by_cases h3 : a = k
      · subst h3
        simp; omega
      · have h2 : ¬ a ≤ k := by omega
        simp [h1, h2, h3]; omega
theorem dval_range (B : Int) (n : Nat) (f : Nat → Int) : dval B ((List.range (n + 1)).map f) = dval B ((List.range n).map f) + B ^ n * f n := by
  rw [List.range_succ, List.map_append, dval_append]
  simp [dval]
theorem dval_add (B : Int) (f g : Nat → Int) (n : Nat) : dval B ((List.range n).map fun i => f i + g i) = dval B ((List.range n).map f) + dval B ((List.range n).map g) := by
  induction n with
  | zero => rfl
  | succ n ih => rw [dval_range, dval_range, dval_range, ih, Int.mul_add]; omega
theorem dval_one (B : Int) (a : Nat) (n : Nat) : dval B ((List.range n).map fun i => if i = a then 1 else 0) = if a < n then B ^ a else 0 := by
  induction n with
  | zero => rfl
  | succ n ih =>
    rw [dval_range, ih]
    by_cases h : n = a
    · subst h; simp
    · by_cases h2 : a < n
      · rw [if_pos h2, if_neg h, if_pos (by omega)]; simp
      · rw [if_neg h2, if_neg h, if_neg (by omega)]; simp
theorem dval_cnt (n : Nat) (l : List Int) (h : ∀ x ∈ l, 0 ≤ x ∧ x < (n : Int)) : dval 64 ((List.range n).map fun (i : Nat) => ((l.filter fun y => decide (y = (i : Int))).length : Int)) = (l.map fun p => (64 : Int) ^ p.toNat).sum := by
  induction l with
  | nil =>
    simp only [List.filter_nil, List.length_nil, List.map_nil, List.sum_nil]
    clear h
    induction n with
    | zero => rfl
    | succ n ih => rw [dval_range, ih]; simp
  | cons a l ih =>
    have ha := h a (.head _)
    rw [List.map_cons, List.sum_cons, ← ih (fun x hx => h x (.tail _ hx))]
    have e := dval_one 64 a.toNat n
    rw [if_pos (by omega)] at e
    rw [← e, ← dval_add]
    congr 1
    apply List.map_congr_left
    intro i hi
    rw [List.filter_cons]
    by_cases h1 : a = (i : Int)
    · rw [if_pos (by simpa using h1), if_pos (by omega), List.length_cons]; omega
    · rw [if_neg (by simpa using h1), if_neg (by omega)]; omega
theorem num_eq (ring : Int) (h0 : 0 ≤ ring) (ps : List Int) (h : ∀ x ∈ ps, 0 ≤ x ∧ x < ring) : dval (2 ^ (6 : Int).toNat) ((rangeKs 0 ring.toNat).map fun k => cntLe ps k - cntLt ps k) = (ps.map fun p => (64 : Int) ^ p.toNat).sum := by
  rw [rangeKs_eq, List.map_map, show (2 : Int) ^ (6 : Int).toNat = 64 by decide, ← dval_cnt ring.toNat ps (fun x hx => by have := h x hx; omega)]
  congr 1
  apply List.map_congr_left
  intro i _
  exact cnt_split ps i
theorem sum_perm {l l' : List Int} (h : l.Perm l') : l.sum = l'.sum := by
  induction h with
  | nil => rfl
  | cons x _ ih => simp [ih]
  | swap x y l => simp; omega
  | trans _ _ a b => exact a.trans b

theorem rowOf (c : Int) : Row (r0Of c) (r1Of c) (r2Of c) := by
  have mem : ∀ (l : List Int) (i : Nat), i < l.length → l.getD i 0 ∈ l := fun l i hi => kso_getD hi
  refine ⟨?_, ?_, ?_⟩
  · unfold r0Of
    have h : 0 ≤ (c.fdiv 41).fmod 6 ∧ (c.fdiv 41).fmod 6 < 6 := by rw [Int.fmod_eq_emod_of_nonneg _ (by decide)]; omega
    obtain ⟨m, hm⟩ := Int.eq_ofNat_of_zero_le h.1
    rw [hm] at h ⊢
    have all : ∀ m : Nat, m < 6 → 1 + (m : Int) ∈ ([1, 2, 3, 4, 5, 6] : List Int) := by decide
    exact all m (Int.ofNat_lt.mp h.2)
  · refine mem _ _ ?_
    rw [Int.fmod_eq_emod_of_nonneg _ (by decide)]
    show _ < 6
    omega
  · refine mem _ _ ?_
    rw [Int.fmod_eq_emod_of_nonneg _ (by decide)]
    show _ < 4
    omega
theorem stream_row {r0 r1 r2 : Int} (h : Row r0 r1 r2) : ∀ n v, stream r0 r1 r2 n = some v → 1 ≤ v ∧ v ≤ 6 := by
  obtain ⟨a, b, c⟩ := h
  have ha : ∀ x ∈ ([1, 2, 3, 4, 5, 6] : List Int), 1 ≤ x ∧ x ≤ 6 := by decide
  have hb : ∀ x ∈ ([3, 1, 2, 4, 0, 127] : List Int), ¬ x = 127 → ¬ x = 0 → 1 ≤ x ∧ x ≤ 6 := by decide
  have hc : ∀ x ∈ ([0, 127, 2, 6] : List Int), ¬ x = 127 → ¬ x = 0 → 1 ≤ x ∧ x ≤ 6 := by decide
  intro n v hv
  match n with
  | 0 => cases hv; exact ha _ a
  | 1 =>
    simp only [stream] at hv
    repeat' split at hv
    all_goals first | (cases hv; done) | (cases hv; first | exact ha _ a | exact hb _ b (by assumption) (by assumption))
  | n + 2 =>
    simp only [stream] at hv
    repeat' split at hv
    all_goals first | (cases hv; done) | (cases hv; first | exact ha _ a | exact hb _ b (by assumption) (by assumption) | exact hc _ c (by assumption) (by assumption))
/-- the row's sizes, in use -/
theorem rf_of (ring c : Int) (hr : 4 ≤ ring ∧ ring ≤ 12) : ∃ (k : Nat) (ps : List Int), (2 ≤ k ∧ k ≤ 4) ∧ RF ring (startOf c) (manyOf c) (r0Of c) (r1Of c) (r2Of c) k ps ((startOf c :: scan (startOf c) (siz (r0Of c) (r1Of c) (r2Of c) k)).map (· % ring)) ∧
    ps.Perm ((startOf c :: scan (startOf c) (siz (r0Of c) (r1Of c) (r2Of c) k)).map (· % ring)) := by
  have hmod : 0 ≤ ((c.fdiv 41).fdiv 144).fmod 3 ∧ ((c.fdiv 41).fdiv 144).fmod 3 < 3 := by rw [Int.fmod_eq_emod_of_nonneg _ (by decide)]; omega
  have hm : 3 ≤ manyOf c ∧ manyOf c ≤ 5 := by unfold manyOf; omega
  have hs : -20 ≤ startOf c ∧ startOf c ≤ 20 := by
    unfold startOf
    rw [Int.fmod_eq_emod_of_nonneg _ (by decide)]
    omega
  obtain ⟨k, hk⟩ : ∃ k : Nat, manyOf c - 1 = (k : Int) := ⟨(manyOf c - 1).toNat, by omega⟩
  have hk2 : 2 ≤ k ∧ k ≤ 4 := by omega
  have row := rowOf c
  have hr0 : 1 ≤ r0Of c ∧ r0Of c ≤ 6 := stream_row row 0 _ rfl
  have htk : takeS k (stream (r0Of c) (r1Of c) (r2Of c)) = siz (r0Of c) (r1Of c) (r2Of c) k := by
    have a := takeS_siz
    rw [List.all_eq_true] at a
    have a := a _ row.1
    rw [List.all_eq_true] at a
    have a := a _ row.2.1
    rw [List.all_eq_true] at a
    have a := a _ row.2.2
    rw [List.all_eq_true] at a
    exact of_decide_eq_true (a k (by simp only [List.mem_cons, List.not_mem_nil, or_false]; omega))
  have hP : runP ring (manyOf c - 1).toNat (startOf c) [startOf c % ring] (stream (r0Of c) (r1Of c) (r2Of c)) = runL ring (startOf c) [startOf c % ring] (siz (r0Of c) (r1Of c) (r2Of c) k) := by
    rw [hk, Int.toNat_natCast, runP_L, htk]
  have hsl : (siz (r0Of c) (r1Of c) (r2Of c) k).length ≤ 4 := Nat.le_trans siz_len hk2.2
  have hperm : (runL ring (startOf c) [startOf c % ring] (siz (r0Of c) (r1Of c) (r2Of c) k)).Perm ((startOf c :: scan (startOf c) (siz (r0Of c) (r1Of c) (r2Of c) k)).map (· % ring)) := runL_perm _ _ _
  have hso : (runL ring (startOf c) [startOf c % ring] (siz (r0Of c) (r1Of c) (r2Of c) k)).Pairwise (· ≤ ·) := runL_sorted _ _ _ (List.pairwise_singleton _ _)
  have htl : ((startOf c :: scan (startOf c) (siz (r0Of c) (r1Of c) (r2Of c) k)).map (· % ring)).length ≤ 5 := by
    rw [List.length_map, List.length_cons, scan_len]; omega
  have hbt : ∀ x ∈ (startOf c :: scan (startOf c) (siz (r0Of c) (r1Of c) (r2Of c) k)).map (· % ring), 0 ≤ x ∧ x < ring := by
    intro x hx
    obtain ⟨y, _, rfl⟩ := List.mem_map.mp hx
    exact ⟨Int.emod_nonneg _ (by omega), Int.emod_lt_of_pos _ (by omega)⟩
  have hbp : ∀ x ∈ runL ring (startOf c) [startOf c % ring] (siz (r0Of c) (r1Of c) (r2Of c) k), 0 ≤ x ∧ x < ring := fun x hx => hbt x (hperm.mem_iff.mp hx)
  refine ⟨k, _, hk2, ⟨row, hr0, stream_row row, hs, by omega, hk, hk2.2, hP, told_eq _ _ _, ?_, htl, ?_, hso, ?_, fun x hx => by have := hbt x hx; omega, ?_⟩, hperm⟩
  · rw [hperm.length_eq]; exact htl
  · intro l hl hlo
    exact List.Perm.eq_of_pairwise (fun a b _ _ h1 h2 => Int.le_antisymm h1 h2) hlo hso (hl.trans hperm.symm)
  · intro d hd
    obtain ⟨x, _, rfl⟩ := List.mem_map.mp hd
    rw [cnt_split]
    have h1 := List.length_filter_le (fun y => decide (y = x)) (runL ring (startOf c) [startOf c % ring] (siz (r0Of c) (r1Of c) (r2Of c) k))
    have h2 := hperm.length_eq
    have h3 : (2 : Int) ^ (6 : Int).toNat = 64 := by decide
    omega
  · rw [num_eq ring (by omega) _ hbp]
    exact sum_perm (hperm.symm.map _)
end Mine
end PartPlA

section PartPlB
open PySem PySem.Spec PySem.Calls PySem.W PyProof.Rows
set_option Elab.async false
set_option maxRecDepth 100000
set_option maxHeartbeats 2000000
namespace Mine
theorem dval_set (B : Int) (ns : List Int) : ∀ (k : Nat), k < ns.length → dval B (ns.set k (ns.getD k 0 + 1)) = dval B ns + B ^ k := by
  induction ns with
  | nil => intro k hk; simp at hk
  | cons a ns ih =>
    intro k hk
    cases k with
    | zero => simp [dval]; omega
    | succ k =>
      have e := ih k (by simpa using hk)
      simp only [List.set_cons_succ, List.getD_cons_succ, dval]
      rw [e, Int.mul_add, Int.pow_succ, Int.mul_comm (B ^ k) B]
      omega
theorem dval_inc {B : Int} {ns : List Int} {k : Int} (h0 : 0 ≤ k) (h : k < ns.length) : dval B (inc ns k) = dval B ns + B ^ k.toNat := dval_set B ns k.toNat (by omega)
theorem sum_set1 (ns : List Int) : ∀ (k : Nat), k < ns.length → (ns.set k (ns.getD k 0 + 1)).sum = ns.sum + 1 := by
  induction ns with
  | nil => intro k hk; simp at hk
  | cons a ns ih =>
    intro k hk
    cases k with
    | zero => simp; omega
    | succ k =>
      have e := ih k (by simpa using hk)
      simp only [List.set_cons_succ, List.getD_cons_succ, List.sum_cons, e]
      omega
theorem nonneg_set (ns : List Int) (h : ∀ d ∈ ns, 0 ≤ d) : ∀ (k : Nat), ∀ d ∈ ns.set k (ns.getD k 0 + 1), 0 ≤ d := by
  intro k d hd
  rcases List.mem_or_eq_of_mem_set hd with h1 | h1
  · exact h d h1
  · rw [h1]
    by_cases hk : k < ns.length
    · have := h _ (kso_getD (l := ns) hk); omega
    · have e : ns.getD k 0 = 0 := by
        rw [List.getD_eq_getElem?_getD, List.getElem?_eq_none (by omega)]; rfl
      omega
theorem sum_nonneg (ns : List Int) (h : ∀ d ∈ ns, 0 ≤ d) : 0 ≤ ns.sum := by
  induction ns with
  | nil => simp
  | cons a ns ih =>
    have := h a (.head _)
    have := ih fun d hd => h d (.tail _ hd)
    simp; omega
theorem le_sum (ns : List Int) (h : ∀ d ∈ ns, 0 ≤ d) : ∀ d ∈ ns, d ≤ ns.sum := by
  induction ns with
  | nil => intro d hd; cases hd
  | cons a ns ih =>
    have h1 := h a (.head _)
    have h2 := sum_nonneg ns fun d hd => h d (.tail _ hd)
    intro d hd
    rw [List.sum_cons]
    rcases List.mem_cons.mp hd with rfl | hd
    · omega
    · have := ih (fun d hd => h d (.tail _ hd)) d hd
      omega
-- the folds
noncomputable def S2 (f : Int → Int → Int) (ps qs : List Int) : Int := (ps.map fun a => (qs.map fun b => f a b).sum).sum
noncomputable def fW (ring a b : Int) : Int := 64 ^ ((a + b) % ring).toNat
noncomputable def fB (ring a b : Int) : Int := if ring ≤ a + b then 64 ^ (a + b - ring).toNat else 0
section
variable {ring : Int} (hr : 4 ≤ ring ∧ ring ≤ 12)
include hr
theorem rowW_dval (a : Int) (qs : List Int) : ∀ ws : List Int, (ws.length : Int) = ring → dval 64 (rowW ring qs ws a) = dval 64 ws + (qs.map fun b => fW ring a b).sum := by
  induction qs with
  | nil => intro ws _; simp [rowW]
  | cons b qs ih =>
    intro ws hl
    show dval 64 (rowW ring qs (incW ring ws a b) a) = _
    rw [ih _ (by rw [incW_len]; exact hl), List.map_cons, List.sum_cons]
    have e : dval 64 (incW ring ws a b) = dval 64 ws + fW ring a b := dval_inc (Int.emod_nonneg _ (by omega)) (by rw [hl]; exact Int.emod_lt_of_pos _ (by omega))
    rw [e]; omega
theorem allW_dval (ps qs : List Int) : ∀ ws : List Int, (ws.length : Int) = ring → dval 64 (allW ring ps qs ws) = dval 64 ws + S2 (fW ring) ps qs := by
  induction ps with
  | nil => intro ws _; simp [allW, S2]
  | cons a ps ih =>
    intro ws hl
    show dval 64 (allW ring ps qs (rowW ring qs ws a)) = _
    rw [ih _ (by rw [rowW_len]; exact hl), rowW_dval hr a qs ws hl]
    simp only [S2, List.map_cons, List.sum_cons]
    omega
theorem incB_dval {a b : Int} {bs : List Int} (ha : 0 ≤ a ∧ a < ring) (hb : 0 ≤ b ∧ b < ring) (hl : (bs.length : Int) = ring) : dval 64 (incB ring bs a b) = dval 64 bs + fB ring a b := by
  unfold incB fB
  split
  · exact dval_inc (by omega) (by omega)
  · omega
theorem rowB_dval (a : Int) (ha : 0 ≤ a ∧ a < ring) (qs : List Int) (hq : ∀ b ∈ qs, 0 ≤ b ∧ b < ring) : ∀ ws : List Int, (ws.length : Int) = ring → dval 64 (rowB ring qs ws a) = dval 64 ws + (qs.map fun b => fB ring a b).sum := by
  induction qs with
  | nil => intro ws _; simp [rowB]
  | cons b qs ih =>
    intro ws hl
    show dval 64 (rowB ring qs (incB ring ws a b) a) = _
    rw [ih (fun b hb => hq b (.tail _ hb)) _ (by rw [incB_len]; exact hl), List.map_cons, List.sum_cons, incB_dval hr ha (hq b (.head _)) hl]; omega
theorem allB_dval (ps qs : List Int) (hp : ∀ a ∈ ps, 0 ≤ a ∧ a < ring) (hq : ∀ b ∈ qs, 0 ≤ b ∧ b < ring) : ∀ ws : List Int, (ws.length : Int) = ring → dval 64 (allB ring ps qs ws) = dval 64 ws + S2 (fB ring) ps qs := by
  induction ps with
  | nil => intro ws _; simp [allB, S2]
  | cons a ps ih =>
    intro ws hl
    show dval 64 (allB ring ps qs (rowB ring qs ws a)) = _
    rw [ih (fun b hb => hp b (.tail _ hb)) _ (by rw [rowB_len]; exact hl), rowB_dval hr a (hp a (.head _)) qs hq ws hl]
    simp only [S2, List.map_cons, List.sum_cons]
    omega
theorem rowW_dig (a : Int) (qs : List Int) : ∀ ws : List Int, (ws.length : Int) = ring → (∀ d ∈ ws, 0 ≤ d) → (∀ d ∈ rowW ring qs ws a, 0 ≤ d) ∧ (rowW ring qs ws a).sum = ws.sum + qs.length := by
  induction qs with
  | nil => intro ws _ h; exact ⟨h, by simp [rowW]⟩
  | cons b qs ih =>
    intro ws hl h
    have hk : ((a + b) % ring).toNat < ws.length := by
      have h1 := Int.emod_nonneg (a + b) (show ring ≠ 0 by omega)
      have h2 := Int.emod_lt_of_pos (a + b) (show 0 < ring by omega)
      omega
    have := ih (incW ring ws a b) (by rw [incW_len]; exact hl) (nonneg_set ws h _)
    refine ⟨this.1, ?_⟩
    show (rowW ring qs (incW ring ws a b) a).sum = _
    rw [this.2, show (incW ring ws a b).sum = ws.sum + 1 from sum_set1 ws _ hk, List.length_cons]
    omega
theorem allW_dig (ps qs : List Int) : ∀ ws : List Int, (ws.length : Int) = ring → (∀ d ∈ ws, 0 ≤ d) → (∀ d ∈ allW ring ps qs ws, 0 ≤ d) ∧ (allW ring ps qs ws).sum = ws.sum + ps.length * qs.length := by
  induction ps with
  | nil => intro ws _ h; exact ⟨h, by simp [allW]⟩
  | cons a ps ih =>
    intro ws hl h
    have h1 := rowW_dig hr a qs ws hl h
    have h2 := ih (rowW ring qs ws a) (by rw [rowW_len]; exact hl) h1.1
    refine ⟨h2.1, ?_⟩
    show (allW ring ps qs (rowW ring qs ws a)).sum = _
    rw [h2.2, h1.2, List.length_cons]
    push_cast
    rw [Int.add_mul]
    omega
theorem incB_dig {a b : Int} {bs : List Int} (ha : 0 ≤ a ∧ a < ring) (hb : 0 ≤ b ∧ b < ring) (hl : (bs.length : Int) = ring) (h : ∀ d ∈ bs, 0 ≤ d) : (∀ d ∈ incB ring bs a b, 0 ≤ d) ∧ (incB ring bs a b).sum ≤ bs.sum + 1 := by
  unfold incB
  split
  · exact ⟨nonneg_set bs h _, Int.le_of_eq (sum_set1 bs _ (by omega))⟩
  · exact ⟨h, by omega⟩
theorem rowB_dig (a : Int) (ha : 0 ≤ a ∧ a < ring) (qs : List Int) (hq : ∀ b ∈ qs, 0 ≤ b ∧ b < ring) : ∀ ws : List Int, (ws.length : Int) = ring → (∀ d ∈ ws, 0 ≤ d) → (∀ d ∈ rowB ring qs ws a, 0 ≤ d) ∧ (rowB ring qs ws a).sum ≤ ws.sum + qs.length := by
  induction qs with
  | nil => intro ws _ h; exact ⟨h, by simp [rowB]⟩
  | cons b qs ih =>
    intro ws hl h
    have h1 := incB_dig hr ha (hq b (.head _)) hl h
    have h2 := ih (fun b hb => hq b (.tail _ hb)) (incB ring ws a b) (by rw [incB_len]; exact hl) h1.1
    refine ⟨h2.1, ?_⟩
    show (rowB ring qs (incB ring ws a b) a).sum ≤ _
    have := h2.2
    have := h1.2
    rw [List.length_cons]
    push_cast
    omega
theorem allB_dig (ps qs : List Int) (hp : ∀ a ∈ ps, 0 ≤ a ∧ a < ring) (hq : ∀ b ∈ qs, 0 ≤ b ∧ b < ring) : ∀ ws : List Int, (ws.length : Int) = ring → (∀ d ∈ ws, 0 ≤ d) → (∀ d ∈ allB ring ps qs ws, 0 ≤ d) ∧ (allB ring ps qs ws).sum ≤ ws.sum + ps.length * qs.length := by
  induction ps with
  | nil => intro ws _ h; exact ⟨h, by simp [allB]⟩
  | cons a ps ih =>
    intro ws hl h
    have h1 := rowB_dig hr a (hp a (.head _)) qs hq ws hl h
    have h2 := ih (fun b hb => hp b (.tail _ hb)) (rowB ring qs ws a) (by rw [rowB_len]; exact hl) h1.1
    refine ⟨h2.1, ?_⟩
    show (allB ring ps qs (rowB ring qs ws a)).sum ≤ _
    have := h2.2
    have := h1.2
    rw [List.length_cons]
    push_cast
    rw [Int.add_mul]
    omega
theorem pair_pow {a b : Int} (ha : 0 ≤ a ∧ a < ring) (hb : 0 ≤ b ∧ b < ring) : (64 : Int) ^ a.toNat * 64 ^ b.toNat = fW ring a b + fB ring a b * Mo ring := by
  rw [← Int.pow_add]
  unfold fW fB Mo
  by_cases h : ring ≤ a + b
  · rw [if_pos h]
    have e1 : (a + b) % ring = a + b - ring := by
      rw [← Int.sub_emod_right (a + b) ring]
      exact Int.emod_eq_of_lt (by omega) (by omega)
    rw [e1, Int.mul_sub, ← Int.pow_add, show (a + b - ring).toNat + ring.toNat = a.toNat + b.toNat by rw [← Int.toNat_add ha.1 hb.1, toNat_to (l := ring) (Int.le_trans ha.1 (Int.le_of_lt ha.2)) h, Nat.add_comm]]
    omega
  · rw [if_neg h]
    have e1 : (a + b) % ring = a + b := Int.emod_eq_of_lt (by omega) (by omega)
    rw [e1, show (a + b).toNat = a.toNat + b.toNat from Int.toNat_add ha.1 hb.1]
    omega
omit hr
theorem sum_mul (x : Int) (ys : List Int) : x * ys.sum = (ys.map fun y => x * y).sum := by
  induction ys with
  | nil => simp
  | cons y ys ih => simp only [List.sum_cons, List.map_cons, Int.mul_add, ih]
theorem mul_S2 (f g : Int → Int) (ps qs : List Int) : (ps.map f).sum * (qs.map g).sum = S2 (fun a b => f a * g b) ps qs := by
  unfold S2
  induction ps with
  | nil => simp
  | cons a ps ih =>
    simp only [List.map_cons, List.sum_cons, Int.add_mul, ih]
    congr 1
    rw [sum_mul, List.map_map]
    rfl
theorem S2_lin (f g h : Int → Int → Int) (c : Int) (ps qs : List Int) (e : ∀ a ∈ ps, ∀ b ∈ qs, f a b = g a b + h a b * c) : S2 f ps qs = S2 g ps qs + S2 h ps qs * c := by
  have row : ∀ a ∈ ps, (qs.map fun b => f a b).sum = (qs.map fun b => g a b).sum + (qs.map fun b => h a b).sum * c := by
    intro a ha
    have e1 := e a ha
    clear e
    induction qs with
    | nil => simp
    | cons b qs ih =>
      simp only [List.map_cons, List.sum_cons]
      rw [ih (fun b hb => e1 b (.tail _ hb)), e1 b (.head _), Int.add_mul]
      omega
  unfold S2
  clear e
  induction ps with
  | nil => simp
  | cons a ps ih =>
    simp only [List.map_cons, List.sum_cons]
    rw [ih (fun a ha => row a (.tail _ ha)), row a (.head _), Int.add_mul]
    omega
end

-- digits
theorem dval_compl (ds : List Int) : dval 64 ds + dval 64 (ds.map fun c => 63 - c) = 64 ^ ds.length - 1 := by
  induction ds with
  | nil => rfl
  | cons d ds ih =>
    simp only [List.map_cons, dval, List.length_cons, Int.pow_succ]
    omega
theorem dval_pos {ds : List Int} (h : ∀ d ∈ ds, 1 ≤ d ∧ d < 64) (hl : 0 < ds.length) : 0 < dval 64 ds := by
  cases ds with
  | nil => simp at hl
  | cons d ds =>
    have h1 := h d (.head _)
    have h2 := (dval_bound (B := 64) (by decide) ds fun x hx => by have := h x (.tail _ hx); omega).1
    simp only [dval]
    omega
theorem bits_exact {x : Int} {k : Nat} (h0 : (64 : Int) ^ k ≤ x) (h1 : x < 64 ^ (k + 1)) : i2dLen x 6 = k + 1 := by
  have e : ∀ j : Nat, (64 : Int) ^ j = 2 ^ (6 * j) := fun j => by rw [show (64 : Int) = 2 ^ 6 by decide, ← Int.pow_mul]
  have hp : (0 : Int) < 64 ^ k := Int.pow_pos (by decide)
  rw [e] at h0 h1
  have hx : 0 < x := by rw [e] at hp; omega
  have b1 := (bits_lt_iff hx).mpr h1
  have b2 : ¬ Builtin.Int.intBits x ≤ 6 * k := fun h => by
    have := (bits_lt_iff hx).mp h
    omega
  unfold i2dLen
  rw [Int.fdiv_eq_ediv_of_nonneg _ (by decide)]
  omega
theorem i2d_keep {ds : List Int} (h : ∀ d ∈ ds, 0 ≤ d ∧ d < 64) {init : List Int} {a : Int} (e : ds = init ++ [a]) (ha : a ≠ 0) : i2d (dval 64 ds) 6 = ds := by
  have hb := dval_bound (B := 64) (by decide) ds h
  have hl : ds.length = init.length + 1 := by rw [e]; simp
  have hlo : (64 : Int) ^ init.length ≤ dval 64 ds := by
    rw [e, dval_append]
    have h1 := (dval_bound (B := 64) (by decide) init fun d hd => h d (by rw [e]; exact List.mem_append_left _ hd)).1
    have h2 := h a (by rw [e]; simp)
    have h3 : (64 : Int) ^ init.length * 1 ≤ 64 ^ init.length * dval 64 [a] := Int.mul_le_mul_of_nonneg_left (by simp only [dval]; omega) (Int.le_of_lt (Int.pow_pos (by decide)))
    omega
  unfold i2d
  rw [show (2 : Int) ^ (6 : Int).toNat = 64 by decide, bits_exact hlo (by rw [← hl]; exact hb.2), ← hl]
  exact digs_dval (by decide) ds h
theorem bare_split (ds : List Int) : ∃ zs, ds = bareOf ds ++ zs ∧ (∀ z ∈ zs, z = 0) ∧ (bareOf ds = [] ∨ ∃ init a, bareOf ds = init ++ [a] ∧ a ≠ 0) := by
  have key : ∀ n (ds : List Int), ds.length = n → ∃ zs, ds = bareOf ds ++ zs ∧ (∀ z ∈ zs, z = 0) ∧ (bareOf ds = [] ∨ ∃ init a, bareOf ds = init ++ [a] ∧ a ≠ 0) := by
    intro n
    induction n with
    | zero =>
      intro ds hl
      rw [List.eq_nil_of_length_eq_zero hl]
      exact ⟨[], rfl, fun _ h => (nomatch h), .inl rfl⟩
    | succ n ih =>
      intro ds hl
      obtain ⟨init, a, rfl⟩ := bare_last (ns := ds) (by omega)
      by_cases ha : a = 0
      · subst ha
        have e : bareOf (init ++ [0]) = bareOf init := by simp [bareOf]
        obtain ⟨zs, h1, h2, h3⟩ := ih init (by simpa using hl)
        rw [e]
        refine ⟨zs ++ [0], ?_, ?_, h3⟩
        · rw [← List.append_assoc, ← h1]
        · intro z hz
          rcases List.mem_append.mp hz with hz | hz
          · exact h2 z hz
          · simpa using hz
      · have e : bareOf (init ++ [a]) = init ++ [a] := by simp [bareOf, ha]
        rw [e]
        exact ⟨[], by simp, fun _ h => (nomatch h), .inr ⟨init, a, rfl, ha⟩⟩
  exact key _ ds rfl
theorem dval_zeros (zs : List Int) (h : ∀ z ∈ zs, z = 0) : dval 64 zs = 0 := by
  induction zs with
  | nil => rfl
  | cons z zs ih =>
    simp only [dval]
    rw [h z (.head _), ih fun x hx => h x (.tail _ hx)]; rfl
theorem i2d_bare {ds : List Int} (h : ∀ d ∈ ds, 0 ≤ d ∧ d < 64) : i2d (dval 64 ds) 6 = bareOf ds := by
  obtain ⟨zs, h1, h2, h3⟩ := bare_split ds
  have e : dval 64 ds = dval 64 (bareOf ds) := by
    have : dval 64 ds = dval 64 (bareOf ds ++ zs) := by rw [← h1]
    rw [this, dval_append, dval_zeros zs h2]; omega
  rw [e]
  rcases h3 with h3 | ⟨init, a, h3, ha⟩
  · rw [h3]
    show i2d 0 6 = []
    unfold i2d
    rw [i2d_zero (by decide)]
    rfl
  · exact i2d_keep (fun d hd => h d (by rw [h1]; exact List.mem_append_left _ hd)) h3 ha
theorem bitsK {x : Int} (h0 : 0 ≤ x) (h : x < 64 ^ 12) : ((Builtin.Int.intBits x : Int) + 6 - 1).fdiv 6 ≤ 200 := by
  have := bits_le (k := 72) h0 (by rw [show (2 : Int) ^ 72 = 64 ^ 12 by decide]; exact h)
  rw [Int.fdiv_eq_ediv_of_nonneg _ (by decide)]
  omega
theorem num_nonneg {ring : Int} {ps : List Int} (hr : 4 ≤ ring ∧ ring ≤ 12) (hds : ∀ d ∈ (rangeKs 0 ring.toNat).map (fun k => cntLe ps k - cntLt ps k), 0 ≤ d ∧ d < 2 ^ (6 : Int).toNat) : 0 ≤ numOf ring ps ∧ numOf ring ps < 64 ^ ring.toNat := by
  have h := dval_bound (B := 2 ^ (6 : Int).toNat) (by decide) _ hds
  rw [List.length_map, rangeKs_length] at h
  exact h
theorem pow_le12 {ring : Int} (hr : 4 ≤ ring ∧ ring ≤ 12) : (64 : Int) ^ ring.toNat ≤ 64 ^ 12 ∧ (64 : Int) ^ 4 ≤ 64 ^ ring.toNat := by
  have all : ∀ k : Nat, k < 13 → 4 ≤ k → (64 : Int) ^ k ≤ 64 ^ 12 ∧ (64 : Int) ^ 4 ≤ 64 ^ k := by decide +kernel
  exact all _ (by omega) (by omega)
theorem S2_pos {f : Int → Int → Int} (hf : ∀ a b, 0 < f a b) {ps qs : List Int} (hp : 0 < ps.length) (hq : 0 < qs.length) : 0 < S2 f ps qs := by
  have nn : ∀ (a : Int) (qs : List Int), 0 ≤ (qs.map fun b => f a b).sum := fun a qs => sum_nonneg _ fun d hd => by
    obtain ⟨b, _, rfl⟩ := List.mem_map.mp hd
    exact Int.le_of_lt (hf a b)
  unfold S2
  cases ps with
  | nil => simp at hp
  | cons a ps =>
    cases qs with
    | nil => simp at hq
    | cons b qs =>
      have h1 : 0 ≤ (ps.map fun a => ((b :: qs).map fun b => f a b).sum).sum := sum_nonneg _ fun d hd => by
        obtain ⟨a, _, rfl⟩ := List.mem_map.mp hd
        exact nn a _
      have h2 := nn a qs
      have h3 := hf a b
      rw [List.map_cons, List.sum_cons, List.map_cons, List.sum_cons]
      omega
/-- the numbers of the law -/
structure NumFacts (ring : Int) (ps qs : List Int) : Prop where
  hw : ∀ d ∈ waysOf ring ps qs, 0 ≤ d ∧ d ≤ 25
  hv : ∀ d ∈ beyOf ring ps qs, 0 ≤ d ∧ d ≤ 25
  hwl : (waysOf ring ps qs).length = ring.toNat
  hvl : (beyOf ring ps qs).length = ring.toNat
  hprod : prodOf ring ps qs = dval 64 (waysOf ring ps qs) + Mo ring * dval 64 (beyOf ring ps qs)
  hw0 : 0 < dval 64 (waysOf ring ps qs)
  hw1 : dval 64 (waysOf ring ps qs) < Mo ring
theorem num_facts {ring : Int} {ps qs : List Int} (hr : 4 ≤ ring ∧ ring ≤ 12) (hp : ∀ a ∈ ps, 0 ≤ a ∧ a < ring) (hq : ∀ b ∈ qs, 0 ≤ b ∧ b < ring) (lp : 0 < ps.length ∧ ps.length ≤ 5) (lq : 0 < qs.length ∧ qs.length ≤ 5) : NumFacts ring ps qs := by
  have hrep : (((List.replicate ring.toNat (0 : Int)).length : Nat) : Int) = ring := by rw [List.length_replicate]; omega
  have hz : ∀ d ∈ List.replicate ring.toNat (0 : Int), 0 ≤ d := fun d hd => by rw [(List.mem_replicate.mp hd).2]; decide
  have hs0 : (List.replicate ring.toNat (0 : Int)).sum = 0 := by
    induction ring.toNat with
    | zero => rfl
    | succ n ih => rw [List.replicate_succ, List.sum_cons, ih]; rfl
  have hd0 : dval 64 (List.replicate ring.toNat (0 : Int)) = 0 := dval_zeros _ fun z hz => (List.mem_replicate.mp hz).2
  have hmul : (ps.length : Int) * qs.length ≤ 25 := by
    have : ps.length * qs.length ≤ 5 * 5 := Nat.mul_le_mul lp.2 lq.2
    exact_mod_cast this
  have w1 := allW_dig hr ps qs _ hrep hz
  have b1 := allB_dig hr ps qs hp hq _ hrep hz
  have dw := allW_dval hr ps qs _ hrep
  have db := allB_dval hr ps qs hp hq _ hrep
  rw [hd0, Int.zero_add] at dw db
  have hw : ∀ d ∈ waysOf ring ps qs, 0 ≤ d ∧ d ≤ 25 := fun d hd => ⟨w1.1 d hd, by have := le_sum _ w1.1 d hd; have := w1.2; omega⟩
  have hv : ∀ d ∈ beyOf ring ps qs, 0 ≤ d ∧ d ≤ 25 := fun d hd => ⟨b1.1 d hd, by have := le_sum _ b1.1 d hd; have := b1.2; omega⟩
  have hwl : (waysOf ring ps qs).length = ring.toNat := by unfold waysOf; rw [allW_len, List.length_replicate]
  have hvl : (beyOf ring ps qs).length = ring.toNat := by unfold beyOf; rw [allB_len, List.length_replicate]
  have hc := dval_compl (waysOf ring ps qs)
  have hcp : 0 < dval 64 ((waysOf ring ps qs).map fun c => 63 - c) := dval_pos (fun d hd => by
    obtain ⟨x, hx, rfl⟩ := List.mem_map.mp hd
    have := hw x hx
    omega) (by rw [List.length_map, hwl]; omega)
  refine ⟨hw, hv, hwl, hvl, ?_, ?_, ?_⟩
  · unfold prodOf numOf
    rw [num_eq ring (by omega) ps hp, num_eq ring (by omega) qs hq, mul_S2, S2_lin (fun a b => (64 : Int) ^ a.toNat * 64 ^ b.toNat) (fW ring) (fB ring) (Mo ring) ps qs (fun a ha b hb => pair_pow hr (hp a ha) (hq b hb))]
    show _ = dval 64 (allW ring ps qs _) + Mo ring * dval 64 (allB ring ps qs _)
    rw [dw, db, Int.mul_comm (Mo ring)]
  · show 0 < dval 64 (allW ring ps qs _)
    rw [dw]
    exact S2_pos (fun a b => Int.pow_pos (by decide)) lp.1 lq.1
  · rw [hwl] at hc
    unfold Mo
    omega
end Mine
end PartPlB

section PartPlC
open PySem PySem.Spec PySem.Calls PySem.W PyProof.Rows
set_option Elab.async false
set_option maxRecDepth 100000
set_option maxHeartbeats 2000000
namespace Mine
noncomputable def codeOf (c : Int) : Nat := if 0 < c then 43 else 45
theorem signOf_cps (c : Int) : (signOf c).cps.toList = [codeOf c] := by
  unfold signOf codeOf
  by_cases h : 0 < c
  · rw [if_pos h, if_pos h]; decide
  · rw [if_neg h, if_neg h]; decide
theorem join_cps (l : List Str) : (Str.join (Str.ofString "") l).cps.toList = l.flatMap fun x => x.cps.toList := by
  have h0 : (Str.ofString "").cps = #[] := by decide
  induction l with
  | nil => rfl
  | cons x l ih =>
    cases l with
    | nil => simp [Str.join]
    | cons y l =>
      show (x ++ Str.ofString "" ++ Str.join (Str.ofString "") (y :: l)).cps.toList = _
      rw [Str.cps_append, Str.cps_append, h0, Array.append_empty, Array.toList_append, ih]
      rfl
theorem signs_cps (ws : List Int) : (signsOf ws).cps.toList = ws.map codeOf := by
  unfold signsOf
  show (Builtin.Str.glued (Str.ofString "") (ws.map signOf)).cps.toList = _
  rw [StrLaws.glued_eq_join, join_cps]
  induction ws with
  | nil => rfl
  | cons c ws ih => simp only [List.map_cons, List.flatMap_cons, ih, signOf_cps]; rfl
theorem signs_len (ws : List Int) : (signsOf ws).length = ws.length := by
  show (signsOf ws).cps.size = _
  rw [← Array.length_toList, signs_cps, List.length_map]
theorem rot_cps {x : Str} {k : Int} (h0 : 0 ≤ k) (h1 : k ≤ x.cps.toList.length) : (rotS x k).cps.toList = x.cps.toList.drop k.toNat ++ x.cps.toList.take k.toNat := by
  have e1 : Txt.slice x (some k) none = ⟨((x.cps.toList.drop k.toNat).take ((x.cps.toList.length : Int) - k).toNat).toArray⟩ := StrLaws.sliceText_from ⟨h0, h1⟩
  have e2 : Txt.slice x none (some k) = ⟨((x.cps.toList.drop 0).take (k - 0).toNat).toArray⟩ := StrLaws.sliceText_to ⟨h0, h1⟩
  unfold rotS
  rw [e1, e2, Str.cps_append, Array.toList_append]
  simp only [List.drop_zero]
  congr 1
  · rw [List.take_of_length_le]
    rw [List.length_drop]
    exact Nat.le_of_eq (toNat_subs h0 h1).symm
  · congr 1
    omega
/-- k places on, the row is the same -/
noncomputable def Per (n : Nat) (p : Nat → Nat) (k : Nat) : Prop := ∀ i, i < n → p ((i + k) % n) = p i
theorem rot_list {α : Type} (L : List α) (k : Nat) (hk : k ≤ L.length) (d : α) : (L.drop k ++ L.take k = L) ↔ ∀ i, i < L.length → L.getD ((i + k) % L.length) d = L.getD i d := by
  have key : ∀ i, i < L.length → (L.drop k ++ L.take k).getD i d = L.getD ((i + k) % L.length) d := by
    intro i hi
    rw [List.getD_eq_getElem?_getD, List.getD_eq_getElem?_getD]
    congr 1
    by_cases h : i < L.length - k
    · rw [List.getElem?_append_left (by rw [List.length_drop]; exact h), List.getElem?_drop, Nat.mod_eq_of_lt (by omega), Nat.add_comm]
    · rw [List.getElem?_append_right (by rw [List.length_drop]; omega), List.length_drop, List.getElem?_take_of_lt (by omega)]
      congr 1
      have e : (i + k) % L.length = i + k - L.length := by
        rw [Nat.mod_eq_sub_mod (by omega), Nat.mod_eq_of_lt (by omega)]
      rw [e]
      exact Nat.sub_sub_right _ hk
  constructor
  · intro h i hi
    rw [← key i hi, h]
  · intro h
    apply List.ext_getElem?
    intro i
    by_cases hi : i < L.length
    · have h1 := key i hi
      rw [h i hi] at h1
      rw [List.getD_eq_getElem?_getD, List.getD_eq_getElem?_getD] at h1
      have hl : i < (L.drop k ++ L.take k).length := by rw [List.length_append, List.length_drop, List.length_take, Nat.min_eq_left hk, Nat.sub_add_cancel hk]; exact hi
      rw [List.getElem?_eq_getElem hl, List.getElem?_eq_getElem hi] at h1 ⊢
      exact congrArg some h1
    · rw [List.getElem?_eq_none (by rw [List.length_append, List.length_drop, List.length_take, Nat.min_eq_left hk, Nat.sub_add_cancel hk]; exact Nat.le_of_not_lt hi), List.getElem?_eq_none (Nat.le_of_not_lt hi)]
theorem per_sub {n : Nat} {p : Nat → Nat} {k d : Nat} (hn : 0 < n) (h1 : Per n p k) (h2 : Per n p d) (h : d ≤ k) : Per n p (k - d) := by
  intro i hi
  have hlt := Nat.mod_lt (i + (k - d)) hn
  rw [← h2 _ hlt, Nat.mod_add_mod, show i + (k - d) + d = i + k by omega]
  exact h1 i hi
theorem per_add {n : Nat} {p : Nat → Nat} {k d : Nat} (hn : 0 < n) (h1 : Per n p k) (h2 : Per n p d) : Per n p (k + d) := by
  intro i hi
  have hlt := Nat.mod_lt (i + k) hn
  rw [← h1 i hi, ← h2 _ hlt, Nat.mod_add_mod, Nat.add_assoc]
theorem per_zero {n : Nat} {p : Nat → Nat} : Per n p 0 := fun i hi => by rw [Nat.add_zero, Nat.mod_eq_of_lt hi]
theorem per_mul {n : Nat} {p : Nat → Nat} {d : Nat} (hn : 0 < n) (h : Per n p d) : ∀ q, Per n p (d * q)
  | 0 => by rw [Nat.mul_zero]; exact per_zero
  | q + 1 => by rw [Nat.mul_succ]; exact per_add hn (per_mul hn h q) h
theorem per_mod {n : Nat} {p : Nat → Nat} {k d : Nat} (hn : 0 < n) (h1 : Per n p k) (h2 : Per n p d) : Per n p (k % d) := by
  have := per_sub hn h1 (per_mul hn h2 (k / d)) (Nat.mul_div_le k d)
  rwa [← Nat.mod_eq_sub] at this
theorem per_self {n : Nat} {p : Nat → Nat} : Per n p n := fun i hi => by rw [Nat.add_mod_right, Nat.mod_eq_of_lt hi]
noncomputable def sgn (ws : List Int) (i : Nat) : Nat := (ws.map codeOf).getD i 0
theorem still_iff {ring : Int} {ws : List Int} (hr : 4 ≤ ring ∧ ring ≤ 12) (hl : ws.length = ring.toNat) {k : Int} : k ∈ stillOf ring ws ↔ (1 ≤ k ∧ k ≤ ring) ∧ Per ring.toNat (sgn ws) k.toNat := by
  unfold stillOf
  rw [List.mem_filter]
  have e : k ∈ rangeKs 1 ring.toNat ↔ 1 ≤ k ∧ k ≤ ring := by
    constructor
    · intro h
      have := mem_rangeKs h
      omega
    · intro h
      exact kre_mem (by omega) (by omega)
  rw [e]
  refine and_congr_right fun hk => ?_
  rw [decide_eq_true_iff]
  have hL : (signsOf ws).cps.toList.length = ring.toNat := by rw [signs_cps, List.length_map, hl]
  have hrc := rot_cps (x := signsOf ws) (k := k) (by omega) (by rw [hL]; omega)
  have h1 : rotS (signsOf ws) k = signsOf ws ↔ (rotS (signsOf ws) k).cps.toList = (signsOf ws).cps.toList := by
    constructor
    · intro h; rw [h]
    · intro h; exact Str.ext' (Array.toList_inj.mp h)
  rw [h1, hrc, rot_list _ _ (by rw [hL]; omega) 0, hL, signs_cps]
  rfl
theorem filter_sorted (ring : Int) (q : Int → Bool) : ((rangeKs 1 ring.toNat).filter q).Pairwise (· < ·) := by
  refine List.Pairwise.filter q ?_
  unfold rangeKs
  refine List.Pairwise.map _ ?_ (List.pairwise_lt_range)
  intro a b h
  omega
/-- the turns that keep the signs -/
structure StillFacts (ring : Int) (ws : List Int) : Prop where
  hst0 : 0 < (stillOf ring ws).length
  hstl : (stillOf ring ws).length ≤ 12
  hd : 1 ≤ (stillOf ring ws).getD 0 0 ∧ (stillOf ring ws).getD 0 0 ≤ ring
  hper : Per ring.toNat (sgn ws) ((stillOf ring ws).getD 0 0).toNat
  hmin : ∀ t : Nat, 1 ≤ t → (t : Int) < (stillOf ring ws).getD 0 0 → ¬ Per ring.toNat (sgn ws) t
  hmul : stillOf ring ws = (rangeKs 1 ring.toNat).filter fun k => decide (k % (stillOf ring ws).getD 0 0 = 0)
  hdvd : ring % (stillOf ring ws).getD 0 0 = 0
  hlast : (stillOf ring ws).getD (-1 + ((stillOf ring ws).length : Int)).toNat 0 = ring
  hrot : rotS (signsOf ws) ((stillOf ring ws).getD 0 0) = signsOf ws
theorem still_facts {ring : Int} {ws : List Int} (hr : 4 ≤ ring ∧ ring ≤ 12) (hl : ws.length = ring.toNat) : StillFacts ring ws := by
  have hn : 0 < ring.toNat := by omega
  have hmem : ring ∈ stillOf ring ws := (still_iff hr hl).mpr ⟨⟨by omega, Int.le_refl _⟩, per_self⟩
  have hst0 : 0 < (stillOf ring ws).length := List.length_pos_of_mem hmem
  have hstl : (stillOf ring ws).length ≤ 12 := by
    have := List.length_filter_le (fun k => decide (rotS (signsOf ws) k = signsOf ws)) (rangeKs 1 ring.toNat)
    rw [rangeKs_length] at this
    unfold stillOf
    omega
  have hdm : (stillOf ring ws).getD 0 0 ∈ stillOf ring ws := kso_getD hst0
  have hd1 := (still_iff hr hl).mp hdm
  have hso : (stillOf ring ws).Pairwise (· < ·) := filter_sorted ring _
  have hleast : ∀ k ∈ stillOf ring ws, (stillOf ring ws).getD 0 0 ≤ k := by
    intro k hk
    generalize stillOf ring ws = st at hk hso hst0
    cases st with
    | nil => cases hk
    | cons a st =>
      show a ≤ k
      rcases List.mem_cons.mp hk with rfl | hk
      · exact Int.le_refl _
      · exact Int.le_of_lt ((List.pairwise_cons.mp hso).1 k hk)
  have hmin : ∀ t : Nat, 1 ≤ t → (t : Int) < (stillOf ring ws).getD 0 0 → ¬ Per ring.toNat (sgn ws) t := by
    intro t h1 h2 h3
    have := hleast t ((still_iff hr hl).mpr ⟨⟨by omega, by omega⟩, by rw [Int.toNat_natCast]; exact h3⟩)
    omega
  have hall : ∀ k : Int, 1 ≤ k → k ≤ ring → (k ∈ stillOf ring ws ↔ k % (stillOf ring ws).getD 0 0 = 0) := by
    intro k h1 h2
    have hdp : 0 < (stillOf ring ws).getD 0 0 := by omega
    constructor
    · intro hk
      have h3 := per_mod hn ((still_iff hr hl).mp hk).2 hd1.2
      have e : k.toNat % ((stillOf ring ws).getD 0 0).toNat = (k % (stillOf ring ws).getD 0 0).toNat := by
        rw [Int.toNat_emod (by omega) (by omega)]
      rw [e] at h3
      have h4 := Int.emod_nonneg k (show (stillOf ring ws).getD 0 0 ≠ 0 by omega)
      have h5 := Int.emod_lt_of_pos k hdp
      by_cases hz : k % (stillOf ring ws).getD 0 0 = 0
      · exact hz
      · exact absurd h3 (hmin _ (by omega) (by omega))
    · intro hk
      refine (still_iff hr hl).mpr ⟨⟨h1, h2⟩, ?_⟩
      have h3 := per_mul hn hd1.2 (k / (stillOf ring ws).getD 0 0).toNat
      have e : ((stillOf ring ws).getD 0 0).toNat * (k / (stillOf ring ws).getD 0 0).toNat = k.toNat := by
        have h4 := Int.emod_add_mul_ediv k ((stillOf ring ws).getD 0 0)
        rw [hk, Int.zero_add] at h4
        rw [← Int.toNat_mul (by omega) (Int.ediv_nonneg (by omega) (by omega)), h4]
      rw [e] at h3
      exact h3
  refine ⟨hst0, hstl, hd1.1, hd1.2, hmin, ?_, (hall ring (by omega) (Int.le_refl _)).mp hmem, ?_, ?_⟩
  · have : ∀ k ∈ rangeKs 1 ring.toNat, decide (rotS (signsOf ws) k = signsOf ws) = decide (k % (stillOf ring ws).getD 0 0 = 0) := by
      intro k hk
      have h1 := mem_rangeKs hk
      have h2 := hall k h1.1 (by omega)
      unfold stillOf at h2
      rw [List.mem_filter] at h2
      have h3 : decide (rotS (signsOf ws) k = signsOf ws) = true ↔ k % (stillOf ring ws).getD 0 0 = 0 := by
        rw [← show _ ↔ k % (stillOf ring ws).getD 0 0 = 0 from h2]
        exact ⟨fun h => ⟨hk, h⟩, fun h => h.2⟩
      rw [Bool.eq_iff_iff, h3, decide_eq_true_iff]
    exact List.filter_congr this
  · obtain ⟨init, a, e⟩ := bare_last hst0
    have ha : a = ring := by
      have hmem' := hmem
      have hso' := hso
      have hmax : a ≤ ring := ((still_iff hr hl).mp (by rw [e]; simp)).1.2
      rw [e] at hmem' hso'
      rcases List.mem_append.mp hmem' with h | h
      · have := (List.pairwise_append.mp hso').2.2 ring h a (.head _)
        omega
      · exact (List.mem_singleton.mp h).symm
    rw [e, getD_last, ha]
  · have := List.mem_filter.mp hdm
    exact of_decide_eq_true this.2
end Mine
end PartPlC

section PartPlD
open PySem PySem.Spec PySem.Calls PySem.W PyProof.Rows
set_option Elab.async false
set_option maxRecDepth 100000
set_option maxHeartbeats 2000000
namespace Mine
-- how many unlike numbers
theorem dedup_spec (l : List Int) : ∀ σ : List Int, σ.Nodup → (l.foldl step_dedup σ).Nodup ∧ ∀ x, x ∈ l.foldl step_dedup σ ↔ x ∈ σ ∨ x ∈ l := by
  induction l with
  | nil => intro σ h; exact ⟨h, fun x => by simp⟩
  | cons a l ih =>
    intro σ h
    rw [List.foldl_cons]
    by_cases ha : a ∈ σ
    · have e : step_dedup σ a = σ := by
        unfold step_dedup
        rw [if_pos (List.any_eq_true.mpr ⟨a, ha, by simp⟩)]
      rw [e]
      refine ⟨(ih σ h).1, fun x => ?_⟩
      rw [(ih σ h).2 x, List.mem_cons]
      constructor
      · rintro (h1 | h1)
        · exact .inl h1
        · exact .inr (.inr h1)
      · rintro (h1 | rfl | h1)
        · exact .inl h1
        · exact .inl ha
        · exact .inr h1
    · have e : step_dedup σ a = σ ++ [a] := by
        unfold step_dedup
        rw [if_neg]
        intro hc
        obtain ⟨y, hy, hya⟩ := List.any_eq_true.mp hc
        rw [eq_of_beq hya] at hy
        exact ha hy
      have hnd : (σ ++ [a]).Nodup := by
        rw [List.nodup_append]
        refine ⟨h, by simp, ?_⟩
        intro x hx y hy hxy
        rw [List.mem_singleton.mp hy] at hxy
        rw [hxy] at hx
        exact ha hx
      rw [e]
      refine ⟨(ih _ hnd).1, fun x => ?_⟩
      rw [(ih _ hnd).2 x, List.mem_append, List.mem_singleton, List.mem_cons, or_assoc]
theorem nodup_len {α : Type} [BEq α] [LawfulBEq α] {l l' : List α} (h : l.Nodup) (hs : ∀ x ∈ l, x ∈ l') : l.length ≤ l'.length := by
  induction l generalizing l' with
  | nil => exact Nat.zero_le _
  | cons a l ih =>
    have h2 := List.nodup_cons.mp h
    have ha := hs a (.head _)
    have := ih (l' := l'.erase a) h2.2 (fun x hx => (List.mem_erase_of_ne (fun e => h2.1 (by rw [← e]; exact hx))).mpr (hs x (.tail _ hx)))
    rw [List.length_erase_of_mem ha] at this
    have := List.length_pos_of_mem ha
    rw [List.length_cons]
    omega
theorem dcount_spec (l : List Int) : ∃ m : List Int, m.Nodup ∧ (∀ x, x ∈ m ↔ x ∈ l) ∧ dcount l = m.length := by
  have h := dedup_spec l [] List.nodup_nil
  refine ⟨l.foldl step_dedup [], h.1, fun x => by rw [h.2 x]; simp, ?_⟩
  have e : ∀ l : List Int, (List.range l.length).map (fun i => l.getD i 0) = l := by
    intro l
    apply List.ext_getElem
    · simp
    · intro i h1 h2
      simp [h2]
  unfold dcount firstMet
  rw [e]
noncomputable def pop (d m : Nat) : Nat := ((List.range d).filter fun k => Nat.testBit m k).length
theorem dcount_mask {l : List Int} {d m : Nat} (f : Nat → Int) (hf : ∀ i j, i < d → j < d → f i = f j → i = j) (h : ∀ x, x ∈ l ↔ ∃ k, k < d ∧ m.testBit k = true ∧ f k = x) : dcount l = pop d m := by
  obtain ⟨u, hn, hu, e⟩ := dcount_spec l
  have hn2 : (((List.range d).filter fun k => Nat.testBit m k).map f).Nodup := by
    have : ((List.range d).filter fun k => Nat.testBit m k).Nodup := List.Pairwise.filter _ List.nodup_range
    have hin : ∀ x ∈ (List.range d).filter fun k => Nat.testBit m k, x < d := fun x hx => List.mem_range.mp (List.mem_filter.mp hx).1
    generalize (List.range d).filter (fun k => Nat.testBit m k) = w at this hin
    induction w with
    | nil => exact List.nodup_nil
    | cons a w ih =>
      have h2 := List.nodup_cons.mp this
      rw [List.map_cons, List.nodup_cons]
      refine ⟨fun hc => ?_, ih h2.2 fun x hx => hin x (.tail _ hx)⟩
      obtain ⟨b, hb, hbe⟩ := List.mem_map.mp hc
      have := hf _ _ (hin b (.tail _ hb)) (hin a (.head _)) hbe
      rw [this] at hb
      exact h2.1 hb
  have hiff : ∀ x, x ∈ u ↔ x ∈ ((List.range d).filter fun k => Nat.testBit m k).map f := by
    intro x
    rw [hu, h, List.mem_map]
    constructor
    · rintro ⟨k, h1, h2, h3⟩
      exact ⟨k, List.mem_filter.mpr ⟨List.mem_range.mpr h1, h2⟩, h3⟩
    · rintro ⟨k, h1, h2⟩
      exact ⟨k, List.mem_range.mp (List.mem_filter.mp h1).1, (List.mem_filter.mp h1).2, h2⟩
  rw [e, Nat.le_antisymm (nodup_len hn fun x hx => (hiff x).mp hx) (nodup_len hn2 fun x hx => (hiff x).mpr hx), List.length_map]
  rfl
-- the sets as numbers
theorem shl1 (x k : Nat) : Nat.testBit (Nat.shiftLeft 1 x) k = decide (k = x) := by
  show Nat.testBit (1 <<< x) k = _
  rw [Nat.testBit_shiftLeft]
  by_cases h : k = x
  · subst h; simp
  · rw [decide_eq_false h]
    by_cases h2 : x ≤ k
    · rw [decide_eq_true h2, Bool.true_and]
      cases hk : k - x with
      | zero => omega
      | succ j => rw [Nat.testBit_succ]; simp
    · rw [decide_eq_false h2]; rfl
theorem lor_bit (a b k : Nat) : Nat.testBit (Nat.lor a b) k = (Nat.testBit a k || Nat.testBit b k) := Nat.testBit_or a b k
theorem maskL_bit (d : Nat) (l : List Int) (k : Nat) : Nat.testBit (maskL d l) k = true ↔ ∃ x ∈ l, (x % (d : Int)).toNat = k := by
  have key : ∀ (l : List Int) (m : Nat), Nat.testBit (l.foldl (fun m x => Nat.lor m (Nat.shiftLeft 1 (x % (d : Int)).toNat)) m) k = true ↔ Nat.testBit m k = true ∨ ∃ x ∈ l, (x % (d : Int)).toNat = k := by
    intro l
    induction l with
    | nil => intro m; simp
    | cons a l ih =>
      intro m
      rw [List.foldl_cons, ih, lor_bit, shl1, Bool.or_eq_true, decide_eq_true_iff]
      simp only [List.mem_cons, exists_eq_or_imp]
      rw [or_assoc]
      constructor
      · rintro (h | h | h)
        · exact .inl h
        · exact .inr (.inl h.symm)
        · exact .inr (.inr h)
      · rintro (h | h | h)
        · exact .inl h
        · exact .inr (.inl h.symm)
        · exact .inr (.inr h)
  unfold maskL
  rw [key]
  simp
theorem maskE_bit (es : List Nat) (k : Nat) : Nat.testBit (maskE es) k = true ↔ k ∈ es := by
  have key : ∀ (l : List Nat) (m : Nat), Nat.testBit (l.foldl (fun m x => Nat.lor m (Nat.shiftLeft 1 x)) m) k = true ↔ Nat.testBit m k = true ∨ k ∈ l := by
    intro l
    induction l with
    | nil => intro m; simp
    | cons a l ih =>
      intro m
      rw [List.foldl_cons, ih, lor_bit, shl1, Bool.or_eq_true, decide_eq_true_iff, List.mem_cons, or_assoc]
  unfold maskE
  rw [key]
  simp
theorem lt_of_bits {d m : Nat} (h : ∀ k, m.testBit k = true → k < d) : m < 2 ^ d := by
  refine Nat.lt_pow_two_of_testBit m fun i hi => ?_
  cases e : m.testBit i with
  | false => rfl
  | true => have := h i e; omega
theorem rotm_bit {d m x k : Nat} (hm : m < 2 ^ d) (hx : x < d) : Nat.testBit (rotm d m x) k = true ↔ k < d ∧ m.testBit ((k + d - x) % d) = true := by
  have e : Nat.testBit (rotm d m x) k = ((Nat.testBit (m <<< x) k || Nat.testBit ((m <<< x) >>> d) k) && decide (k < d)) := by
    show Nat.testBit ((m <<< x ||| ((m <<< x) >>> d)) &&& (2 ^ d - 1)) k = _
    rw [Nat.testBit_and, Nat.testBit_or, Nat.testBit_two_pow_sub_one]
  rw [e, Bool.and_eq_true, decide_eq_true_iff, and_comm]
  refine and_congr_right fun hk => ?_
  rw [Nat.testBit_shiftLeft, Nat.testBit_shiftRight, Nat.testBit_shiftLeft]
  by_cases h : x ≤ k
  · have e1 : (k + d - x) % d = k - x := by
      rw [show k + d - x = k - x + d from Nat.sub_add_comm h, Nat.add_mod_right, Nat.mod_eq_of_lt (Nat.lt_of_le_of_lt (Nat.sub_le _ _) hk)]
    have e2 : m.testBit (d + k - x) = false := Nat.testBit_lt_two_pow (Nat.lt_of_lt_of_le hm (Nat.pow_le_pow_right (by decide) (by rw [Nat.add_sub_assoc h]; exact Nat.le_add_right _ _)))
    rw [e1, decide_eq_true h, decide_eq_true (show d + k ≥ x from Nat.le_trans h (Nat.le_add_left _ _)), e2]
    simp
  · have e1 : (k + d - x) % d = k + d - x := Nat.mod_eq_of_lt (by omega)
    rw [e1, decide_eq_false h, decide_eq_true (show d + k ≥ x by omega), show d + k - x = k + d - x by omega]
    simp
theorem sumE_bit {d a : Nat} (ha : a < 2 ^ d) (es : List Nat) (he : ∀ e ∈ es, e < d) (k : Nat) : Nat.testBit (sumE d a es) k = true ↔ k < d ∧ ∃ e ∈ es, a.testBit ((k + d - e) % d) = true := by
  have key : ∀ (l : List Nat) (m : Nat), (∀ e ∈ l, e < d) → (Nat.testBit (l.foldl (fun c e => Nat.lor c (rotm d a e)) m) k = true ↔ Nat.testBit m k = true ∨ (k < d ∧ ∃ e ∈ l, a.testBit ((k + d - e) % d) = true)) := by
    intro l
    induction l with
    | nil => intro m _; simp
    | cons b l ih =>
      intro m hl
      rw [List.foldl_cons, ih _ fun e he => hl e (.tail _ he), lor_bit, Bool.or_eq_true, rotm_bit ha (hl b (.head _))]
      simp only [List.mem_cons, exists_eq_or_imp]
      constructor
      · rintro ((h | h) | h)
        · exact .inl h
        · exact .inr ⟨h.1, .inl h.2⟩
        · exact .inr ⟨h.1, .inr h.2⟩
      · rintro (h | ⟨h1, h | h⟩)
        · exact .inl (.inl h)
        · exact .inl (.inr ⟨h1, h⟩)
        · exact .inr ⟨h1, h⟩
  unfold sumE
  rw [key es 0 he]
  simp
theorem popF_eq {d m : Nat} (hd : d ≤ 12) (hm : m < 2 ^ d) : pop d m = popF m := by
  have h1 : pop 12 m = popF m := by
    have a := popB_ok
    rw [List.all_eq_true] at a
    have hlt : m < 4096 := Nat.lt_of_lt_of_le hm (Nat.le_trans (Nat.pow_le_pow_right (by decide) hd) (by decide))
    exact (popB_eq m).trans (Nat.eq_of_beq_eq_true (a m (List.mem_range.mpr hlt)))
  rw [← h1]
  unfold pop
  have e : List.range 12 = List.range d ++ (List.range (12 - d)).map (d + ·) := by
    rw [show 12 = d + (12 - d) from (Nat.add_sub_cancel' hd).symm, List.range_add]
    congr 2
    congr 1
    exact (Nat.add_sub_cancel_left ..).symm
  rw [e, List.filter_append, List.length_append]
  have : ((List.range (12 - d)).map (d + ·)).filter (fun k => Nat.testBit m k) = [] := by
    rw [List.filter_eq_nil_iff]
    intro k hk
    obtain ⟨j, _, rfl⟩ := List.mem_map.mp hk
    rw [Nat.testBit_lt_two_pow (Nat.lt_of_lt_of_le hm (Nat.pow_le_pow_right (by decide) (Nat.le_add_right _ _)))]
    decide
  rw [this]
  simp
/-- the check's word for two families -/
theorem kn_use {d : Nat} {fam : List (Nat × Nat × List Nat)} (hd : 0 < d ∧ d ≤ 12) (kn : (fam.all fun q => chkA d q.1 q.2.1 fam) = true)
    (fw : (fam.all fun q => Nat.beq (maskE q.2.2) q.1 && Nat.beq (popF q.1) q.2.1 && q.2.2.all fun e => Nat.blt e d) = true)
    {A B : List Int} (hA : (fam.any fun q => Nat.beq (maskL d A) q.1) = true) (hB : (fam.any fun q => Nat.beq (maskL d B) q.1) = true) :
    ∃ c : Nat, (∀ k, c.testBit k = true ↔ k < d ∧ ∃ j < d, (maskL d B).testBit j = true ∧ (maskL d A).testBit ((k + d - j) % d) = true) ∧
      (pop d (maskL d A) + pop d (maskL d B) ≤ pop d c + 1 ∨ ∃ t, 1 ≤ t ∧ t < d ∧ ∀ k < d, c.testBit ((k + d - t) % d) = c.testBit k) := by
  obtain ⟨qa, hqa, ea⟩ := List.any_eq_true.mp hA
  obtain ⟨qb, hqb, eb⟩ := List.any_eq_true.mp hB
  have ea := Nat.eq_of_beq_eq_true ea
  have eb := Nat.eq_of_beq_eq_true eb
  rw [List.all_eq_true] at kn fw
  have ka := kn qa hqa
  unfold chkA at ka
  rw [List.all_eq_true] at ka
  have kab := ka qb hqb
  have wa := fw qa hqa
  have wb := fw qb hqb
  simp only [Bool.and_eq_true] at wa wb
  have ma := Nat.eq_of_beq_eq_true wa.1.1
  have mb := Nat.eq_of_beq_eq_true wb.1.1
  have pa := Nat.eq_of_beq_eq_true wa.1.2
  have pb := Nat.eq_of_beq_eq_true wb.1.2
  have la : ∀ e ∈ qa.2.2, e < d := fun e he => by
    have := (List.all_eq_true.mp wa.2) e he
    exact Nat.le_of_ble_eq_true this
  have lb : ∀ e ∈ qb.2.2, e < d := fun e he => by
    have := (List.all_eq_true.mp wb.2) e he
    exact Nat.le_of_ble_eq_true this
  have hma : maskL d A < 2 ^ d := by
    refine lt_of_bits fun k hk => ?_
    rw [ea, ← ma] at hk
    exact la k ((maskE_bit _ _).mp hk)
  have hmb : maskL d B < 2 ^ d := by
    refine lt_of_bits fun k hk => ?_
    rw [eb, ← mb] at hk
    exact lb k ((maskE_bit _ _).mp hk)
  have hc := sumE_bit hma qb.2.2 lb
  have hmc : sumE d (maskL d A) qb.2.2 < 2 ^ d := lt_of_bits fun k hk => ((hc k).mp hk).1
  refine ⟨sumE d (maskL d A) qb.2.2, fun k => ?_, ?_⟩
  · rw [hc k]
    refine and_congr_right fun _ => ?_
    constructor
    · rintro ⟨e, he, h⟩
      exact ⟨e, lb e he, by rw [eb, ← mb]; exact (maskE_bit _ _).mpr he, h⟩
    · rintro ⟨j, _, hj, h⟩
      rw [eb, ← mb] at hj
      exact ⟨j, (maskE_bit _ _).mp hj, h⟩
  · rw [← ea] at kab
    unfold chk at kab
    rcases Bool.or_eq_true _ _ |>.mp kab with h | h
    · left
      have := Nat.le_of_ble_eq_true h
      rw [popF_eq hd.2 hma, popF_eq hd.2 hmb, popF_eq hd.2 hmc, ea, eb, pa, pb]
      rw [ea] at this
      exact this
    · right
      unfold perio at h
      obtain ⟨t, ht, h2⟩ := List.any_eq_true.mp h
      rw [Bool.and_eq_true] at h2
      have h3 := Nat.eq_of_beq_eq_true h2.2
      have ht2 := List.mem_range.mp ht
      refine ⟨t, Nat.le_of_ble_eq_true h2.1, ht2, fun k hk => ?_⟩
      have h4 := rotm_bit (k := k) hmc ht2
      rw [h3] at h4
      rw [Bool.eq_iff_iff]
      constructor
      · intro h5; exact h4.mpr ⟨hk, h5⟩
      · intro h5; exact (h4.mp h5).2
end Mine
end PartPlD

section PartPlE
open PySem PySem.Spec PySem.Calls PySem.W PyProof.Rows
set_option Elab.async false
set_option maxRecDepth 100000
set_option maxHeartbeats 2000000
namespace Mine

theorem any_use {fam : List (Nat × Nat × List Nat)} {d : Nat} (fr : (([1, 2, 3, 4, 5, 6] : List Int).all fun r0 => ([3, 1, 2, 4, 0, 127] : List Int).all fun r1 => ([0, 127, 2, 6] : List Int).all fun r2 => [2, 3, 4].all fun k => fam.any fun q => Nat.beq (maskL d (0 :: scan 0 (siz r0 r1 r2 k))) q.1) = true)
    {r0 r1 r2 : Int} {k : Nat} (row : Row r0 r1 r2) (hk : 2 ≤ k ∧ k ≤ 4) : (fam.any fun q => Nat.beq (maskL d (0 :: scan 0 (siz r0 r1 r2 k))) q.1) = true := by
  rw [List.all_eq_true] at fr
  have a := fr _ row.1
  rw [List.all_eq_true] at a
  have a := a _ row.2.1
  rw [List.all_eq_true] at a
  have a := a _ row.2.2
  rw [List.all_eq_true] at a
  exact a k (by simp only [List.mem_cons, List.not_mem_nil, or_false]; omega)
theorem kn_any {d : Nat} (hd : d ∈ [1, 2, 3, 4, 5, 6, 7, 8, 9, 10, 12]) {r0 r1 r2 q0 q1 q2 : Int} {k j : Nat} (row : Row r0 r1 r2) (hk : 2 ≤ k ∧ k ≤ 4) (row' : Row q0 q1 q2) (hj : 2 ≤ j ∧ j ≤ 4) :
    ∃ c : Nat, (∀ x, c.testBit x = true ↔ x < d ∧ ∃ y < d, (maskL d (0 :: scan 0 (siz q0 q1 q2 j))).testBit y = true ∧ (maskL d (0 :: scan 0 (siz r0 r1 r2 k))).testBit ((x + d - y) % d) = true) ∧
      (pop d (maskL d (0 :: scan 0 (siz r0 r1 r2 k))) + pop d (maskL d (0 :: scan 0 (siz q0 q1 q2 j))) ≤ pop d c + 1 ∨ ∃ t, 1 ≤ t ∧ t < d ∧ ∀ x < d, c.testBit ((x + d - t) % d) = c.testBit x) := by
  simp only [List.mem_cons, List.not_mem_nil, or_false] at hd
  rcases hd with rfl | rfl | rfl | rfl | rfl | rfl | rfl | rfl | rfl | rfl | rfl
  · exact kn_use (by decide) kn1 fw1 (any_use fr1 row hk) (any_use fr1 row' hj)
  · exact kn_use (by decide) kn2 fw2 (any_use fr2 row hk) (any_use fr2 row' hj)
  · exact kn_use (by decide) kn3 fw3 (any_use fr3 row hk) (any_use fr3 row' hj)
  · exact kn_use (by decide) kn4 fw4 (any_use fr4 row hk) (any_use fr4 row' hj)
  · exact kn_use (by decide) kn5 fw5 (any_use fr5 row hk) (any_use fr5 row' hj)
  · exact kn_use (by decide) kn6 fw6 (any_use fr6 row hk) (any_use fr6 row' hj)
  · exact kn_use (by decide) kn7 fw7 (any_use fr7 row hk) (any_use fr7 row' hj)
  · exact kn_use (by decide) kn8 fw8 (any_use fr8 row hk) (any_use fr8 row' hj)
  · exact kn_use (by decide) kn9 fw9 (any_use fr9 row hk) (any_use fr9 row' hj)
  · exact kn_use (by decide) kn10 fw10 (any_use fr10 row hk) (any_use fr10 row' hj)
  · exact kn_use (by decide) kn12 fw12 (any_use fr12 row hk) (any_use fr12 row' hj)

theorem emod_back (x s d : Int) : ((x + s) % d - s) % d = x % d := by
  rw [Int.emod_sub_emod, Int.add_sub_cancel]
theorem emod_fwd (x s d : Int) : ((x - s) % d + s) % d = x % d := by
  rw [Int.emod_add_emod, Int.sub_add_cancel]
theorem nat_back {i j d : Nat} (hi : i < d) (hj : j < d) : ((i + j) % d + d - j) % d = i := by
  by_cases h : i + j < d
  · rw [Nat.mod_eq_of_lt h, show i + j + d - j = i + d by rw [Nat.add_right_comm, Nat.add_sub_cancel], Nat.add_mod_right, Nat.mod_eq_of_lt hi]
  · have e : (i + j) % d = i + j - d := by rw [Nat.mod_eq_sub_mod (Nat.le_of_not_lt h), Nat.mod_eq_of_lt (by omega)]
    rw [e, show i + j - d + d - j = i by rw [Nat.sub_add_cancel (Nat.le_of_not_lt h), Nat.add_sub_cancel], Nat.mod_eq_of_lt hi]
theorem nat_fwd {k j d : Nat} (hk : k < d) (hj : j < d) : ((k + d - j) % d + j) % d = k := by
  rw [Nat.mod_add_mod, show k + d - j + j = k + d from Nat.sub_add_cancel (Nat.le_trans (Nat.le_of_lt hj) (Nat.le_add_left _ _)), Nat.add_mod_right, Nat.mod_eq_of_lt hk]
theorem toNat_lt {x : Int} {d : Nat} (hd : 0 < d) : (x % (d : Int)).toNat < d := by
  have h1 := Int.emod_nonneg x (show (d : Int) ≠ 0 by omega)
  have h2 := Int.emod_lt_of_pos x (show (0 : Int) < d by omega)
  omega
theorem toNat_cast {x : Int} {d : Nat} (hd : 0 < d) : ((x % (d : Int)).toNat : Int) = x % d := Int.toNat_of_nonneg (Int.emod_nonneg x (by omega))
theorem inj_mod {d : Nat} {s : Int} : ∀ i j : Nat, i < d → j < d → ((i : Int) + s) % (d : Int) = ((j : Int) + s) % d → i = j := by
  intro i j hi hj h
  have h1 := emod_back i s d
  have h2 := emod_back j s d
  rw [h, h2, Int.emod_eq_of_lt (by omega) (by omega), Int.emod_eq_of_lt (by omega) (by omega)] at h1
  omega
theorem inc_get {ns : List Int} {k : Nat} (hk : k < ns.length) (i : Nat) : (ns.set k (ns.getD k 0 + 1)).getD i 0 = ns.getD i 0 + if k = i then 1 else 0 := by
  rw [List.getD_eq_getElem?_getD, List.getElem?_set]
  by_cases h : k = i
  · subst h
    rw [if_pos rfl, if_pos hk, if_pos rfl]
    rfl
  · rw [if_neg h, if_neg h, ← List.getD_eq_getElem?_getD, Int.add_zero]
theorem rowW_get {ring : Int} (hr : 4 ≤ ring ∧ ring ≤ 12) (a : Int) (qs : List Int) (i : Nat) : ∀ ws : List Int, (ws.length : Int) = ring → 0 ≤ ws.getD i 0 → 0 ≤ (rowW ring qs ws a).getD i 0 ∧ (0 < (rowW ring qs ws a).getD i 0 ↔ 0 < ws.getD i 0 ∨ ∃ b ∈ qs, ((a + b) % ring).toNat = i) := by
  induction qs with
  | nil => intro ws _ h; exact ⟨h, by simp [rowW]⟩
  | cons b qs ih =>
    intro ws hl h
    have hk : ((a + b) % ring).toNat < ws.length := by
      have h1 := Int.emod_nonneg (a + b) (show ring ≠ 0 by omega)
      have h2 := Int.emod_lt_of_pos (a + b) (show 0 < ring by omega)
      omega
    have e : (incW ring ws a b).getD i 0 = ws.getD i 0 + if ((a + b) % ring).toNat = i then 1 else 0 := inc_get hk i
    have h2 := ih (incW ring ws a b) (by rw [incW_len]; exact hl) (by rw [e]; split <;> omega)
    refine ⟨h2.1, ?_⟩
    show 0 < (rowW ring qs (incW ring ws a b) a).getD i 0 ↔ _
    rw [h2.2, e]
    simp only [List.mem_cons, exists_eq_or_imp]
    by_cases hx : ((a + b) % ring).toNat = i
    · rw [if_pos hx]
      exact ⟨fun _ => .inr (.inl hx), fun _ => .inl (by omega)⟩
    · rw [if_neg hx, Int.add_zero]
      constructor
      · rintro (h | h)
        · exact .inl h
        · exact .inr (.inr h)
      · rintro (h | h | h)
        · exact .inl h
        · exact absurd h hx
        · exact .inr h
theorem allW_get {ring : Int} (hr : 4 ≤ ring ∧ ring ≤ 12) (ps qs : List Int) (i : Nat) : ∀ ws : List Int, (ws.length : Int) = ring → 0 ≤ ws.getD i 0 → 0 ≤ (allW ring ps qs ws).getD i 0 ∧ (0 < (allW ring ps qs ws).getD i 0 ↔ 0 < ws.getD i 0 ∨ ∃ a ∈ ps, ∃ b ∈ qs, ((a + b) % ring).toNat = i) := by
  induction ps with
  | nil => intro ws _ h; exact ⟨h, by simp [allW]⟩
  | cons a ps ih =>
    intro ws hl h
    have h1 := rowW_get hr a qs i ws hl h
    have h2 := ih (rowW ring qs ws a) (by rw [rowW_len]; exact hl) h1.1
    refine ⟨h2.1, ?_⟩
    show 0 < (allW ring ps qs (rowW ring qs ws a)).getD i 0 ↔ _
    rw [h2.2, h1.2]
    simp only [List.mem_cons, exists_eq_or_imp]
    rw [or_assoc]
theorem ways_get {ring : Int} (hr : 4 ≤ ring ∧ ring ≤ 12) (ps qs : List Int) (i : Nat) : 0 < (waysOf ring ps qs).getD i 0 ↔ ∃ a ∈ ps, ∃ b ∈ qs, ((a + b) % ring).toNat = i := by
  have e : (List.replicate ring.toNat (0 : Int)).getD i 0 = 0 := by
    rw [List.getD_eq_getElem?_getD, List.getElem?_replicate]
    split <;> rfl
  have h := (allW_get hr ps qs i (List.replicate ring.toNat 0) (by rw [List.length_replicate]; omega) (by rw [e]; decide)).2
  unfold waysOf
  rw [h, e]
  simp
theorem scan_shift (sz : List Int) : ∀ s t : Int, scan (s + t) sz = (scan t sz).map (s + ·) := by
  induction sz with
  | nil => intro s t; rfl
  | cons v r ih =>
    intro s t
    unfold scan
    rw [List.map_cons, Int.add_assoc, ih]
/-- Kneser, for the rulers that the law builds -/
theorem kinds_ge {ring s0 s1 : Int} {ps qs : List Int} {r0 r1 r2 q0 q1 q2 : Int} {k j : Nat} (hr : 4 ≤ ring ∧ ring ≤ 12) (hrd : ring ≠ 11) (row : Row r0 r1 r2) (hk : 2 ≤ k ∧ k ≤ 4) (row' : Row q0 q1 q2) (hj : 2 ≤ j ∧ j ≤ 4)
    (hps : ∀ x, x ∈ ps ↔ ∃ σ ∈ 0 :: scan 0 (siz r0 r1 r2 k), (s0 + σ) % ring = x) (hqs : ∀ x, x ∈ qs ↔ ∃ σ ∈ 0 :: scan 0 (siz q0 q1 q2 j), (s1 + σ) % ring = x)
    {d : Nat} (hd1 : 1 ≤ d) (hd2 : (d : Int) ≤ ring) (hdvd : ring % (d : Int) = 0) (hl : (waysOf ring ps qs).length = ring.toNat)
    (hper : Per ring.toNat (sgn (waysOf ring ps qs)) d) (hmin : ∀ t : Nat, 1 ≤ t → t < d → ¬ Per ring.toNat (sgn (waysOf ring ps qs)) t) :
    dcount (ps.map (· % (d : Int))) + dcount (qs.map (· % (d : Int))) ≤ dcount ((sumsOf ring (waysOf ring ps qs)).map (· % (d : Int))) + 1 := by
  have hdv : (d : Int) ∣ ring := Int.dvd_of_emod_eq_zero hdvd
  have hdm : d ∈ [1, 2, 3, 4, 5, 6, 7, 8, 9, 10, 12] := by
    have : ∀ n ∈ [4, 5, 6, 7, 8, 9, 10, 12], ∀ d ∈ List.range 13, 1 ≤ d → n % d = 0 → d ∈ [1, 2, 3, 4, 5, 6, 7, 8, 9, 10, 12] := by decide
    obtain ⟨n, rfl⟩ := Int.eq_ofNat_of_zero_le (show 0 ≤ ring by omega)
    refine this n ((show ∀ n, n < 13 → 4 ≤ n → n ≠ 11 → n ∈ [4, 5, 6, 7, 8, 9, 10, 12] by decide) n (by omega) (by omega) (by omega)) d (List.mem_range.mpr (by omega)) hd1 ?_
    exact_mod_cast hdvd
  obtain ⟨c, hc, hor⟩ := kn_any hdm row hk row' hj
  generalize hA : (0 :: scan 0 (siz r0 r1 r2 k) : List Int) = A at hps hc hor
  generalize hB : (0 :: scan 0 (siz q0 q1 q2 j) : List Int) = B at hqs hc hor
  have hrr : ∀ x : Int, x % ring % (d : Int) = x % d := fun x => Int.emod_emod_of_dvd x hdv
  have one : ∀ (l S : List Int) (s : Int), (∀ x, x ∈ l ↔ ∃ σ ∈ S, (s + σ) % ring = x) → dcount (l.map (· % (d : Int))) = pop d (maskL d S) := by
    intro l S s h
    refine dcount_mask (fun i => ((i : Int) + s) % d) inj_mod fun x => ?_
    rw [List.mem_map]
    constructor
    · rintro ⟨p, hp, rfl⟩
      obtain ⟨σ, hσ, rfl⟩ := (h p).mp hp
      refine ⟨(σ % (d : Int)).toNat, toNat_lt (by omega), (maskL_bit d S _).mpr ⟨σ, hσ, rfl⟩, ?_⟩
      rw [toNat_cast (by omega), Int.emod_add_emod, hrr, Int.add_comm]
    · rintro ⟨i, _, hi, rfl⟩
      obtain ⟨σ, hσ, rfl⟩ := (maskL_bit d S _).mp hi
      refine ⟨(s + σ) % ring, (h _).mpr ⟨σ, hσ, rfl⟩, ?_⟩
      rw [toNat_cast (by omega), Int.emod_add_emod, hrr, Int.add_comm]
  rw [one ps A s0 hps, one qs B s1 hqs]
  -- the places to which pairs add up
  have hus : ∀ u, u ∈ sumsOf ring (waysOf ring ps qs) ↔ ∃ a ∈ ps, ∃ b ∈ qs, (a + b) % ring = u := by
    intro u
    unfold sumsOf
    rw [List.mem_filter, decide_eq_true_iff, ways_get hr]
    constructor
    · rintro ⟨h1, a, ha, b, hb, h2⟩
      refine ⟨a, ha, b, hb, ?_⟩
      have h3 := mem_rangeKs h1
      have h4 := Int.emod_nonneg (a + b) (show ring ≠ 0 by omega)
      omega
    · rintro ⟨a, ha, b, hb, rfl⟩
      have h4 := Int.emod_nonneg (a + b) (show ring ≠ 0 by omega)
      have h5 := Int.emod_lt_of_pos (a + b) (show 0 < ring by omega)
      exact ⟨kre_mem h4 (by omega), a, ha, b, hb, rfl⟩
  have hmem : ∀ x, x ∈ (sumsOf ring (waysOf ring ps qs)).map (· % (d : Int)) ↔ ∃ k, k < d ∧ c.testBit k = true ∧ ((k : Int) + (s0 + s1)) % (d : Int) = x := by
    intro x
    rw [List.mem_map]
    constructor
    · rintro ⟨u, hu, rfl⟩
      obtain ⟨a, ha, b, hb, rfl⟩ := (hus u).mp hu
      obtain ⟨σ, hσ, rfl⟩ := (hps a).mp ha
      obtain ⟨τ, hτ, rfl⟩ := (hqs b).mp hb
      have li := toNat_lt (x := σ) (d := d) (by omega)
      have lj := toNat_lt (x := τ) (d := d) (by omega)
      refine ⟨((σ % (d : Int)).toNat + (τ % (d : Int)).toNat) % d, Nat.mod_lt _ (by omega), (hc _).mpr ⟨Nat.mod_lt _ (by omega), (τ % (d : Int)).toNat, lj, (maskL_bit d B _).mpr ⟨τ, hτ, rfl⟩, ?_⟩, ?_⟩
      · rw [nat_back li lj]
        exact (maskL_bit d A _).mpr ⟨σ, hσ, rfl⟩
      · rw [hrr, Int.natCast_emod, Int.natCast_add, toNat_cast (by omega), toNat_cast (by omega), Int.emod_add_emod, ← Int.emod_add_emod ((s0 + σ) % ring), hrr, ← Int.add_emod_emod _ ((s1 + τ) % ring), hrr]
        simp only [Int.emod_add_emod, Int.add_emod_emod]
        rw [show σ % (d : Int) + τ % (d : Int) + (s0 + s1) = σ % (d : Int) + (τ % (d : Int) + (s0 + s1)) by omega, Int.emod_add_emod, show σ + (τ % (d : Int) + (s0 + s1)) = τ % (d : Int) + (σ + (s0 + s1)) by omega, Int.emod_add_emod]
        congr 1
        omega
    · rintro ⟨x, hx, hb, rfl⟩
      obtain ⟨_, y, hy, h1, h2⟩ := (hc x).mp hb
      obtain ⟨τ, hτ, hτe⟩ := (maskL_bit d B _).mp h1
      obtain ⟨σ, hσ, hσe⟩ := (maskL_bit d A _).mp h2
      refine ⟨((s0 + σ) % ring + (s1 + τ) % ring) % ring, (hus _).mpr ⟨_, (hps _).mpr ⟨σ, hσ, rfl⟩, _, (hqs _).mpr ⟨τ, hτ, rfl⟩, rfl⟩, ?_⟩
      have e1 : σ % (d : Int) = (((x + d - y) % d : Nat) : Int) := by rw [← hσe, toNat_cast (by omega)]
      have e2 : τ % (d : Int) = ((y : Nat) : Int) := by rw [← hτe, toNat_cast (by omega)]
      have e3 : ((σ + τ) % (d : Int)) = (x : Int) := by
        rw [Int.add_emod, e1, e2, ← Int.natCast_add, ← Int.natCast_emod, nat_fwd hx hy]
      rw [hrr, ← Int.emod_add_emod ((s0 + σ) % ring), hrr, ← Int.add_emod_emod _ ((s1 + τ) % ring), hrr]
      simp only [Int.emod_add_emod, Int.add_emod_emod]
      rw [← e3, Int.emod_add_emod]
      congr 1
      omega
  have hU : dcount ((sumsOf ring (waysOf ring ps qs)).map (· % (d : Int))) = pop d c := dcount_mask (fun i => ((i : Int) + (s0 + s1)) % d) inj_mod hmem
  rw [hU]
  rcases hor with h | ⟨t, ht1, ht2, hper2⟩
  · exact h
  · exfalso
    refine hmin t ht1 ht2 ?_
    generalize hws : waysOf ring ps qs = ws at *
    have hn : 0 < ring.toNat := by omega
    have sg : ∀ i, i < ring.toNat → sgn ws i = codeOf (ws.getD i 0) := by
      intro i hi
      unfold sgn
      rw [List.getD_eq_getElem?_getD, List.getElem?_map, List.getD_eq_getElem?_getD, List.getElem?_eq_getElem (by omega)]
      rfl
    have sgi : ∀ i i', i < ring.toNat → i' < ring.toNat → (sgn ws i = sgn ws i' ↔ ((0 < ws.getD i 0) ↔ (0 < ws.getD i' 0))) := by
      intro i i' hi hi'
      rw [sg i hi, sg i' hi']
      unfold codeOf
      by_cases h1 : 0 < ws.getD i 0 <;> by_cases h2 : 0 < ws.getD i' 0 <;> simp only [h1, h2, if_true, if_false] <;> decide
    have hin : ∀ i, i < ring.toNat → ((0 < ws.getD i 0) ↔ ((i : Int) ∈ sumsOf ring ws)) := by
      intro i hi
      unfold sumsOf
      rw [List.mem_filter, decide_eq_true_iff, Int.toNat_natCast]
      exact ⟨fun h => ⟨kre_mem (by omega) (by omega), h⟩, fun h => h.2⟩
    have alike : ∀ i u, i < ring.toNat → u < ring.toNat → (i : Int) % (d : Int) = (u : Int) % d → sgn ws i = sgn ws u := by
      have le : ∀ i u, i < ring.toNat → u < ring.toNat → u ≤ i → (i : Int) % (d : Int) = (u : Int) % d → sgn ws i = sgn ws u := by
        intro i u hi hu hle he
        have he' : i % d = u % d := by exact_mod_cast he
        have h1 : d ∣ i - u := Nat.dvd_of_mod_eq_zero (Nat.sub_mod_eq_zero_of_mod_eq he')
        obtain ⟨q, hq⟩ := h1
        have h2 := per_mul hn hper q u hu
        rw [← hq, show u + (i - u) = i by omega, Nat.mod_eq_of_lt hi] at h2
        exact h2
      intro i u hi hu he
      rcases Nat.le_total u i with h | h
      · exact le i u hi hu h he
      · exact (le u i hu hi h he.symm).symm
    have claim : ∀ i, i < ring.toNat → ((0 < ws.getD i 0) ↔ c.testBit (((i : Int) - (s0 + s1)) % (d : Int)).toNat = true) := by
      intro i hi
      rw [hin i hi]
      constructor
      · intro h
        obtain ⟨x, hx, hb, he⟩ := (hmem _).mp (List.mem_map.mpr ⟨_, h, rfl⟩)
        have h1 := emod_back x (s0 + s1) d
        rw [he, Int.emod_sub_emod, Int.emod_eq_of_lt (a := (x : Int)) (by omega) (by omega)] at h1
        rw [h1, Int.toNat_natCast]
        exact hb
      · intro h
        have h1 := (hmem ((i : Int) % d)).mpr ⟨_, toNat_lt (by omega), h, by rw [toNat_cast (by omega), emod_fwd]⟩
        obtain ⟨u, hu, he⟩ := List.mem_map.mp h1
        have hur : 0 ≤ u ∧ u < ring := by
          have := mem_rangeKs (List.mem_filter.mp hu).1
          omega
        have hu2 : (0 < ws.getD u.toNat 0) := (hin u.toNat (by omega)).mpr (by rw [Int.toNat_of_nonneg hur.1]; exact hu)
        have hal := alike i u.toNat hi (by omega) (by rw [Int.toNat_of_nonneg hur.1]; exact he.symm)
        exact (hin i hi).mp (((sgi i u.toNat hi (by omega)).mp hal).mpr hu2)
    intro i hi
    have hi' : (i + t) % ring.toNat < ring.toNat := Nat.mod_lt _ hn
    rw [sgi _ _ hi' hi, claim _ hi', claim _ hi]
    have lk := toNat_lt (x := (i : Int) - (s0 + s1)) (d := d) (by omega)
    have e1 : ((((i + t) % ring.toNat : Nat) : Int) - (s0 + s1)) % (d : Int) = (((((i : Int) - (s0 + s1)) % (d : Int)).toNat + t) % d : Nat) := by
      rw [Int.natCast_emod, Int.natCast_emod, Int.natCast_add, Int.natCast_add, toNat_cast (by omega), Int.toNat_of_nonneg (by omega), Int.emod_add_emod, ← Int.emod_sub_emod, hrr, Int.emod_sub_emod]
      congr 1
      omega
    have h3 := hper2 ((((((i : Int) - (s0 + s1)) % (d : Int)).toNat + t) % d)) (Nat.mod_lt _ (by omega))
    rw [nat_back lk ht2] at h3
    rw [e1, Int.toNat_natCast, h3]
end Mine
end PartPlE

section PartPlF
open PySem PySem.Spec PySem.Calls PySem.W PyProof.Rows
set_option Elab.async false
set_option maxRecDepth 100000
set_option maxHeartbeats 2000000
namespace Mine
theorem ring_ok (c : Int) : (4 ≤ ringOf c ∧ ringOf c ≤ 12) ∧ ringOf c ≠ 11 := by
  have h : ringOf c ∈ ([12, 6, 8, 9, 10, 4, 7, 5] : List Int) := by
    refine kso_getD ?_
    rw [Int.fmod_eq_emod_of_nonneg _ (by decide)]
    show _ < 8
    omega
  have all : ∀ x ∈ ([12, 6, 8, 9, 10, 4, 7, 5] : List Int), (4 ≤ x ∧ x ≤ 12) ∧ x ≠ 11 := by decide
  exact all _ h
theorem lf_of {ring s0 s1 : Int} {ps qs : List Int} {r0 r1 r2 q0 q1 q2 m0 m1 : Int} {k j : Nat} {ts us : List Int} (hr : 4 ≤ ring ∧ ring ≤ 12) (hrd : ring ≠ 11) (hk : 2 ≤ k ∧ k ≤ 4) (hj : 2 ≤ j ∧ j ≤ 4)
    (R0 : RF ring s0 m0 r0 r1 r2 k ps ts) (R1 : RF ring s1 m1 q0 q1 q2 j qs us)
    (p0 : ps.Perm ((s0 :: scan s0 (siz r0 r1 r2 k)).map (· % ring))) (p1 : qs.Perm ((s1 :: scan s1 (siz q0 q1 q2 j)).map (· % ring))) : LF ring ps qs := by
  have mem : ∀ (s : Int) (l sz : List Int), l.Perm ((s :: scan s sz).map (· % ring)) → ∀ x, x ∈ l ↔ ∃ σ ∈ 0 :: scan 0 sz, (s + σ) % ring = x := by
    intro s l sz h x
    have e : (s :: scan s sz) = (0 :: scan 0 sz).map (s + ·) := by
      rw [List.map_cons, Int.add_zero]
      have := scan_shift sz s 0
      rw [Int.add_zero] at this
      rw [this]
    rw [h.mem_iff, e, List.map_map, List.mem_map]
    rfl
  have hps := mem s0 ps _ p0
  have hqs := mem s1 qs _ p1
  have bnd : ∀ (s : Int) (l sz : List Int), (∀ x, x ∈ l ↔ ∃ σ ∈ 0 :: scan 0 sz, (s + σ) % ring = x) → ∀ b ∈ l, 0 ≤ b ∧ b < ring := by
    intro s l sz h b hb
    obtain ⟨σ, _, rfl⟩ := (h b).mp hb
    exact ⟨Int.emod_nonneg _ (by omega), Int.emod_lt_of_pos _ (by omega)⟩
  have hq0 := bnd _ _ _ hps
  have hq1 := bnd _ _ _ hqs
  have lp : 0 < ps.length ∧ ps.length ≤ 5 := ⟨by rw [p0.length_eq]; simp, R0.hpl⟩
  have lq : 0 < qs.length ∧ qs.length ≤ 5 := ⟨by rw [p1.length_eq]; simp, R1.hpl⟩
  have NF := num_facts hr hq0 hq1 lp lq
  have hlw : (waysOf ring ps qs).length = ring.toNat := NF.hwl
  have SF := still_facts hr hlw
  have n0 := num_nonneg hr R0.hds
  have n1 := num_nonneg hr R1.hds
  have hpw := pow_le12 hr
  have h72 : (64 : Int) ^ 12 = 2 ^ 72 := by decide
  have hMo : Mo ring = 64 ^ ring.toNat - 1 := rfl
  have hMp : 0 < Mo ring := Int.lt_trans NF.hw0 NF.hw1
  have hW64 : ∀ d ∈ waysOf ring ps qs, 0 ≤ d ∧ d < 64 := fun d hd => by have := NF.hw d hd; omega
  have hV64 : ∀ d ∈ beyOf ring ps qs, 0 ≤ d ∧ d < 64 := fun d hd => by have := NF.hv d hd; omega
  have hP0 : 0 ≤ prodOf ring ps qs := Int.mul_nonneg n0.1 n1.1
  have hvb := dval_bound (B := 64) (by decide) _ hV64
  rw [NF.hvl] at hvb
  have e1 : prodOf ring ps qs / Mo ring = dval 64 (beyOf ring ps qs) ∧ prodOf ring ps qs % Mo ring = dval 64 (waysOf ring ps qs) :=
    (Int.ediv_emod_unique hMp).mpr ⟨NF.hprod.symm, Int.le_of_lt NF.hw0, NF.hw1⟩
  have e2 : -prodOf ring ps qs / Mo ring = -dval 64 (beyOf ring ps qs) - 1 ∧ -prodOf ring ps qs % Mo ring = Mo ring - dval 64 (waysOf ring ps qs) := by
    refine (Int.ediv_emod_unique hMp).mpr ⟨?_, by have := NF.hw1; omega, by have := NF.hw0; omega⟩
    rw [NF.hprod, Int.mul_sub, Int.mul_neg, Int.mul_one]
    omega
  have hcm := dval_compl (waysOf ring ps qs)
  rw [hlw, ← hMo] at hcm
  have e3 : Mo ring - dval 64 (waysOf ring ps qs) = dval 64 ((waysOf ring ps qs).map fun c => 63 - c) := by omega
  have hbits := lt_bits (x := Mo ring) (Int.le_of_lt hMp)
  have hsq : prodOf ring ps qs < 2 ^ (2 * Builtin.Int.intBits (Mo ring)) := by
    have h1 : numOf ring ps * numOf ring qs ≤ (64 ^ ring.toNat - 1) * (64 ^ ring.toNat - 1) := Int.mul_le_mul (by omega) (by omega) n1.1 (by omega)
    have h2 : (64 : Int) ^ ring.toNat * 64 ^ ring.toNat ≤ 2 ^ Builtin.Int.intBits (Mo ring) * 2 ^ Builtin.Int.intBits (Mo ring) := Int.mul_le_mul (by omega) (by omega) (by omega) (by omega)
    have h3 : (64 ^ ring.toNat - 1 : Int) * (64 ^ ring.toNat - 1) < 64 ^ ring.toNat * 64 ^ ring.toNat := by
      have h4 : (64 ^ ring.toNat - 1 : Int) * (64 ^ ring.toNat - 1) ≤ 64 ^ ring.toNat * (64 ^ ring.toNat - 1) := Int.mul_le_mul_of_nonneg_right (by omega) (by omega)
      rw [Int.mul_sub (64 ^ ring.toNat), Int.mul_one] at h4
      omega
    rw [Nat.two_mul, Int.pow_add]
    show numOf ring ps * numOf ring qs < _
    omega
  have hpos2 : (0 : Int) < 2 ^ (2 * Builtin.Int.intBits (Mo ring)) := two_pow_pos _
  obtain ⟨D, hD⟩ := Int.eq_ofNat_of_zero_le (show 0 ≤ (stillOf ring (waysOf ring ps qs)).getD 0 0 by have := SF.hd; omega)
  have hDd := SF.hd
  have hkin := kinds_ge (d := D) hr hrd R0.row hk R1.row hj hps hqs (by omega) (by omega) (by rw [← hD]; exact SF.hdvd) hlw (by have := SF.hper; rw [hD, Int.toNat_natCast] at this; exact this) (fun t h1 h2 => SF.hmin t h1 (by omega))
  refine ⟨hq0, hq1, ⟨n0.1, by omega⟩, ⟨n1.1, by omega⟩, hP0, hMp, ?_, hsq, ?_, ?_, ?_, ?_, ?_, ?_, by omega, by omega, ?_, ?_, ?_, ?_, ?_, SF.hst0, SF.hstl, SF.hd.1, SF.hmul, SF.hlast, SF.hrot, ?_, ?_⟩
  · have : (64 : Int) ^ 12 ≤ 2 ^ 200 := by decide
    omega
  · rw [e1.2]; exact Int.le_of_lt NF.hw0
  · rw [e1.2]; exact bitsK (Int.le_of_lt NF.hw0) (by have := NF.hw1; omega)
  · rw [e1.2]; exact i2d_bare hW64
  · rw [e1.1]; exact hvb.1
  · rw [e1.1]; exact bitsK hvb.1 (by omega)
  · rw [e1.1]; exact i2d_bare hV64
  · rw [e1.1]; exact e2.1
  · rw [e2.2]; have := NF.hw1; omega
  · rw [e2.2]; exact bitsK (by have := NF.hw1; omega) (by have := NF.hw0; omega)
  · rw [e2.2, e3]
    obtain ⟨init, a, he⟩ := bare_last (ns := (waysOf ring ps qs).map fun c => 63 - c) (by rw [List.length_map, hlw]; omega)
    refine i2d_keep (fun d hd => ?_) he ?_
    · obtain ⟨x, hx, rfl⟩ := List.mem_map.mp hd
      have := NF.hw x hx
      omega
    · have ha : a ∈ (waysOf ring ps qs).map fun c => 63 - c := by rw [he]; simp
      obtain ⟨x, hx, rfl⟩ := List.mem_map.mp ha
      have := NF.hw x hx
      omega
  · rw [signs_len, hlw]; omega
  · have := List.length_filter_le (fun k => decide (0 < (waysOf ring ps qs).getD k.toNat 0)) (rangeKs 0 ring.toNat)
    rw [rangeKs_length] at this
    unfold sumsOf
    omega
  · rw [hD]
    show _ ≤ _
    omega
theorem plainAll : ∀ c0 c1 c2 : Int, (4 ≤ ringOf c0 ∧ ringOf c0 ≤ 12) ∧ ∃ (k0 k1 : Nat) (ps0 ts0 ps1 ts1 : List Int), RF (ringOf c0) (startOf c1) (manyOf c1) (r0Of c1) (r1Of c1) (r2Of c1) k0 ps0 ts0 ∧ RF (ringOf c0) (startOf c2) (manyOf c2) (r0Of c2) (r1Of c2) (r2Of c2) k1 ps1 ts1 ∧ LF (ringOf c0) ps0 ps1 := by
  intro c0 c1 c2
  have hr := ring_ok c0
  obtain ⟨k0, ps0, hk0, R0, p0⟩ := rf_of (ringOf c0) c1 hr.1
  obtain ⟨k1, ps1, hk1, R1, p1⟩ := rf_of (ringOf c0) c2 hr.1
  exact ⟨hr.1, k0, k1, ps0, _, ps1, _, R0, R1, lf_of hr.1 hr.2 hk0 hk1 R0 R1 p0 p1⟩
end Mine
end PartPlF

section PartFin
open PySem PySem.Spec PySem.Calls PySem.W PyProof.Rows
set_option Elab.async false
set_option maxRecDepth 100000
set_option maxHeartbeats 2000000
namespace Mine
theorem start : Challenge.rw_rs0150_01.Holds := hd (by
  k_fill
  intro w s₀ s₁ mg mb G Y fa o pm cd doc dV kV ho hd hcd hD hmg hg args vals as hpre hlay hrd hwl hlo
  have KX := km_in_of Y
  km_tabs Y
  have X := (Ground.X G).1
  have V := (Ground.X G).2
  refine Ground.open G ?_
  intro T B D TE TW
  try (refine guard_noD D (by decide +kernel) ?_; clear D)
  km_lay T hmg ho hd cd
  clear hmg
  wrow_args hpre hlay hrd hwl hlo
  all_goals (
    first | refine callC_kw (enter_call ?_) | refine enter_call ?_
    w_top on
    refine kn_postG hT9 (fun _ _ => rfl) ?_ ?_
    · first | with_unfolding_all rfl | (with_unfolding_all exact of_decide_eq_true rfl) | decide +kernel | (unfold Challenge.rw_rs0150_01; rfl)
    w_call any ho hd hcd hD T F
    clear hd
    kn_ghosts F T
    k_drop
    rename Fr _ _ _ _ => FF
    rename News _ _ _ _ => NN
    rename IntsAre _ _ => hI
    rename (_ < _ ∧ _ < _) => l0
    rename Below _ _ _ _ => KK
    refine law1 KK (by assumption) (by assumption) plainAll (fr_pad FF (Str.ofString "script") rfl) NN l0.1 lifted hI ?hl (by assumption) (by assumption) (by assumption) (by assumption) (by assumption) (by assumption) (by assumption) ?_
    · omega
    · intro h' tk' gens' oA cA ocA oB cB ocB m' hb hA hB F9 N9
      have e30 := (N9 (30, oA) (.head _)).1
      have e37 := (N9 (37, oB) (.tail _ (.tail _ (.head _)))).1
      rw [hA.1] at e30
      rw [hB.1] at e37
      refine ⟨rfl, F9.keep, rfl, hb ?_, ⟨_, e37⟩, ⟨_, e30⟩, trivial⟩
      show AllBare s₁.gens
      rw [hg]
      intro z hz
      exact absurd hz (Array.not_mem_empty z)))
end Mine
end PartFin

end Rules2
end Rules1
end Rules0

theorem PySem.Challenge.cw_rs0150_01_holds : PySem.Challenge.rw_rs0150_01.Holds := by
  exact Mine.start
