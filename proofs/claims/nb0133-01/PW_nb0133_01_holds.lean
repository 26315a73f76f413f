import PyProof.Rows.All
import Wide.All
import OpenK.AllK
import Wide.FinOn
import PySem.Challenge.RW_nb0133_01
section T_Hd
open PySem PySem.W PyProof.Rows
set_option Elab.async false
set_option maxRecDepth 100000
set_option maxHeartbeats 8000000
namespace Mine
open_top hd for PySem.Challenge.rw_nb0133_01
end Mine

end T_Hd
section T_Pl1
set_option autoImplicit false
open PySem PySem.W PyProof.Rows
namespace Mine
open Builtin Builtin.Str

/-- the text as a list of codes -/
abbrev lst (x : Str) : List Nat := x.cps.toList
/-- a list of codes as a text -/
abbrev txt (l : List Nat) : Str := ⟨l.toArray⟩
theorem lst_txt (l : List Nat) : lst (txt l) = l := rfl
theorem txt_lst (x : Str) : txt (lst x) = x := by cases x; rfl
theorem str_ext {x y : Str} (h : lst x = lst y) : x = y := by rw [← txt_lst x, ← txt_lst y, h]
theorem len_txt (l : List Nat) : (txt l).length = l.length := rfl
theorem len_lst (x : Str) : x.length = (lst x).length := rfl
theorem lst_append (x y : Str) : lst (x ++ y) = lst x ++ lst y := by
  show (x.cps ++ y.cps).toList = _; simp
theorem txt_append (a b : List Nat) : txt a ++ txt b = txt (a ++ b) := str_ext (by rw [lst_append])

/-- cut at each c -/
def splitL (c : Nat) : List Nat → List (List Nat)
  | [] => [[]]
  | d :: r => if d = c then [] :: splitL c r else
    match splitL c r with
    | [] => [[d]]
    | p :: ps => (d :: p) :: ps
theorem splitL_ne (c : Nat) (l : List Nat) : splitL c l ≠ [] := by
  cases l with
  | nil => simp [splitL]
  | cons d r => simp only [splitL]; split; simp; split <;> simp
def joinL (z : List Nat) : List (List Nat) → List Nat
  | [] => []
  | [x] => x
  | x :: r => x ++ z ++ joinL z r
theorem joinL_cons (z x : List Nat) {r : List (List Nat)} (h : r ≠ []) : joinL z (x :: r) = x ++ z ++ joinL z r := by
  cases r with
  | nil => exact absurd rfl h
  | cons => rfl
theorem lst_join (z : Str) : ∀ ps : List Str, lst (Str.join z ps) = joinL (lst z) (ps.map lst)
  | [] => rfl
  | [x] => rfl
  | x :: y :: r => by
    show lst (x ++ z ++ Str.join z (y :: r)) = _
    rw [lst_append, lst_append, lst_join z (y :: r)]; rfl
/-- the cut is the only one whose parts are free of c -/
theorem splitL_unique (c : Nat) : ∀ ps : List (List Nat), ps ≠ [] → (∀ p ∈ ps, c ∉ p) → splitL c (joinL [c] ps) = ps
  | [], h, _ => absurd rfl h
  | [x], _, hf => by
    show splitL c x = [x]
    have hx := hf x (by simp)
    clear hf
    induction x with
    | nil => rfl
    | cons d r ih =>
      simp only [List.mem_cons, not_or] at hx
      simp only [splitL, if_neg (Ne.symm hx.1), ih (by simp) hx.2]
  | x :: y :: r, _, hf => by
    rw [joinL_cons [c] x (by simp)]
    have hx := hf x (by simp)
    have ih := splitL_unique c (y :: r) (by simp) (fun p hp => hf p (by simp [List.mem_cons] at hp ⊢; exact Or.inr hp))
    clear hf
    induction x with
    | nil => simp [splitL, ih]
    | cons d x' ihx =>
      simp only [List.mem_cons, not_or] at hx
      have := ihx (by simp) hx.2
      simp only [List.cons_append, splitL, if_neg (Ne.symm hx.1)] at this ⊢
      rw [this]
theorem lst_split (x : Str) (c : Nat) : (Txt.split x ⟨#[c]⟩).map lst = splitL c (lst x) := by
  have h1 := StrLaws.join_split x ⟨#[c]⟩
  have h2 := StrLaws.split_free x c
  have h3 : (Txt.split x ⟨#[c]⟩).map lst ≠ [] := by
    intro h
    have h4 : Txt.split x ⟨#[c]⟩ = [] := List.map_eq_nil_iff.mp h
    revert h4
    unfold Txt.split
    split
    · simp
    · split
      · simp
      · unfold partsBetween; simp
  have h5 := splitL_unique c _ h3 (by
    intro p hp
    obtain ⟨q, hq, rfl⟩ := List.mem_map.mp hp
    exact h2 q hq)
  rw [← h5]
  have h6 := lst_join ⟨#[c]⟩ (Txt.split x ⟨#[c]⟩)
  rw [h1] at h6
  rw [h6]
theorem txt_split (l : List Nat) (c : Nat) : Txt.split (txt l) ⟨#[c]⟩ = (splitL c l).map txt := by
  have h := lst_split (txt l) c
  have : ((Txt.split (txt l) ⟨#[c]⟩).map lst).map txt = (splitL c l).map txt := by rw [h]
  rw [List.map_map] at this
  rw [← this]
  have e : (txt ∘ lst) = _root_.id := by funext x; exact txt_lst x
  rw [e, List.map_id]
theorem joinL_split (c : Nat) (z : List Nat) : ∀ l : List Nat, joinL z (splitL c l) = l.flatMap fun d => if d = c then z else [d]
  | [] => rfl
  | d :: r => by
    have ih := joinL_split c z r
    simp only [splitL, List.flatMap_cons]
    split
    · rw [joinL_cons _ _ (splitL_ne c r), ih]; simp
    · have hn := splitL_ne c r
      revert ih hn
      cases splitL c r with
      | nil => intro _ hn; exact absurd rfl hn
      | cons p ps =>
        intro ih _
        simp only [List.singleton_append]
        rw [← ih]
        cases ps <;> simp [joinL]
theorem lst_replace (x z : Str) (c : Nat) : lst (Txt.replace x ⟨#[c]⟩ z) = (lst x).flatMap fun d => if d = c then lst z else [d] := by
  rw [StrLaws.replace_one, lst_join, lst_split, joinL_split]
theorem replace_absent {x z : Str} {c : Nat} (h : (occurrences x ⟨#[c]⟩ 0 x.length 1).isEmpty = true) : Txt.replace x ⟨#[c]⟩ z = x := by
  have h1 := StrLaws.found_one x c
  rw [h] at h1
  have h2 : c ∉ lst x := by simpa using h1.symm
  refine str_ext ?_
  rw [lst_replace]
  generalize lst x = l at h2
  induction l with
  | nil => rfl
  | cons d r ih =>
    simp only [List.mem_cons, not_or] at h2
    rw [List.flatMap_cons, ih h2.2, if_neg (Ne.symm h2.1)]; rfl

theorem len_replace_le (x z : Str) (c : Nat) (hz : 1 ≤ z.length) : x.length ≤ (Txt.replace x ⟨#[c]⟩ z).length := by
  rw [len_lst, len_lst, lst_replace]
  generalize lst x = l
  induction l with
  | nil => simp
  | cons d r ih =>
    rw [List.flatMap_cons, List.length_append, List.length_cons]
    have : 1 ≤ (if d = c then lst z else [d]).length := by
      split
      · exact hz
      · simp
    omega

/-- what a writer makes of a sign -/
def esc (k : Nat) (c : Nat) : List Nat :=
  if c = 38 then [38, 97, 109, 112, 59]
  else if c = 60 ∧ k ≠ 1 then [38, 108, 116, 59]
  else if c = 62 ∧ (k = 0 ∨ k = 1) then [38, 103, 116, 59]
  else if c = 34 then [38, 113, 117, 111, 116, 59]
  else if c = 13 ∧ k = 0 then [38, 35, 49, 51, 59]
  else if c = 10 ∧ k = 0 then [38, 35, 49, 48, 59]
  else if c = 9 ∧ k = 0 then [38, 35, 48, 57, 59]
  else if c = 9 ∧ k = 2 then [38, 35, 120, 57, 59]
  else if c = 10 ∧ k = 2 then [38, 35, 120, 65, 59]
  else if c = 13 ∧ k = 2 then [38, 35, 120, 68, 59]
  else [c]
abbrev escL (k : Nat) (l : List Nat) : List Nat := l.flatMap (esc k)
abbrev escS (k : Nat) (x : Str) : Str := txt (escL k (lst x))
theorem esc_len (k c : Nat) : (esc k c).length ≤ 6 := by
  unfold esc; repeat' split
  all_goals simp
theorem escL_len (k : Nat) : ∀ l : List Nat, (escL k l).length ≤ 6 * l.length
  | [] => by simp
  | c :: r => by
    have h1 := escL_len k r
    have h2 := esc_len k c
    simp only [escL, List.flatMap_cons, List.length_append, List.length_cons] at h1 ⊢
    omega
theorem flatMap_comp (f g : Nat → List Nat) (l : List Nat) : (l.flatMap f).flatMap g = l.flatMap fun d => (f d).flatMap g := List.flatMap_assoc

theorem esc0_chain (x : Str) : Txt.replace (Txt.replace (Txt.replace (Txt.replace (Txt.replace (Txt.replace (Txt.replace x ⟨#[38]⟩ ⟨#[38, 97, 109, 112, 59]⟩) ⟨#[60]⟩ ⟨#[38, 108, 116, 59]⟩) ⟨#[62]⟩ ⟨#[38, 103, 116, 59]⟩)
    ⟨#[34]⟩ ⟨#[38, 113, 117, 111, 116, 59]⟩) ⟨#[13]⟩ ⟨#[38, 35, 49, 51, 59]⟩) ⟨#[10]⟩ ⟨#[38, 35, 49, 48, 59]⟩) ⟨#[9]⟩ ⟨#[38, 35, 48, 57, 59]⟩ = escS 0 x := by
  refine str_ext ?_
  simp only [lst_replace, flatMap_comp, lst_txt]
  congr 1
  funext d
  unfold esc
  by_cases h1 : d = 38
  · subst h1; rfl
  by_cases h2 : d = 60
  · subst h2; rfl
  by_cases h3 : d = 62
  · subst h3; rfl
  by_cases h4 : d = 34
  · subst h4; rfl
  by_cases h5 : d = 13
  · subst h5; rfl
  by_cases h6 : d = 10
  · subst h6; rfl
  by_cases h7 : d = 9
  · subst h7; rfl
  simp [h1, h2, h3, h4, h5, h6, h7]
theorem esc1_chain (x : Str) : Txt.replace (Txt.replace (Txt.replace x ⟨#[38]⟩ ⟨#[38, 97, 109, 112, 59]⟩) ⟨#[62]⟩ ⟨#[38, 103, 116, 59]⟩)
    ⟨#[34]⟩ ⟨#[38, 113, 117, 111, 116, 59]⟩ = escS 1 x := by
  refine str_ext ?_
  simp only [lst_replace, flatMap_comp, lst_txt]
  congr 1
  funext d
  unfold esc
  by_cases h1 : d = 38
  · subst h1; rfl
  by_cases h3 : d = 62
  · subst h3; rfl
  by_cases h4 : d = 34
  · subst h4; rfl
  simp [h1, h3, h4]
theorem esc2_chain (x : Str) : Txt.replace (Txt.replace (Txt.replace (Txt.replace (Txt.replace (Txt.replace x ⟨#[38]⟩ ⟨#[38, 97, 109, 112, 59]⟩) ⟨#[60]⟩ ⟨#[38, 108, 116, 59]⟩)
    ⟨#[34]⟩ ⟨#[38, 113, 117, 111, 116, 59]⟩) ⟨#[9]⟩ ⟨#[38, 35, 120, 57, 59]⟩) ⟨#[10]⟩ ⟨#[38, 35, 120, 65, 59]⟩) ⟨#[13]⟩ ⟨#[38, 35, 120, 68, 59]⟩ = escS 2 x := by
  refine str_ext ?_
  simp only [lst_replace, flatMap_comp, lst_txt]
  congr 1
  funext d
  unfold esc
  by_cases h1 : d = 38
  · subst h1; rfl
  by_cases h2 : d = 60
  · subst h2; rfl
  by_cases h4 : d = 34
  · subst h4; rfl
  by_cases h5 : d = 13
  · subst h5; rfl
  by_cases h6 : d = 10
  · subst h6; rfl
  by_cases h7 : d = 9
  · subst h7; rfl
  simp [h1, h2, h4, h5, h6, h7]
theorem roomC {a i j n : Nat} (h : a + j < n) (hd : i ≤ j) : a + i < n := Nat.lt_of_le_of_lt (Nat.add_le_add_left hd a) h
theorem roomA {a d n : Nat} (h : a + 4 * (d + 1) < n) : a + 2 < n := by omega
theorem roomS {a d e n : Nat} (h : a + 4 * (e + 1) < n) (hd : d + 1 ≤ e) : a + 1 + 4 * (d + 1) < n := by omega
theorem roomU {a b d e n : Nat} (h : a + b + 4 * (e + 1) < n) (hd : d + 1 ≤ e) : a + 3 + b + 4 * (d + 1) < n := by omega
theorem roomT {a i j d n : Nat} (h : a + j < n) (hd : d ≤ 3) (hi : i + 16 ≤ j) : a + i + 4 * (d + 1) < n := by omega
end Mine

end T_Pl1
section T_W1
set_option autoImplicit false
open PySem PySem.W PyProof.Rows PySem.Calls
set_option Elab.async false
set_option maxRecDepth 100000
set_option maxHeartbeats 8000000
namespace Mine
theorem off_W1 : True := by w_top off; trivial
noncomputable abbrev PR : Program := Challenge.rw_nb0133_01.row.prog
noncomputable abbrev VW : Program := Mine.hd.view_39

/-- what stands under every call: the text's own objects and names -/
structure Gd (w : World) (g : Heap) : Prop where
  K : (hd.heap_39 w.params).In g
  T : ∃ mean mg mb, Top VW (looseW VW []) mean mg mb g
theorem Gd.keeps {w : World} {g g' : Heap} (G : Gd w g) (hk : ∀ b o, g.get? b = some o → g'.get? b = some o) : Gd w g' :=
  ⟨G.K.keeps hk, let ⟨a, b, c, T⟩ := G.T; ⟨a, b, c, T.keeps hk⟩⟩
theorem enter {w : World} {A : Around} {s : Shared} {R : Result → Shared → Prop} {g : Heap}
    {name qual : Str} {params : Arguments} {body : List Stmt} {scope : Scope} {dV kV doc pm cdv ct oc : Value} {an od : Option Addr} {osl : Array (Option Value)} {f : Addr} {args : Args} {binds : List (Str × Value)}
    (G : Gd w g) (hg : ∀ b o, g.get? b = some o → s.heap.get? b = some o) (hgs : g.objs.size ≤ s.heap.objs.size)
    (ho : (hd.heap_39 w.params).lookup f = some ⟨oc, od, .func (fnOf name qual params body scope dV kV doc pm an cdv ct), osl⟩) (hcd : codeIn (hd.heap_39 w.params) cdv qual = true) (hroom : A.depth < recursionLimit)
    (hbind : BindsTo s (fnOf name qual params body scope dV kV doc pm an cdv ct) args binds) (hloc : ∀ y ∈ binds, scope.names.lookup y.1 = some .local)
    (h : ∀ (L : Nat) (h₁ : Heap), L = s.heap.objs.size → Fr g L h₁ (fun y => binds.reverse.lookup y) → (∀ b o, s.heap.get? b = some o → h₁.get? b = some o) →
      wpAny (model PR w) (A.deeper (envOf qual scope L f cdv)) (execs body (envOf qual scope L f cdv))
        (fun fl s' => R (.ok (.ret (match fl with | .ret v => v | _ => .none))) s')
        (fun e s' => wpAny (model PR w) (A.deeper (envOf qual scope L f cdv)) (leaving (envOf qual scope L f cdv) e) (fun _ s'' => R (.error e) s'') (fun e' s'' => R (.error e') s'') s')
        { s with heap := h₁, toks := s.toks + binds.length })
    (hcell : ∀ x ∈ scope.names, x.2 ≠ .cell) (hco : scope.isCoroutine = false) (hgen : scope.isGenerator = false) (hk : scope.kind = .function) : codeAny (model PR w) A (.call (.ref f) args) R s := by
  obtain ⟨mean, mg, mb, T⟩ := G.T
  refine codeAny_call_def (fd := fnOf name qual params body scope dV kV doc pm an cdv ct) (body := body) (binds := binds) hroom (hg _ _ (G.K _ _ ho)) rfl (T.nolimit.keeps hg) (codeRec_of (G.K.keeps hg) hcd) rfl hbind hcell hloc (fun h₁ hns hk₁ => ?_) hco hgen hk
  exact h _ _ rfl ⟨hns, fun b o e => hk₁ b o (hg b o e), hgs⟩ hk₁

theorem Fr_pin {g h : Heap} {L : Addr} {m : Str → Option Value} {x : Str} {v : Value} (F : Fr g L h m) (hm : m x = some v) : Fr g L h (fun y => if y = x then some v else m y) := by
  have : m = fun y => if y = x then some v else m y := by
    funext y; split
    · rename_i e; rw [e, hm]
    · rfl
  rw [← this]; exact F
section
variable {w : World} {A : Around} {E : Value → Shared → Prop} {s : Shared} {name : Str} {scope : Scope} {L a : Addr} {cd : Value} {g : Heap} {m : Str → Option Value}

/-- «if c in text: text = text.replace(c, r)» -/
theorem if_replace {x : Str} {tk : Tok} {c : Nat} {cs r tx : Str} {p1 p2 p3 p4 p5 p6 p7 p8 p9 p10 p11 : Pos} {Q : Flow → Shared → Prop}
    (F : Fr g L s.heap m) (hm : m tx = some (.str x tk)) (hx : x.length ≤ 1000000) (ht : 0 < s.toks) (hcs : cs = ⟨#[c]⟩) (hr : r.length ≤ 14) (hne : (cs == r) = false)
    (h : ∀ h' tk' t', 0 < tk' → Fr g L h' (fun y => if y = tx then some (.str (Txt.replace x cs r) t') else m y) → Q .next { s with heap := h', toks := tk' })
    (hk : scope.kind = .function) (hl : (envOf name scope L a cd).kindOf tx = some .local) (hd : (tx == ("__debug__" : Str)) = false)
    {pl : Sem Bool} (he : eval (.Call (.Attribute (.Name tx p5) (Str.ofString "replace") p6) [.Constant (.str cs) 0 p7, .Constant (.str r) 0 p8] [] p9) (envOf name scope L a cd) = (do
      let ov ← eval (.Name tx p5) (envOf name scope L a cd)
      standAt p6.atName
      let (f, first) ← holding [ov] (getMethod ov (Str.ofString "replace") pl)
      callWith p9 f first (backTo p9 (starEach [.Constant (.str cs) 0 p7, .Constant (.str r) 0 p8] (envOf name scope L a cd))) [])) :
    wpAny (model PR w) A (exec (.If (.Compare (.Constant (.str cs) 0 p1) [.In] [.Name tx p2] p3)
      [.Assign [.Name tx p4] (.Call (.Attribute (.Name tx p5) (Str.ofString "replace") p6) [.Constant (.str cs) 0 p7, .Constant (.str r) 0 p8] [] p9) p10] [] p11) (envOf name scope L a cd)) Q E s := by
  walk1
  walk1
  walk1
  refine ld F hm ?_ hk hl hd
  walk1
  walk1
  split
  · walk1
    walk1
    refine MethodCall_ (pl := pl) ?_ he
    refine ld F hm ?_ hk hl hd
    walk1
    walk1
    walk1
    walk1
    walk1
    walk1
    walk1
    refine wpAny_with_toks (n := 1) (by show 1 ≤ s.toks + 1 + 1 + 1; (with_reducible exact Nat.le_add_left _ _)) ?_
    refine SC.replaceW (by show s.toks + 1 ≠ 0; (exact Nat.ne_of_gt (Nat.lt_succ_of_le (Nat.le_of_lt ht)))) (by show s.toks + 1 + 1 ≠ 0; omega) (by show s.toks + 1 ≠ s.toks + 1 + 1; omega) hne (by (exact Nat.le_of_lt (Nat.lt_of_le_of_lt hx (by decide)))) hr ?_
    intro t' k hk'
    refine st F ?_ hk hl
    intro h' F'
    refine wpAny_execs_nil ?_
    exact h _ _ _ (Nat.succ_pos _) F'
  · rename_i hc
    refine wpAny_execs_nil ?_
    have hx' : Txt.replace x cs r = x := by
      subst hcs
      exact replace_absent (by simpa using hc)
    refine h _ _ tk (by (with_reducible exact Nat.succ_pos _)) ?_
    rw [hx']; exact Fr_pin F hm
end

theorem of38 : Str.ofString "&" = ⟨#[38]⟩ := by decide +kernel
theorem of60 : Str.ofString "<" = ⟨#[60]⟩ := by decide +kernel
theorem of62 : Str.ofString ">" = ⟨#[62]⟩ := by decide +kernel
theorem of34 : Str.ofString "\"" = ⟨#[34]⟩ := by decide +kernel
theorem of13 : Str.ofString "\r" = ⟨#[13]⟩ := by decide +kernel
theorem of10 : Str.ofString "\n" = ⟨#[10]⟩ := by decide +kernel
theorem of9 : Str.ofString "\t" = ⟨#[9]⟩ := by decide +kernel
theorem ofamp : Str.ofString "&amp;" = ⟨#[38, 97, 109, 112, 59]⟩ := by decide +kernel
theorem oflt : Str.ofString "&lt;" = ⟨#[38, 108, 116, 59]⟩ := by decide +kernel
theorem ofgt : Str.ofString "&gt;" = ⟨#[38, 103, 116, 59]⟩ := by decide +kernel
theorem ofquot : Str.ofString "&quot;" = ⟨#[38, 113, 117, 111, 116, 59]⟩ := by decide +kernel
theorem ofr0 : Str.ofString "&#13;" = ⟨#[38, 35, 49, 51, 59]⟩ := by decide +kernel
theorem ofn0 : Str.ofString "&#10;" = ⟨#[38, 35, 49, 48, 59]⟩ := by decide +kernel
theorem oft0 : Str.ofString "&#09;" = ⟨#[38, 35, 48, 57, 59]⟩ := by decide +kernel
theorem oft2 : Str.ofString "&#x9;" = ⟨#[38, 35, 120, 57, 59]⟩ := by decide +kernel
theorem ofn2 : Str.ofString "&#xA;" = ⟨#[38, 35, 120, 65, 59]⟩ := by decide +kernel
theorem ofr2 : Str.ofString "&#xD;" = ⟨#[38, 35, 120, 68, 59]⟩ := by decide +kernel
theorem grows {x cs r : Str} {c : Nat} (hcs : cs = ⟨#[c]⟩) (hr : 1 ≤ r.length) : x.length ≤ (Txt.replace x cs r).length := by subst hcs; exact len_replace_le x r c hr

theorem esc0_code {w : World} {A : Around} {s : Shared} {R : Result → Shared → Prop} {x : Str} {tk : Tok}
    (G : Gd w s.heap) (hroom : A.depth < recursionLimit) (hx : x.length ≤ 100000) (ht : 0 < s.toks)
    (h : ∀ t h' tk', (∀ b o, s.heap.get? b = some o → h'.get? b = some o) → 0 < tk' → R (.ok (.ret (.str (escS 0 x) t))) { s with heap := h', toks := tk' }) :
    codeAny (model PR w) A (.call (.ref 28) ⟨[.str x tk], []⟩) R s := by
  have hlen : (escS 0 x).length ≤ 600000 := by have := escL_len 0 (lst x); rw [len_txt]; rw [len_lst] at hx; omega
  rw [← esc0_chain, ← of38, ← ofamp, ← of60, ← oflt, ← of62, ← ofgt, ← of34, ← ofquot, ← of13, ← ofr0, ← of10, ← ofn0, ← of9, ← oft0] at hlen h
  have g1 := grows (x := x) of38 (r := Str.ofString "&amp;") (by decide +kernel)
  generalize hx1 : Txt.replace x (Str.ofString "&") (Str.ofString "&amp;") = x1 at hlen h g1
  have g2 := grows (x := x1) of60 (r := Str.ofString "&lt;") (by decide +kernel)
  generalize hx2 : Txt.replace x1 (Str.ofString "<") (Str.ofString "&lt;") = x2 at hlen h g2
  have g3 := grows (x := x2) of62 (r := Str.ofString "&gt;") (by decide +kernel)
  generalize hx3 : Txt.replace x2 (Str.ofString ">") (Str.ofString "&gt;") = x3 at hlen h g3
  have g4 := grows (x := x3) of34 (r := Str.ofString "&quot;") (by decide +kernel)
  generalize hx4 : Txt.replace x3 (Str.ofString "\"") (Str.ofString "&quot;") = x4 at hlen h g4
  have g5 := grows (x := x4) of13 (r := Str.ofString "&#13;") (by decide +kernel)
  generalize hx5 : Txt.replace x4 (Str.ofString "\r") (Str.ofString "&#13;") = x5 at hlen h g5
  have g6 := grows (x := x5) of10 (r := Str.ofString "&#10;") (by decide +kernel)
  generalize hx6 : Txt.replace x5 (Str.ofString "\n") (Str.ofString "&#10;") = x6 at hlen h g6
  have g7 := grows (x := x6) of9 (r := Str.ofString "&#09;") (by decide +kernel)
  generalize hx7 : Txt.replace x6 (Str.ofString "\t") (Str.ofString "&#09;") = x7 at hlen h g7
  refine' enter (binds := [(Str.ofString "text", .str x tk)]) G (fun _ _ e => e) (Nat.le_refl _) ?ho ?hcd hroom ?hb ?hl ?hbody ?h1 ?h2 ?h3 ?h4
  case ho => rfl
  case hcd => rfl
  case hb => exact BindsTo.of_eq rfl
  case hl => exact locs rfl
  case h1 => decide
  case h2 => rfl
  case h3 => rfl
  case h4 => rfl
  intro L h₁ hL F hk
  walk1
  walk1
  walk1
  refine if_replace F rfl (by (exact Nat.le_of_lt (Nat.lt_of_le_of_lt hx (by decide)))) (by show 0 < s.toks + 1; (with_reducible exact Nat.succ_pos _)) of38 (by decide +kernel) (by decide +kernel) ?_ rfl rfl rfl rfl
  rw [hx1]; clear F; intro h₁ k₁ t₁ hk₁ F
  walk1
  refine if_replace F rfl (by (exact Nat.le_of_lt (Nat.lt_of_le_of_lt g2 (Nat.lt_of_le_of_lt g3 (Nat.lt_of_le_of_lt g4 (Nat.lt_of_le_of_lt g5 (Nat.lt_of_le_of_lt g6 (Nat.lt_of_le_of_lt g7 (Nat.lt_of_le_of_lt hlen (by decide)))))))))) hk₁ of60 (by decide +kernel) (by decide +kernel) ?_ rfl rfl rfl rfl
  rw [hx2]; clear F; intro h₁ k₁ t₁ hk₁ F
  walk1
  refine if_replace F rfl (by (exact Nat.le_of_lt (Nat.lt_of_le_of_lt g3 (Nat.lt_of_le_of_lt g4 (Nat.lt_of_le_of_lt g5 (Nat.lt_of_le_of_lt g6 (Nat.lt_of_le_of_lt g7 (Nat.lt_of_le_of_lt hlen (by decide))))))))) hk₁ of62 (by decide +kernel) (by decide +kernel) ?_ rfl rfl rfl rfl
  rw [hx3]; clear F; intro h₁ k₁ t₁ hk₁ F
  walk1
  refine if_replace F rfl (by (exact Nat.le_of_lt (Nat.lt_of_le_of_lt g4 (Nat.lt_of_le_of_lt g5 (Nat.lt_of_le_of_lt g6 (Nat.lt_of_le_of_lt g7 (Nat.lt_of_le_of_lt hlen (by decide)))))))) hk₁ of34 (by decide +kernel) (by decide +kernel) ?_ rfl rfl rfl rfl
  rw [hx4]; clear F; intro h₁ k₁ t₁ hk₁ F
  walk1
  refine if_replace F rfl (by (exact Nat.le_of_lt (Nat.lt_of_le_of_lt g5 (Nat.lt_of_le_of_lt g6 (Nat.lt_of_le_of_lt g7 (Nat.lt_of_le_of_lt hlen (by decide))))))) hk₁ of13 (by decide +kernel) (by decide +kernel) ?_ rfl rfl rfl rfl
  rw [hx5]; clear F; intro h₁ k₁ t₁ hk₁ F
  walk1
  refine if_replace F rfl (by (exact Nat.le_of_lt (Nat.lt_of_le_of_lt g6 (Nat.lt_of_le_of_lt g7 (Nat.lt_of_le_of_lt hlen (by decide)))))) hk₁ of10 (by decide +kernel) (by decide +kernel) ?_ rfl rfl rfl rfl
  rw [hx6]; clear F; intro h₁ k₁ t₁ hk₁ F
  walk1
  refine if_replace F rfl (by (exact Nat.le_of_lt (Nat.lt_of_le_of_lt g7 (Nat.lt_of_le_of_lt hlen (by decide))))) hk₁ of9 (by decide +kernel) (by decide +kernel) ?_ rfl rfl rfl rfl
  rw [hx7]; clear F; intro h₁ k₁ t₁ hk₁ F
  walk1
  walk1
  walk1
  exact h _ _ _ F.keep hk₁
theorem esc1_code {w : World} {A : Around} {s : Shared} {R : Result → Shared → Prop} {x : Str} {tk : Tok}
    (G : Gd w s.heap) (hroom : A.depth < recursionLimit) (hx : x.length ≤ 100000) (ht : 0 < s.toks)
    (h : ∀ t h' tk', (∀ b o, s.heap.get? b = some o → h'.get? b = some o) → 0 < tk' → R (.ok (.ret (.str (escS 1 x) t))) { s with heap := h', toks := tk' }) :
    codeAny (model PR w) A (.call (.ref 35) ⟨[.str x tk], []⟩) R s := by
  have hlen : (escS 1 x).length ≤ 600000 := by have := escL_len 1 (lst x); rw [len_txt]; rw [len_lst] at hx; omega
  rw [← esc1_chain, ← of38, ← ofamp, ← of62, ← ofgt, ← of34, ← ofquot] at hlen h
  have g1 := grows (x := x) of38 (r := Str.ofString "&amp;") (by decide +kernel)
  generalize hx1 : Txt.replace x (Str.ofString "&") (Str.ofString "&amp;") = x1 at hlen h g1
  have g2 := grows (x := x1) of62 (r := Str.ofString "&gt;") (by decide +kernel)
  generalize hx2 : Txt.replace x1 (Str.ofString ">") (Str.ofString "&gt;") = x2 at hlen h g2
  have g3 := grows (x := x2) of34 (r := Str.ofString "&quot;") (by decide +kernel)
  generalize hx3 : Txt.replace x2 (Str.ofString "\"") (Str.ofString "&quot;") = x3 at hlen h g3
  refine' enter (binds := [(Str.ofString "text", .str x tk)]) G (fun _ _ e => e) (Nat.le_refl _) ?ho ?hcd hroom ?hb ?hl ?hbody ?h1 ?h2 ?h3 ?h4
  case ho => rfl
  case hcd => rfl
  case hb => exact BindsTo.of_eq rfl
  case hl => exact locs rfl
  case h1 => decide
  case h2 => rfl
  case h3 => rfl
  case h4 => rfl
  intro L h₁ hL F hk
  walk1
  walk1
  walk1
  refine if_replace F rfl (by (exact Nat.le_of_lt (Nat.lt_of_le_of_lt hx (by decide)))) (by show 0 < s.toks + 1; (with_reducible exact Nat.succ_pos _)) of38 (by decide +kernel) (by decide +kernel) ?_ rfl rfl rfl rfl
  rw [hx1]; clear F; intro h₁ k₁ t₁ hk₁ F
  walk1
  refine if_replace F rfl (by (exact Nat.le_of_lt (Nat.lt_of_le_of_lt g2 (Nat.lt_of_le_of_lt g3 (Nat.lt_of_le_of_lt hlen (by decide)))))) hk₁ of62 (by decide +kernel) (by decide +kernel) ?_ rfl rfl rfl rfl
  rw [hx2]; clear F; intro h₁ k₁ t₁ hk₁ F
  walk1
  refine if_replace F rfl (by (exact Nat.le_of_lt (Nat.lt_of_le_of_lt g3 (Nat.lt_of_le_of_lt hlen (by decide))))) hk₁ of34 (by decide +kernel) (by decide +kernel) ?_ rfl rfl rfl rfl
  rw [hx3]; clear F; intro h₁ k₁ t₁ hk₁ F
  walk1
  walk1
  walk1
  exact h _ _ _ F.keep hk₁
theorem esc2_code {w : World} {A : Around} {s : Shared} {R : Result → Shared → Prop} {x : Str} {tk : Tok}
    (G : Gd w s.heap) (hroom : A.depth < recursionLimit) (hx : x.length ≤ 100000) (ht : 0 < s.toks)
    (h : ∀ t h' tk', (∀ b o, s.heap.get? b = some o → h'.get? b = some o) → 0 < tk' → R (.ok (.ret (.str (escS 2 x) t))) { s with heap := h', toks := tk' }) :
    codeAny (model PR w) A (.call (.ref 42) ⟨[.str x tk], []⟩) R s := by
  have hlen : (escS 2 x).length ≤ 600000 := by have := escL_len 2 (lst x); rw [len_txt]; rw [len_lst] at hx; omega
  rw [← esc2_chain, ← of38, ← ofamp, ← of60, ← oflt, ← of34, ← ofquot, ← of9, ← oft2, ← of10, ← ofn2, ← of13, ← ofr2] at hlen h
  have g1 := grows (x := x) of38 (r := Str.ofString "&amp;") (by decide +kernel)
  generalize hx1 : Txt.replace x (Str.ofString "&") (Str.ofString "&amp;") = x1 at hlen h g1
  have g2 := grows (x := x1) of60 (r := Str.ofString "&lt;") (by decide +kernel)
  generalize hx2 : Txt.replace x1 (Str.ofString "<") (Str.ofString "&lt;") = x2 at hlen h g2
  have g3 := grows (x := x2) of34 (r := Str.ofString "&quot;") (by decide +kernel)
  generalize hx3 : Txt.replace x2 (Str.ofString "\"") (Str.ofString "&quot;") = x3 at hlen h g3
  have g4 := grows (x := x3) of9 (r := Str.ofString "&#x9;") (by decide +kernel)
  generalize hx4 : Txt.replace x3 (Str.ofString "\t") (Str.ofString "&#x9;") = x4 at hlen h g4
  have g5 := grows (x := x4) of10 (r := Str.ofString "&#xA;") (by decide +kernel)
  generalize hx5 : Txt.replace x4 (Str.ofString "\n") (Str.ofString "&#xA;") = x5 at hlen h g5
  have g6 := grows (x := x5) of13 (r := Str.ofString "&#xD;") (by decide +kernel)
  generalize hx6 : Txt.replace x5 (Str.ofString "\r") (Str.ofString "&#xD;") = x6 at hlen h g6
  refine' enter (binds := [(Str.ofString "text", .str x tk)]) G (fun _ _ e => e) (Nat.le_refl _) ?ho ?hcd hroom ?hb ?hl ?hbody ?h1 ?h2 ?h3 ?h4
  case ho => rfl
  case hcd => rfl
  case hb => exact BindsTo.of_eq rfl
  case hl => exact locs rfl
  case h1 => decide
  case h2 => rfl
  case h3 => rfl
  case h4 => rfl
  intro L h₁ hL F hk
  walk1
  walk1
  walk1
  refine if_replace F rfl (by (exact Nat.le_of_lt (Nat.lt_of_le_of_lt hx (by decide)))) (by show 0 < s.toks + 1; (with_reducible exact Nat.succ_pos _)) of38 (by decide +kernel) (by decide +kernel) ?_ rfl rfl rfl rfl
  rw [hx1]; clear F; intro h₁ k₁ t₁ hk₁ F
  walk1
  refine if_replace F rfl (by (exact Nat.le_of_lt (Nat.lt_of_le_of_lt g2 (Nat.lt_of_le_of_lt g3 (Nat.lt_of_le_of_lt g4 (Nat.lt_of_le_of_lt g5 (Nat.lt_of_le_of_lt g6 (Nat.lt_of_le_of_lt hlen (by decide))))))))) hk₁ of60 (by decide +kernel) (by decide +kernel) ?_ rfl rfl rfl rfl
  rw [hx2]; clear F; intro h₁ k₁ t₁ hk₁ F
  walk1
  refine if_replace F rfl (by (exact Nat.le_of_lt (Nat.lt_of_le_of_lt g3 (Nat.lt_of_le_of_lt g4 (Nat.lt_of_le_of_lt g5 (Nat.lt_of_le_of_lt g6 (Nat.lt_of_le_of_lt hlen (by decide)))))))) hk₁ of34 (by decide +kernel) (by decide +kernel) ?_ rfl rfl rfl rfl
  rw [hx3]; clear F; intro h₁ k₁ t₁ hk₁ F
  walk1
  refine if_replace F rfl (by (exact Nat.le_of_lt (Nat.lt_of_le_of_lt g4 (Nat.lt_of_le_of_lt g5 (Nat.lt_of_le_of_lt g6 (Nat.lt_of_le_of_lt hlen (by decide))))))) hk₁ of9 (by decide +kernel) (by decide +kernel) ?_ rfl rfl rfl rfl
  rw [hx4]; clear F; intro h₁ k₁ t₁ hk₁ F
  walk1
  refine if_replace F rfl (by (exact Nat.le_of_lt (Nat.lt_of_le_of_lt g5 (Nat.lt_of_le_of_lt g6 (Nat.lt_of_le_of_lt hlen (by decide)))))) hk₁ of10 (by decide +kernel) (by decide +kernel) ?_ rfl rfl rfl rfl
  rw [hx5]; clear F; intro h₁ k₁ t₁ hk₁ F
  walk1
  refine if_replace F rfl (by (exact Nat.le_of_lt (Nat.lt_of_le_of_lt g6 (Nat.lt_of_le_of_lt hlen (by decide))))) hk₁ of13 (by decide +kernel) (by decide +kernel) ?_ rfl rfl rfl rfl
  rw [hx6]; clear F; intro h₁ k₁ t₁ hk₁ F
  walk1
  walk1
  walk1
  exact h _ _ _ F.keep hk₁
end Mine

end T_W1
section GX
open PySem PySem.W PyProof.Rows PySem.Calls
local macro_rules | `(tactic| walk_at "execs cons") => `(tactic| refine wpAny_execs_cons ?_)
local macro_rules | `(tactic| walk_at "execs nil") => `(tactic| refine wpAny_execs_nil ?_)
section G0
open PySem PySem.W PyProof.Rows PySem.Calls
local macro_rules | `(tactic| walk_at "go") => `(tactic| repeat' ((fail_if_success (with_reducible show wpAny _ _ (PySem.call (Value.ref _) _ _) _ _ _)); walk1))
section T_W2
set_option autoImplicit false
open PySem PySem.W PyProof.Rows PySem.Calls
set_option Elab.async false
set_option maxRecDepth 100000
set_option maxHeartbeats 8000000
namespace Mine
theorem off_W2 : True := by w_top off; trivial
theorem fill (w : World) : Challenge.rw_nb0133_01.prog = Challenge.rw_nb0133_01.prog ∧ (hd.heap_39 w.params).length = (hd.heap_39 w.params).length := by
  k_fill
  exact ⟨rfl, rfl⟩
theorem write_code {w : World} {A : Around} {s : Shared} {R : Result → Shared → Prop} {k : Nat} {x : Str} {tk tk0 : Tok}
    (G : Gd w s.heap) (hroom : A.depth + 1 < recursionLimit) (hk3 : k < 3) (hx : x.length ≤ 100000) (ht : 0 < s.toks)
    (h : ∀ t h' tk', (∀ b o, s.heap.get? b = some o → h'.get? b = some o) → 0 < tk' → R (.ok (.ret (.str (escS k x) t))) { s with heap := h', toks := tk' }) :
    codeAny (model PR w) A (.call (.ref 77) ⟨[.int k tk0, .str x tk], []⟩) R s := by
  have X := G.K
  obtain ⟨mean, mg, mb, T⟩ := G.T
  refine' enter (binds := [(Str.ofString "kind", .int k tk0), (Str.ofString "text", .str x tk)]) G (fun _ _ e => e) (Nat.le_refl _) ?ho ?hcd (by (exact (Nat.lt_of_succ_lt hroom))) ?hb ?hl ?hbody ?h1 ?h2 ?h3 ?h4
  case ho => rfl
  case hcd => rfl
  case hb => exact BindsTo.of_eq rfl
  case hl => exact locs rfl
  case h1 => decide
  case h2 => rfl
  case h3 => rfl
  case h4 => rfl
  intro L h₁ hL F hk
  have N : News s.heap L h₁ [] := News.nil
  walk_at "go"
  · refine wpAny_call (esc0_code (G.keeps F.keep) (by show A.depth + 1 < _; (with_reducible assumption)) hx (by dsimp only; (with_reducible exact Nat.succ_pos _)) ?_)
    intro t h' tk' hk' ht'
    have : k = 0 := by omega
    subst this
    exact h _ _ _ (fun b o e => hk' b o (hk b o e)) ht'
  · refine wpAny_call (esc1_code (G.keeps F.keep) (by show A.depth + 1 < _; (with_reducible assumption)) hx (by dsimp only; (with_reducible exact Nat.succ_pos _)) ?_)
    intro t h' tk' hk' ht'
    have : k = 1 := by omega
    subst this
    exact h _ _ _ (fun b o e => hk' b o (hk b o e)) ht'
  · refine wpAny_call (esc2_code (G.keeps F.keep) (by show A.depth + 1 < _; (with_reducible assumption)) hx (by dsimp only; (with_reducible exact Nat.succ_pos _)) ?_)
    intro t h' tk' hk' ht'
    have : k = 2 := by omega
    subst this
    exact h _ _ _ (fun b o e => hk' b o (hk b o e)) ht'
end Mine

end T_W2
end G0
section T_Pl2
set_option autoImplicit false
open PySem PySem.W PyProof.Rows
namespace Mine

/-- what stands in a node behind its writer's number -/
inductive Its where
  | nil
  | str (x : Str) (r : Its)
  | sub (k : Nat) (d : Its) (r : Its)

/-- the row of a node whose writer is k -/
def Its.row : Its → Nat → List Nat
  | .nil, _ => []
  | .str x r, k => escL k (lst x) ++ r.row k
  | .sub j d r, k => 34 :: (escL k (d.row j) ++ 34 :: r.row k)
/-- the nodes in it, the deepest first -/
def Its.told : Its → List (Nat × Its)
  | .nil => []
  | .str _ r => r.told
  | .sub j d r => d.told ++ (j, d) :: r.told
def Its.depth : Its → Nat
  | .nil => 0
  | .str _ r => r.depth
  | .sub _ d r => max (d.depth + 1) r.depth
def Its.count : Its → Nat
  | .nil => 0
  | .str _ r => r.count + 1
  | .sub _ d r => d.count + r.count + 1
def pieces : List (List Nat) := [[40], [41], [34], [38], [92, 40], [97], [92, 34], [60], [92, 92], [9], [38, 97, 109, 112, 59], [10]]
def Its.ok : Its → Prop
  | .nil => True
  | .str x r => lst x ∈ pieces ∧ r.ok
  | .sub j d r => j < 3 ∧ d.ok ∧ r.ok
theorem piece_len {l : List Nat} (h : l ∈ pieces) : l.length ≤ 5 := by
  have : ∀ l ∈ pieces, l.length ≤ 5 := by decide
  exact this l h
theorem piece_ne {l : List Nat} (h : l ∈ pieces) : l ≠ [] := by
  have : ∀ l ∈ pieces, l ≠ [] := by decide
  exact this l h
theorem Its.row_len : ∀ (t : Its) (k : Nat), t.ok → (t.row k).length ≤ 32 * t.count * 6 ^ t.depth
  | .nil, _, _ => by simp [Its.row]
  | .str x r, k, h => by
    have h1 := r.row_len k h.2
    have h2 := escL_len k (lst x)
    have h3 := piece_len h.1
    simp only [Its.row, Its.count, Its.depth, List.length_append] at h1 ⊢
    have h4 : 1 ≤ 6 ^ r.depth := Nat.one_le_pow _ _ (by decide)
    have h5 : 32 * (r.count + 1) * 6 ^ r.depth = 32 * r.count * 6 ^ r.depth + 32 * 6 ^ r.depth := by rw [Nat.mul_add, Nat.add_mul]
    omega
  | .sub j d r, k, h => by
    have h1 := r.row_len k h.2.2
    have h2 := d.row_len j h.2.1
    have h3 := escL_len k (d.row j)
    simp only [Its.row, Its.count, Its.depth, List.length_append, List.length_cons] at h1 h2 h3 ⊢
    generalize hD : max (d.depth + 1) r.depth = D
    have a1 : 6 ^ r.depth ≤ 6 ^ D := Nat.pow_le_pow_right (by decide) (by omega)
    have a2 : 6 ^ (d.depth + 1) ≤ 6 ^ D := Nat.pow_le_pow_right (by decide) (by omega)
    have a3 : 1 ≤ 6 ^ D := Nat.one_le_pow _ _ (by decide)
    have b1 : 32 * r.count * 6 ^ r.depth ≤ 32 * r.count * 6 ^ D := Nat.mul_le_mul_left _ a1
    have b2 : 32 * d.count * 6 ^ (d.depth + 1) ≤ 32 * d.count * 6 ^ D := Nat.mul_le_mul_left _ a2
    have b3 : 6 * (32 * d.count * 6 ^ d.depth) = 32 * d.count * 6 ^ (d.depth + 1) := by rw [Nat.pow_succ, Nat.mul_comm 6, Nat.mul_assoc (32 * d.count)]
    have b4 : 32 * (d.count + r.count + 1) * 6 ^ D = 32 * d.count * 6 ^ D + 32 * r.count * 6 ^ D + 32 * 6 ^ D := by
      rw [Nat.mul_add, Nat.mul_add, Nat.add_mul, Nat.add_mul]
    have b5 : 6 * (d.row j).length ≤ 6 * (32 * d.count * 6 ^ d.depth) := Nat.mul_le_mul_left _ h2
    omega
/-- small enough -/
def Its.small (t : Its) : Prop := t.ok ∧ t.count ≤ 10 ∧ t.depth ≤ 3
theorem Its.small_row {t : Its} (h : t.small) (k : Nat) : (t.row k).length ≤ 69120 := by
  have h1 := t.row_len k h.1
  have h2 : 6 ^ t.depth ≤ 6 ^ 3 := Nat.pow_le_pow_right (by decide) h.2.2
  have h3 : 32 * t.count * 6 ^ t.depth ≤ 320 * 6 ^ 3 := Nat.mul_le_mul (by have := h.2.1; omega) h2
  (exact (Nat.le_trans h1 (Nat.le_trans h3 (by decide))))
theorem Its.small_str {x : Str} {r : Its} (h : (Its.str x r).small) : lst x ∈ pieces ∧ r.small := by
  obtain ⟨a, b, c⟩ := h
  simp only [Its.count, Its.depth] at b c
  exact ⟨a.1, a.2, by (exact Nat.le_of_lt (Nat.lt_of_succ_le b)), c⟩
theorem Its.small_sub {j : Nat} {d r : Its} (h : (Its.sub j d r).small) : j < 3 ∧ d.small ∧ r.small ∧ d.depth + 1 ≤ (Its.sub j d r).depth ∧ r.depth ≤ (Its.sub j d r).depth := by
  obtain ⟨a, b, c⟩ := h
  simp only [Its.count, Its.depth] at b c ⊢
  exact ⟨a.1, ⟨a.2.1, Nat.le_trans (Nat.le_trans (Nat.le_add_right _ _) (Nat.le_add_right _ 1)) b, Nat.le_trans (Nat.le_trans (Nat.le_succ _) (Nat.le_max_left _ _)) c⟩, ⟨a.2.2, Nat.le_trans (Nat.le_trans (Nat.le_add_left _ _) (Nat.le_add_right _ 1)) b, Nat.le_trans (Nat.le_max_right _ _) c⟩, Nat.le_max_left _ _, Nat.le_max_right _ _⟩

/-- the objects bear it -/
def ItemsAt (lk : Addr → Option Obj) : Its → List Value → Prop
  | .nil, vs => vs = []
  | .str x r, vs => ∃ tk vs', vs = .str x tk :: vs' ∧ ItemsAt lk r vs'
  | .sub k d r, vs => ∃ a tk ws n vs', vs = .ref a :: vs' ∧ lk a = some (listOf (Value.int k tk :: ws).toArray n) ∧ ItemsAt lk d ws ∧ ItemsAt lk r vs'
def NodeAt (lk : Addr → Option Obj) (v : Value) (k : Nat) (t : Its) : Prop :=
  ∃ a tk ws n, v = .ref a ∧ lk a = some (listOf (Value.int k tk :: ws).toArray n) ∧ ItemsAt lk t ws
theorem ItemsAt.mono {lk lk' : Addr → Option Obj} (h : ∀ a o, lk a = some o → lk' a = some o) : ∀ {t : Its} {vs : List Value}, ItemsAt lk t vs → ItemsAt lk' t vs
  | .nil, _, e => e
  | .str _ _, _, ⟨tk, vs', e, r⟩ => ⟨tk, vs', e, r.mono h⟩
  | .sub _ _ _, _, ⟨a, tk, ws, n, vs', e, o, d, r⟩ => ⟨a, tk, ws, n, vs', e, h _ _ o, d.mono h, r.mono h⟩
theorem NodeAt.mono {lk lk' : Addr → Option Obj} (h : ∀ a o, lk a = some o → lk' a = some o) {v : Value} {k : Nat} {t : Its} : NodeAt lk v k t → NodeAt lk' v k t
  | ⟨a, tk, ws, n, e, o, r⟩ => ⟨a, tk, ws, n, e, h _ _ o, r.mono h⟩
theorem ItemsAt.length {lk : Addr → Option Obj} : ∀ {t : Its} {vs : List Value}, ItemsAt lk t vs → vs.length ≤ t.count
  | .nil, _, e => by rw [e]; simp [Its.count]
  | .str _ r, _, ⟨tk, vs', e, h⟩ => by rw [e]; have := h.length; simp only [Its.count, List.length_cons]; omega
  | .sub _ d r, _, ⟨a, tk, ws, n, vs', e, o, _, h⟩ => by rw [e]; have := h.length; simp only [Its.count, List.length_cons]; omega
/-- the pairs that _law_row lays -/
def ToldAt (lk : Addr → Option Obj) : List (Nat × Its) → List Value → Prop
  | [], vs => vs = []
  | (k, t) :: r, vs => ∃ a tk nv n vs', vs = .ref a :: vs' ∧ lk a = some { cls := .type "tuple", data := .seq #[.str (txt (t.row k)) tk, nv] n } ∧ NodeAt lk nv k t ∧ ToldAt lk r vs'
theorem ToldAt.mono {lk lk' : Addr → Option Obj} (h : ∀ a o, lk a = some o → lk' a = some o) : ∀ {l : List (Nat × Its)} {vs : List Value}, ToldAt lk l vs → ToldAt lk' l vs
  | [], _, e => e
  | (_, _) :: _, _, ⟨a, tk, nv, n, vs', e, o, d, r⟩ => ⟨a, tk, nv, n, vs', e, h _ _ o, d.mono h, r.mono h⟩
theorem ToldAt.append {lk : Addr → Option Obj} : ∀ {l l' : List (Nat × Its)} {vs vs' : List Value}, ToldAt lk l vs → ToldAt lk l' vs' → ToldAt lk (l ++ l') (vs ++ vs')
  | [], _, _, _, e, h => by rw [e]; exact h
  | (_, _) :: _, _, _, _, ⟨a, tk, nv, n, vs', e, o, d, r⟩, h => ⟨a, tk, nv, n, vs' ++ _, by rw [e]; rfl, o, d, r.append h⟩
theorem ToldAt.length {lk : Addr → Option Obj} : ∀ {l : List (Nat × Its)} {vs : List Value}, ToldAt lk l vs → vs.length = l.length
  | [], _, e => by rw [e]; rfl
  | (_, _) :: _, _, ⟨a, tk, nv, n, vs', e, o, d, r⟩ => by rw [e]; simp only [List.length_cons, r.length]
theorem Its.told_len : ∀ t : Its, t.told.length ≤ t.count
  | .nil => by simp [Its.told]
  | .str _ r => by have := r.told_len; simp only [Its.told, Its.count]; (exact Nat.le_add_right_of_le this)
  | .sub _ d r => by have := r.told_len; have := d.told_len; simp only [Its.told, Its.count, List.length_append, List.length_cons]; omega
end Mine

end T_Pl2
section T_W3
set_option autoImplicit false
open PySem PySem.W PyProof.Rows PySem.Calls
set_option Elab.async false
set_option maxRecDepth 100000
set_option maxHeartbeats 8000000
namespace Mine
theorem off_W3 : True := by w_top off; trivial
abbrev NoE : Value → Shared → Prop := fun _ _ => False
theorem wp_noE {α : Type} {M : Model} {A : Around} {t : Sem α} {Q : α → Shared → Prop} {E : Value → Shared → Prop} {s : Shared} (h : wpAny M A t Q NoE s) : wpAny M A t Q E s :=
  wpAny_mono h (fun _ _ x => x) (fun _ _ x => x.elim)

/-- a def is entered; nothing escapes from its body -/
theorem enterF {w : World} {A : Around} {s : Shared} {R : Result → Shared → Prop} {g : Heap}
    {name qual : Str} {params : Arguments} {body : List Stmt} {scope : Scope} {dV kV doc pm cdv ct oc : Value} {an od : Option Addr} {osl : Array (Option Value)} {f : Addr} {args : Args} {binds : List (Str × Value)}
    (G : Gd w g) (hg : ∀ b o, g.get? b = some o → s.heap.get? b = some o) (hgs : g.objs.size ≤ s.heap.objs.size)
    (ho : (hd.heap_39 w.params).lookup f = some ⟨oc, od, .func (fnOf name qual params body scope dV kV doc pm an cdv ct), osl⟩) (hcd : codeIn (hd.heap_39 w.params) cdv qual = true) (hroom : A.depth < recursionLimit)
    (hbind : BindsTo s (fnOf name qual params body scope dV kV doc pm an cdv ct) args binds) (hloc : ∀ y ∈ binds, scope.names.lookup y.1 = some .local)
    (h : ∀ (L : Nat) (h₁ : Heap), L = s.heap.objs.size → Fr g L h₁ (fun y => binds.reverse.lookup y) → (∀ b o, s.heap.get? b = some o → h₁.get? b = some o) →
      wpAny (model PR w) (A.deeper (envOf qual scope L f cdv)) (execs body (envOf qual scope L f cdv))
        (fun fl s' => R (.ok (.ret (match fl with | .ret v => v | _ => .none))) s') NoE
        { s with heap := h₁, toks := s.toks + binds.length })
    (hcell : ∀ x ∈ scope.names, x.2 ≠ .cell) (hco : scope.isCoroutine = false) (hgen : scope.isGenerator = false) (hk : scope.kind = .function) : codeAny (model PR w) A (.call (.ref f) args) R s :=
  enter G hg hgs ho hcd hroom hbind hloc (fun L h₁ a b c => wp_noE (h L h₁ a b c)) hcell hco hgen hk

/-- a for-loop over an iterator that is walked -/
theorem loopW {w : World} {A : Around} {s : Shared} {R : Result → Shared → Prop} {env : Env} {target : Expr} {body : List Stmt} {I : Addr} {fp wr : List Addr} {n : Nat} {P : Nat → Value → Prop} {St : Nat → Heap → Prop}
    (W : Walks PR w A I fp wr n P St) (Inv : Nat → Shared → Prop)
    (hst : St 0 s.heap) (h0 : Inv 0 s)
    (stab : ∀ i (s₁ : Shared) h' tk, Inv i s₁ → s₁.toks ≤ tk → (∀ b o, b ∉ wr → s₁.heap.get? b = some o → h'.get? b = some o) → Inv i { s₁ with heap := h', toks := tk })
    (step : ∀ i v s₁, i < n → P i v → Inv i s₁ → St (i + 1) s₁.heap →
      wpAny (model PR w) A (assign target env v) (fun _ s₂ => wpAny (model PR w) A (execs body env) (fun f s₃ => match f with
        | .next | .cont => St (i + 1) s₃.heap ∧ Inv (i + 1) s₃
        | .brk => R (.ok .next) s₃
        | .ret v => R (.ok (.ret v)) s₃) NoE s₂) NoE s₁)
    (done : ∀ s₁, Inv n s₁ → R (.ok .next) s₁)
    (ht : ∀ v, letOwnedTupleGo target (.ref I) v = pure () := by intro _; rfl) :
    codeAny (model PR w) A (.forLoop target (.ref I) body [] env) R s := by
  refine codeAny_forLoop (fun k s' => ∃ i, i ≤ n ∧ k = n + 1 - i ∧ St i s'.heap ∧ Inv i s') ?_ (n + 1) ⟨0, Nat.zero_le _, rfl, hst, h0⟩ ht
  rintro k s' ⟨i, hi, rfl, hst', hI⟩
  by_cases hlt : i < n
  · refine wpAny_with_toks (n := s'.toks) (Nat.le_refl _) (W.item i _ _ _ hlt hst' fun v h₁ tk₁ hP hst₁ hk₁ htk => ?_)
    refine wp_noE (wpAny_mono (step i v _ hlt hP (stab i s' h₁ tk₁ hI htk hk₁) hst₁) (fun _ s₂ h₂ => wp_noE (wpAny_mono h₂ (fun f s₃ h₃ => ?_) fun _ _ e => e)) fun _ _ e => e)
    cases f with
    | next => exact ⟨n + 1 - (i + 1), by omega, i + 1, hlt, rfl, h₃.1, h₃.2⟩
    | cont => exact ⟨n + 1 - (i + 1), by omega, i + 1, hlt, rfl, h₃.1, h₃.2⟩
    | brk => exact h₃
    | ret v => exact h₃
  · have hin : i = n := by omega
    subst hin
    refine wpAny_with_toks (n := s'.toks) (Nat.le_refl _) (W.done _ _ _ hst' fun h₁ tk₁ hk₁ htk => wpAny_execs_nil ?_)
    exact done _ (stab i s' h₁ tk₁ hI htk hk₁)

/-- a for statement over a list of the heap's -/
theorem forList {w : World} {A : Around} {s : Shared} {Q : Flow → Shared → Prop} {env : Env} {target iter : Expr} {body : List Stmt} {pos : Pos} {E : Value → Shared → Prop}
    (hh : A.handled = none) (hs : ∀ x, foldedSetIterable iter env x = pure x)
    (hgo : ∀ I v, letOwnedTupleGo target (.ref I) v = pure ())
    (h : wpAny (model PR w) A (eval iter env) (fun xv s₁ => ∃ (l : Addr) (items : Array Value) (Inv : Nat → Shared → Prop), xv = .ref l ∧ s₁.heap.IsList l items ∧
        (∀ i (s₂ : Shared) h' tk, Inv i s₂ → s₂.toks ≤ tk → (∀ b o, b ≠ s₁.heap.objs.size → s₂.heap.get? b = some o → h'.get? b = some o) → Inv i { s₂ with heap := h', toks := tk }) ∧
        Inv 0 s₁ ∧
        (∀ i v s₂, items[i]? = some v → Inv i s₂ → s₂.heap.IsListIter s₁.heap.objs.size l (i + 1) → s₂.heap.IsList l items →
          wpAny (model PR w) A (assign target env v) (fun _ s₃ => wpAny (model PR w) A (execs body env) (fun f s₄ => match f with
            | .next | .cont => s₄.heap.IsListIter s₁.heap.objs.size l (i + 1) ∧ s₄.heap.IsList l items ∧ Inv (i + 1) s₄
            | .brk => Q .next s₄
            | .ret v => Q (.ret v) s₄) NoE s₃) NoE s₂) ∧
        (∀ s₂, Inv items.size s₂ → Q .next s₂)) E s) :
    wpAny (model PR w) A (exec (.For target iter body [] pos) env) Q E s := by
  refine wpAny_For (wpAny_mono h (fun xv s₁ h₁ => ?_) fun _ _ e => e) hs
  obtain ⟨l, items, Inv, rfl, hl, stab, h0, step, done⟩ := h₁
  have hne : l ≠ s₁.heap.objs.size := by
    obtain ⟨ol, hol, _⟩ := id hl
    exact Nat.ne_of_lt (Heap.lt_size hol)
  refine wpAny_pyIter_list hl ?_
  have W := Walks.list (prog := PR) (w := w) hh s₁.heap.objs.size l hne items
  have e0 : Inv 0 { s₁ with heap := s₁.heap.push { cls := .type "list_iterator", data := .fields #[.ref l, rawInt 0] } } := stab 0 s₁ _ _ h0 (Nat.le_refl _) fun b o _ e => Heap.get?_push_of_some _ e
  refine loopW W Inv ⟨⟨_, Heap.get?_push_size _ rfl, rfl, rfl⟩, hl.at fun o e => Heap.get?_push_of_some _ e⟩ e0 (fun i s₂ h' tk hI ht hk => stab i s₂ h' tk hI ht fun b o hb e => hk b o (by simpa using hb) e) ?_ (fun s₂ hI => done s₂ hI) (hgo _)
  intro i v s₂ hi hP hI hst
  refine wpAny_mono (step i v s₂ hP hI hst.1 hst.2) (fun _ s₃ h₃ => wpAny_mono h₃ (fun f s₄ h₄ => ?_) fun _ _ e => e) fun _ _ e => e
  cases f with
  | next => exact ⟨⟨h₄.1, h₄.2.1⟩, h₄.2.2⟩
  | cont => exact ⟨⟨h₄.1, h₄.2.1⟩, h₄.2.2⟩
  | brk => exact h₄
  | ret v => exact h₄
end Mine

end T_W3
section G1
open PySem PySem.W PyProof.Rows PySem.Calls
local macro_rules | `(tactic| walk_at "go") => `(tactic| repeat' ((fail_if_success (show (Heap.IsListIter _ _ _ _ ∧ _))); (fail_if_success (with_reducible show wpAny _ _ (PySem.call (Value.ref _) _ _) _ _ _)); (fail_if_success (with_reducible show wpAny _ _ (PySem.call (Value.builtin "list.append") _ _) _ _ _)); (fail_if_success (with_reducible show wpAny _ _ (PySem.call (Value.builtin "isinstance") [Value.ref _, _]) _ _ _)); (fail_if_success (with_reducible show wpAny _ _ (newTuple _) _ _ _)); (fail_if_success (with_reducible show wpAny _ _ (newList _) _ _ _)); (fail_if_success (with_reducible show wpAny _ _ (compareOp _ (Value.ref _) _) _ _ _)); walk1))
section T_W4
set_option autoImplicit false
open PySem PySem.W PyProof.Rows PySem.Calls
set_option Elab.async false
set_option maxRecDepth 100000
set_option maxHeartbeats 8000000
namespace Mine
theorem off_W4 : True := by w_top off; trivial
theorem fill4 (w : World) : Challenge.rw_nb0133_01.prog = Challenge.rw_nb0133_01.prog ∧ (hd.heap_39 w.params).length = (hd.heap_39 w.params).length := by
  k_fill
  exact ⟨rfl, rfl⟩

/-- all that stands above L, but M -/
noncomputable def led (L : Addr) (M : List Addr) (h : Heap) : List (Addr × Obj) := (List.range h.objs.size).filterMap fun a => if L < a ∧ a ∉ M then (h.get? a).map fun o => (a, o) else none
theorem mem_led {L : Addr} {M : List Addr} {h : Heap} {a : Addr} {o : Obj} : (a, o) ∈ led L M h ↔ L < a ∧ a ∉ M ∧ h.get? a = some o := by
  unfold led
  rw [List.mem_filterMap]
  constructor
  · rintro ⟨b, hb, e⟩
    split at e
    · rename_i hc
      cases hg : h.get? b with
      | none => rw [hg] at e; cases e
      | some o' => rw [hg] at e; cases e; exact ⟨hc.1, hc.2, hg⟩
    · cases e
  · rintro ⟨h1, h2, h3⟩
    exact ⟨a, List.mem_range.mpr (Heap.lt_size h3), by rw [if_pos ⟨h1, h2⟩, h3]; rfl⟩
theorem none_above {g : Heap} {L a : Nat} (hg : g.objs.size ≤ L) (ha : L < a) : g.get? a = none := by
  cases e : g.get? a with
  | none => rfl
  | some o => exact absurd (Heap.lt_size e) (Nat.not_lt.mpr (Nat.le_of_lt (Nat.lt_of_le_of_lt hg ha)))
theorem news_led {g h : Heap} {L : Addr} {m : Str → Option Value} (F : Fr g L h m) (M : List Addr) : News g L h (led L M h) := by
  rintro ⟨a, o⟩ hp
  obtain ⟨h1, _, h3⟩ := mem_led.mp hp
  exact ⟨h3, Nat.ne_of_gt h1, none_above F.above h1⟩
theorem news_cons {g h : Heap} {L a : Addr} {o : Obj} {n : List (Addr × Obj)} (h1 : h.get? a = some o) (h2 : a ≠ L) (h3 : g.get? a = none) (N : News g L h n) : News g L h ((a, o) :: n) := by
  intro p hp
  rcases List.mem_cons.mp hp with rfl | hp
  · exact ⟨h1, h2, h3⟩
  · exact N p hp
theorem led_ne {L d : Addr} {M : List Addr} {h : Heap} (hd : d ∈ M) : ∀ p ∈ led L M h, p.1 ≠ d := by
  rintro ⟨a, o⟩ hp rfl
  exact (mem_led.mp hp).2.1 hd
theorem Fr_kept {g h h' : Heap} {L : Nat} {m : Str → Option Value} {M : List Nat} (F : Fr g L h m) (hL : L ∉ M) (hM : ∀ a ∈ M, g.get? a = none) (hk : ∀ b o, b ∉ M → h.get? b = some o → h'.get? b = some o) : Fr g L h' m :=
  ⟨F.ns.at' fun o e => hk _ o hL e, fun b o e => hk b o (fun hb => by rw [hM b hb] at e; cases e) (F.keep b o e), F.above⟩
theorem News_kept {g h h' : Heap} {L : Nat} {n : List (Addr × Obj)} {M : List Nat} (N : News g L h n) (hn : ∀ p ∈ n, p.1 ∉ M) (hk : ∀ b o, b ∉ M → h.get? b = some o → h'.get? b = some o) : News g L h' n :=
  fun p hp => ⟨hk _ _ (hn p hp) (N p hp).1, (N p hp).2⟩

open Classical in
/-- what is read where P lets -/
noncomputable def lkP (P : Addr → Prop) (h : Heap) : Addr → Option Obj := fun a => if P a then h.get? a else none
theorem lkP_some {P : Addr → Prop} {a : Addr} {h : Heap} {o : Obj} : lkP P h a = some o ↔ P a ∧ h.get? a = some o := by
  unfold lkP
  split
  · rename_i hc; exact ⟨fun e => ⟨hc, e⟩, fun e => e.2⟩
  · rename_i hc; exact ⟨(fun e => by cases e), fun e => absurd e.1 hc⟩
theorem lkP_mono {P P' : Addr → Prop} {h h' : Heap} (hk : ∀ b o, P b → h.get? b = some o → P' b ∧ h'.get? b = some o) : ∀ a o, lkP P h a = some o → lkP P' h' a = some o := by
  intro a o e
  obtain ⟨h1, h2⟩ := lkP_some.mp e
  exact lkP_some.mpr (hk a o h1 h2)

/-- what a frame's walk keeps: what stood ahead of the call, and what stands above the frame -/
theorem kept_at {g h h' s₀ : Heap} {L b : Nat} {o : Obj} {m m' : Str → Option Value} {M : List Nat} {news : List (Addr × Obj)} (F : Fr g L h m) (F' : Fr g L h' m') (N' : News g L h' news)
    (hsub : ∀ p ∈ led L M h, p ∈ news) (hg : ∀ b o, b ∉ M → s₀.get? b = some o → g.get? b = some o) (hb : b ∉ M) (hp : L < b ∨ (s₀.get? b).isSome = true) (e : h.get? b = some o) : h'.get? b = some o := by
  rcases hp with hp | hp
  · exact (N' _ (hsub _ (mem_led.mpr ⟨hp, hb, e⟩))).1
  · obtain ⟨o', ho'⟩ := Option.isSome_iff_exists.mp hp
    have h1 := F.keep _ _ (hg _ _ hb ho')
    rw [e] at h1
    cases h1
    exact F'.keep _ _ (hg _ _ hb ho')

def RowC (w : World) (t : Its) : Prop := ∀ {A : Around} {s : Shared} {R : Result → Shared → Prop} {k : Nat} {v : Value} {tl : Nat} {xs : List Value} {n : Nat} (P : Addr → Prop),
  Gd w (hideAll s.heap [tl]) → A.depth + 4 * (t.depth + 1) < recursionLimit → A.handled = none → k < 3 → t.small → 0 < s.toks → ¬ P tl → (∀ a, s.heap.objs.size ≤ a → P a) →
  NodeAt (lkP P s.heap) v k t → s.heap.get? tl = some (listOf xs.toArray n) → xs.length + t.told.length ≤ 1000 →
  (∀ tk h' tk' ys n', (∀ b o, b ≠ tl → s.heap.get? b = some o → h'.get? b = some o) → h'.get? tl = some (listOf (xs ++ ys).toArray n') → ToldAt (lkP P h') (t.told ++ [(k, t)]) ys → 0 < tk' →
    R (.ok (.ret (.str (txt (t.row k)) tk))) { s with heap := h', toks := tk' }) →
  codeAny (model PR w) A (.call (.ref 84) ⟨[v, .ref tl], []⟩) R s

inductive InvRow (t : Its) (s : Shared) (k : Nat) (tl : Nat) (xs : List Value) (P : Addr → Prop) (a : Addr) (ws : List Value) (g : Heap) (L : Nat) (I0 : Nat) (i : Nat) (s₁ : Shared) : Prop
  | mk (r : Its) (acc : List Nat) (done : List (Nat × Its)) (ys : List Value) (n' : Nat) (h : Heap) (tk : Nat) (m : Str → Option Value) (tkr : Tok) (f1 : s₁ = { s with heap := h, toks := tk }) (f2 : 0 < tk) (f3 : ItemsAt (lkP P s.heap) r (ws.drop i)) (f4 : acc ++ r.row k = t.row k) (f5 : done ++ r.told = t.told) (f6 : r.small) (f7 : r.count ≤ t.count) (f8 : r.depth ≤ t.depth) (f9 : Fr g L h m) (f10 : m (Str.ofString "node") = some (.ref a)) (f11 : m (Str.ofString "told") = some (.ref tl)) (f12 : m (Str.ofString "row") = some (.str (txt acc) tkr)) (f13 : h.get? tl = some (listOf (xs ++ ys).toArray n')) (f14 : ToldAt (lkP (fun b => P b ∧ b ≠ I0 ∧ (L < b ∨ (s.heap.get? b).isSome = true)) h) done ys) : InvRow t s k tl xs P a ws g L I0 i s₁
theorem row_step (w : World) (t : Its) (ih : ∀ d : Its, d.count < t.count → RowC w d) : RowC w t := by
  intro A s R k v tl xs n P G hroom hh hk3 hsm ht hPt hPf hN hT hxs h
  have X := G.K
  obtain ⟨mean, mg, mb, T⟩ := G.T
  obtain ⟨a, tk0, ws, na, rfl, ha, hI⟩ := hN
  obtain ⟨ha1, ha3⟩ := lkP_some.mp ha
  have ha2 : a ≠ tl := fun e => hPt (e ▸ ha1)
  have hg : ∀ b o, (hideAll s.heap [tl]).get? b = some o → s.heap.get? b = some o := fun b o e => of_hideAll _ e
  have hge : ∀ b o, b ≠ tl → s.heap.get? b = some o → (hideAll s.heap [tl]).get? b = some o := fun b o hb e => hideAll_get _ e (by simpa using hb)
  have hag : (hideAll s.heap [tl]).get? a = some (listOf (Value.int k tk0 :: ws).toArray na) := hge _ _ ha2 ha3
  have htg : (hideAll s.heap [tl]).get? tl = none := hideAll_none _ (by simp)
  have hlg : (hideAll s.heap [tl]).IsList a (Value.int k tk0 :: ws).toArray := ⟨_, hag, rfl, _, rfl⟩
  refine' enterF (binds := [(Str.ofString "node", .ref a), (Str.ofString "told", .ref tl)]) G hg (Nat.le_of_eq (hideAll_size _ _)) ?ho ?hcd (Nat.lt_of_succ_lt (Nat.lt_of_succ_lt (roomA hroom))) ?hb ?hl ?hbody ?h1 ?h2 ?h3 ?h4
  case ho => rfl
  case hcd => rfl
  case hb => exact BindsTo.of_eq rfl
  case hl => exact locs rfl
  case h1 => decide
  case h2 => rfl
  case h3 => rfl
  case h4 => rfl
  generalize hgg : hideAll s.heap [tl] = g at *
  intro L h₁ hL F hk
  have hlt : tl < L := by rw [hL]; exact Heap.lt_size hT
  have N := news_cons (hk _ _ hT) (Nat.ne_of_lt hlt) htg (news_led F [tl])
  walk1
  walk1
  walk1
  refine stN F N ?_
  clear F N
  intro h₃ F N
  walk1
  refine forList hh (fun _ => rfl) (fun _ _ => rfl) ?_
  walk1
  walk1
  walk1
  walk1
  walk1
  walk1
  walk1
  have hws : ws.length ≤ 10 := Nat.le_trans hI.length hsm.2.1
  refine slice_list F N (hlg.at fun o e => F.keep _ _ e) (.int _ _) .none ?_ (hsz := by simp [sizeLine]; (exact Nat.le_of_lt (Nat.lt_of_le_of_lt hws (by decide))))
  rw [show slicePick (Value.int k tk0 :: ws).toArray (some 1) none none = ws.toArray from slicePick_from' _ 1]
  have hl3 : L < h₃.objs.size := F.ns.lt
  clear F N
  intro h₂ F N
  dsimp only at N ⊢
  have hl3' : h₃.objs.size + 1 < h₂.objs.size := Heap.lt_size (N _ (List.mem_cons_self ..)).1
  generalize hl0 : h₃.objs.size + 1 = l at *
  refine ⟨l, ws.toArray, (InvRow t s k tl xs P a ws g L h₂.objs.size), rfl, (N.isList (List.mem_cons_self ..)), ?stab, ?start, ?turn, ?done⟩
  case stab =>
    rintro i s₂ h' tk ⟨r, acc, done, ys, n', h5, tk5, m, tkr, rfl, e2, e3, e4, e5, e6, e7, e8, e9, e10, e11, e12, e13, e14⟩ htk hk'
    refine ⟨r, acc, done, ys, n', h', tk, m, tkr, rfl, Nat.lt_of_lt_of_le e2 htk, e3, e4, e5, e6, e7, e8, ?_, e10, e11, e12, ?_, ?_⟩
    · refine Fr_kept (M := [h₂.objs.size]) e9 (by simp; (exact Nat.ne_of_lt ((Nat.lt_trans hl3 (Nat.lt_trans (Nat.lt_of_succ_le (Nat.le_of_eq hl0)) hl3'))))) ?_ ?_
      · intro b hb; rw [List.mem_singleton.mp hb]; exact none_above e9.above (by (exact (Nat.lt_trans hl3 (Nat.lt_trans (Nat.lt_of_succ_le (Nat.le_of_eq hl0)) hl3'))))
      · intro b o hb e; exact hk' b o (by simpa using hb) e
    · exact hk' _ _ (by (exact Nat.ne_of_lt ((Nat.lt_trans hlt (Nat.lt_trans hl3 (Nat.lt_trans (Nat.lt_of_succ_le (Nat.le_of_eq hl0)) hl3')))))) e13
    · exact e14.mono (lkP_mono fun b o hb e => ⟨hb, hk' b o hb.2.1 e⟩)
  case start =>
    refine ⟨t, [], [], [], n, h₂, _, _, _, rfl, by (with_reducible exact Nat.succ_pos _), hI, rfl, rfl, hsm, Nat.le_refl _, Nat.le_refl _, F, rfl, rfl, rfl, ?_, rfl⟩
    rw [List.append_nil]
    exact (N _ (List.mem_cons_of_mem _ (List.mem_cons_self ..))).1
  case done =>
    rintro s₂ ⟨r, acc, done, ys, n', h5, tk5, m, tkr, rfl, e2, e3, e4, e5, e6, e7, e8, e9, e10, e11, e12, e13, e14⟩
    rw [List.size_toArray, List.drop_length] at e3
    have hr : r = .nil := by
      cases r with
      | nil => rfl
      | str x r => obtain ⟨_, _, e, _⟩ := e3; cases e
      | sub j d r => obtain ⟨_, _, _, _, _, e, _⟩ := e3; cases e
    subst hr
    simp only [Its.row, List.append_nil, Its.told] at e4 e5
    subst e4 e5
    clear F N
    have F := Fr_pin (x := Str.ofString "row") (Fr_pin (x := Str.ofString "told") (Fr_pin e9 e10) e11) e12
    have N := news_cons e13 (Nat.ne_of_lt hlt) htg (news_led F [tl])
    walk_at "go"
    refine newTuple_N F N ?_
    intro h6 F6 N6
    dsimp only at N6
    have hD : L < h5.objs.size := F.ns.lt
    generalize hDe : h5.objs.size = D at *
    walk_at "go"
    refine append_K F6 N6 (Upd.tail (by show D ≠ tl; (exact Nat.ne_of_gt ((Nat.lt_trans hlt hD)))) (Upd.head (led_ne (by simp)))) ?_ (hsz := ?hz)
    case hz =>
      have h1 := e14.length
      have h2 := t.told_len
      have h3 := hsm.2.1
      simp only [List.size_toArray, List.length_append, sizeLine]; omega
    intro h7 F7 N7
    walk_at "go"
    have hkeep : ∀ b o, b ≠ tl → s.heap.get? b = some o → h7.get? b = some o := fun b o hb e => F7.keep _ _ (hge b o hb e)
    refine h tkr h7 tk5 (ys ++ [.ref D]) (n' + 1) hkeep ?_ ?_ e2
    · have := (N7 _ (List.mem_cons_of_mem _ (List.mem_cons_self ..))).1
      simpa using this
    · refine ToldAt.append (e14.mono (lkP_mono fun b o hb e => ⟨hb.1, ?_⟩)) ⟨D, tkr, .ref a, 0, [], rfl, lkP_some.mpr ⟨hPf _ (by (exact Nat.le_of_lt (Nat.lt_of_le_of_lt (Nat.le_of_eq (Eq.symm hL)) hD))), (N7 _ (List.mem_cons_self ..)).1⟩, ⟨a, tk0, ws, na, rfl, lkP_some.mpr ⟨ha1, hkeep _ _ ha2 ha3⟩, hI.mono (lkP_mono fun b o hb e => ⟨hb, hkeep b o (fun q => hPt (q ▸ hb)) e⟩)⟩, rfl⟩
      exact kept_at (M := [tl]) F F7 N7 (fun p hp => List.mem_cons_of_mem _ (List.mem_cons_of_mem _ hp)) (fun b o hb e => hge b o (by simpa using hb) e) (by simpa using fun q : b = tl => hPt (q ▸ hb.1)) hb.2.2 e
  case turn =>
    rintro i v s₂ hv ⟨r, acc, done, ys, n', h5, tk5, m, tkr, rfl, e2, e3, e4, e5, e6, e7, e8, e9, e10, e11, e12, e13, e14⟩ hit hls
    have hiv : ws[i]? = some v := by simpa using hv
    have hdr : ws.drop i = v :: ws.drop (i + 1) := by
      rw [List.drop_eq_getElem_cons (by exact (List.getElem?_eq_some_iff.mp hiv).1)]
      rw [(List.getElem?_eq_some_iff.mp hiv).2]
    rw [hdr] at e3
    clear F N
    have F := Fr_pin (x := Str.ofString "row") (Fr_pin (x := Str.ofString "told") (Fr_pin e9 e10) e11) e12
    have N := news_cons e13 (Nat.ne_of_lt hlt) htg (news_led F [tl])
    refine wpAny_assign_Name ?_
    refine stN F N ?_
    intro h6 F6 N6
    cases r with
    | nil => cases e3
    | str x r =>
      obtain ⟨tkx, vs', e, e3⟩ := e3
      cases e
      obtain ⟨hxp, hsr⟩ := Its.small_str e6
      have hxl : x.length ≤ 5 := piece_len hxp
      walk_at "go"
      refine wpAny_call (write_code (G.keeps F6.keep) (by show A.depth + 2 < _; exact roomA hroom) hk3 (by (exact Nat.le_of_lt (Nat.lt_of_le_of_lt hxl (by decide)))) (by dsimp only; (with_reducible exact Nat.succ_pos _)) ?_)
      intro t7 h7 tk7 hk7 ht7
      have F7 := Fr_kept (M := []) F6 (by simp) (by simp) (fun b o _ e => hk7 b o e)
      have N7 := News_kept (M := []) N6 (by simp) (fun b o _ e => hk7 b o e)
      dsimp only
      have hacc : acc.length + (escL k (lst x)).length ≤ 69120 := by
        have h1 := Its.small_row hsm k
        rw [← e4] at h1
        simp only [Its.row, List.length_append] at h1
        omega
      refine wpAny_with_toks (n := 1) ht7 (PyProof.Rows.add_str (fun t8 tk8 h8 => ?_) (by rw [len_txt, len_txt, sizeLine]; (exact Nat.le_of_lt (Nat.lt_of_le_of_lt hacc (by decide)))))
      rw [txt_append]
      refine stN F7 N7 ?_
      clear F6 N6
      intro h9 F9 N9
      walk_at "go"
      refine ⟨hit.at fun o e => ?_, hls.at fun o e => ?_, r, acc ++ escL k (lst x), done, ys, n', h9, tk8 + 1, _, t8, rfl, by (with_reducible exact Nat.succ_pos _), e3, by simp only [← e4, Its.row, List.append_assoc], e5, hsr, ?_, ?_, F9, rfl, rfl, rfl, ?_, ?_⟩
      · exact kept_at (s₀ := s.heap) (M := [tl]) F F9 N9 (fun p hp => List.mem_cons_of_mem _ hp) (fun b o hb e => hge b o (by simpa using hb) e) (by simp; (exact Nat.ne_of_gt ((Nat.lt_trans hlt (Nat.lt_trans hl3 (Nat.lt_trans (Nat.lt_of_succ_le (Nat.le_of_eq hl0)) hl3')))))) (.inl (by (exact (Nat.lt_trans hl3 (Nat.lt_trans (Nat.lt_of_succ_le (Nat.le_of_eq hl0)) hl3'))))) e
      · exact kept_at (s₀ := s.heap) (M := [tl]) F F9 N9 (fun p hp => List.mem_cons_of_mem _ hp) (fun b o hb e => hge b o (by simpa using hb) e) (by simp; (exact Nat.ne_of_gt ((Nat.lt_trans hlt (Nat.lt_trans hl3 (Nat.lt_of_succ_le (Nat.le_of_eq hl0))))))) (.inl (by (exact (Nat.lt_trans hl3 (Nat.lt_of_succ_le (Nat.le_of_eq hl0)))))) e
      · simp only [Its.count] at e7; (exact Nat.le_of_lt (Nat.lt_of_succ_le e7))
      · simp only [Its.depth] at e8; (with_reducible assumption)
      · exact (N9 _ (List.mem_cons_self ..)).1
      · exact e14.mono (lkP_mono fun b o hb e => ⟨hb, kept_at (s₀ := s.heap) (M := [tl]) F F9 N9 (fun p hp => List.mem_cons_of_mem _ hp) (fun b o hb e => hge b o (by simpa using hb) e) (by simpa using fun q : b = tl => hPt (q ▸ hb.1)) hb.2.2 e⟩)
    | sub j d r =>
      obtain ⟨ac, tkj, ws', nj, vs', e, hac, hd, e3⟩ := e3
      cases e
      obtain ⟨hPac, hac⟩ := lkP_some.mp hac
      have hacg : g.get? ac = some (listOf (Value.int j tkj :: ws').toArray nj) := hge _ _ (fun q => hPt (q ▸ hPac)) hac
      have hlc : g.IsList ac (Value.int j tkj :: ws').toArray := ⟨_, hacg, rfl, _, rfl⟩
      obtain ⟨hj3, hsd, hsr, hdd, hrd⟩ := Its.small_sub e6
      walk_at "go"
      refine IsiPair.list_str (o := listOf (Value.int j tkj :: ws').toArray nj) (F6.keep _ _ hacg) rfl ?_
      walk_at "go"
      have hlen : acc.length + (escL k (d.row j)).length + 2 ≤ 69120 := by
        have h1 := Its.small_row hsm k
        rw [← e4] at h1
        simp only [Its.row, List.length_append, List.length_cons] at h1
        omega
      refine wpAny_with_toks (n := 1) (by dsimp only; (with_reducible exact Nat.le_add_left _ _)) (PyProof.Rows.add_str (fun t7 tk7 h7 => ?_) (by rw [len_txt, of34, sizeLine]; show acc.length + 1 ≤ _; omega))
      dsimp only at h7
      rw [of34, show txt acc ++ (⟨#[34]⟩ : Str) = txt (acc ++ [34]) from txt_append acc [34]]
      dsimp only
      walk_at "go"
      have hI0 : h₂.objs.size < h6.objs.size := by
        obtain ⟨oi, hoi, _⟩ := id hit
        have := kept_at (s₀ := s.heap) (M := [tl]) F F6 N6 (fun p hp => List.mem_cons_of_mem _ hp) (fun b o hb e => hge b o (by simpa using hb) e) (by simp; (exact Nat.ne_of_gt ((Nat.lt_trans hlt (Nat.lt_trans hl3 (Nat.lt_trans (Nat.lt_of_succ_le (Nat.le_of_eq hl0)) hl3')))))) (.inl (by (exact (Nat.lt_trans hl3 (Nat.lt_trans (Nat.lt_of_succ_le (Nat.le_of_eq hl0)) hl3'))))) hoi
        exact Heap.lt_size this
      refine wpAny_call (ih d (by simp only [Its.count] at e7; omega) (fun b => P b ∧ b ≠ h₂.objs.size ∧ (L < b ∨ (s.heap.get? b).isSome = true)) ?_ ?_ hh hj3 hsd (by dsimp only; (with_reducible exact Nat.succ_pos _)) (fun q => hPt q.1) ?_ ?_ (N6 _ (List.mem_cons_self ..)).1 ?_ ?_)
      · refine G.keeps fun b o e => hideAll_get _ (F6.keep b o e) ?_
        intro q
        rw [List.mem_singleton.mp q, htg] at e
        cases e
      · show A.depth + 1 + 4 * (d.depth + 1) < _
        exact roomS hroom (Nat.le_trans hdd e8)
      · intro b hb
        dsimp only at hb
        exact ⟨hPf b (Nat.le_trans (by (exact Nat.le_of_lt (Nat.lt_of_le_of_lt (Nat.le_of_eq (Eq.symm hL)) (Nat.lt_trans hl3 (Nat.lt_trans (Nat.lt_of_succ_le (Nat.le_of_eq hl0)) (Nat.lt_trans hl3' hI0))))) : s.heap.objs.size ≤ h6.objs.size) hb), Nat.ne_of_gt (Nat.lt_of_lt_of_le hI0 hb), .inl (Nat.lt_of_lt_of_le (by (exact (Nat.lt_trans hl3 (Nat.lt_trans (Nat.lt_of_succ_le (Nat.le_of_eq hl0)) (Nat.lt_trans hl3' hI0)))) : L < h6.objs.size) hb)⟩
      · refine ⟨ac, tkj, ws', nj, rfl, lkP_some.mpr ⟨⟨hPac, ?_, .inr (by rw [hac]; rfl)⟩, F6.keep _ _ hacg⟩, hd.mono (lkP_mono fun b o hb e => ⟨⟨hb, ?_, .inr (by rw [e]; rfl)⟩, F6.keep _ _ (hge _ _ (fun q => hPt (q ▸ hb)) e)⟩)⟩
        · exact Nat.ne_of_lt (Nat.lt_trans (Heap.lt_size hac) (by (exact (Nat.lt_of_le_of_lt (Nat.le_of_eq (Eq.symm hL)) (Nat.lt_trans hl3 (Nat.lt_trans (Nat.lt_of_succ_le (Nat.le_of_eq hl0)) hl3'))))))
        · exact Nat.ne_of_lt (Nat.lt_trans (Heap.lt_size e) (by (exact (Nat.lt_of_le_of_lt (Nat.le_of_eq (Eq.symm hL)) (Nat.lt_trans hl3 (Nat.lt_trans (Nat.lt_of_succ_le (Nat.le_of_eq hl0)) hl3'))))))
      · have h1 := e14.length
        have h5 : done.length + d.told.length ≤ t.told.length := by rw [← e5, List.length_append, Its.told, List.length_append]; omega
        rw [List.length_append]
        omega
      intro tk8 h8 tk8' ys8 n8 hk8 ht8 hT8 hp8
      dsimp only at hk8
      have F8 := Fr_kept (M := [tl]) F6 (by simp; (exact Nat.ne_of_gt (hlt))) (by simpa using htg) (fun b o hb e => hk8 b o (by simpa using hb) e)
      have N8 := news_cons ht8 (Nat.ne_of_lt hlt) htg (news_led F8 [tl])
      have k8 : ∀ (b : Nat) (o : Obj), b ≠ tl → (L < b ∨ (s.heap.get? b).isSome = true) → h5.get? b = some o → h8.get? b = some o := fun b o hb hp e =>
        hk8 b o hb (kept_at (s₀ := s.heap) (M := [tl]) F F6 N6 (fun p hp => List.mem_cons_of_mem _ hp) (fun b o hb e => hge b o (by simpa using hb) e) (by simpa using hb) hp e)
      clear F6 N6
      dsimp only
      walk_at "go"
      refine wpAny_call (write_code (G.keeps F8.keep) (by show A.depth + 2 < _; exact roomA hroom) hk3 (by rw [len_txt]; have := Its.small_row hsd j; (exact Nat.le_of_lt (Nat.lt_of_le_of_lt this (by decide)))) (by dsimp only; (with_reducible assumption)) ?_)
      intro t9 h9 tk9 hk9 ht9
      have F9 := Fr_kept (M := []) F8 (by simp) (by simp) (fun b o _ e => hk9 b o e)
      have N9 := News_kept (M := []) N8 (by simp) (fun b o _ e => hk9 b o e)
      dsimp only
      refine wpAny_with_toks (n := 1) ht9 (PyProof.Rows.add_str (fun t10 tk10 h10 => ?_) (by rw [len_txt, len_txt, sizeLine, List.length_append]; simp only [lst_txt, List.length_singleton]; omega))
      rw [txt_append, lst_txt]
      dsimp only at h10 ⊢
      walk1
      refine wpAny_with_toks (n := 1) (by dsimp only; (with_reducible exact Nat.le_add_left _ _)) (PyProof.Rows.add_str (fun t11 tk11 h11 => ?_) (by rw [len_txt, sizeLine, List.length_append, List.length_append]; show acc.length + 1 + _ + 1 ≤ _; omega))
      dsimp only at h11
      rw [show txt (acc ++ [34] ++ escL k (d.row j)) ++ (⟨#[34]⟩ : Str) = txt (acc ++ [34] ++ escL k (d.row j) ++ [34]) from txt_append _ [34]]
      refine stN F9 N9 ?_
      intro h12 F12 N12
      dsimp only
      walk_at "go"
      have k12 : ∀ (b : Nat) (o : Obj), b ≠ tl → (L < b ∨ (s.heap.get? b).isSome = true) → h8.get? b = some o → h12.get? b = some o := fun b o hb hp e =>
        kept_at (s₀ := s.heap) (M := [tl]) F8 F12 N12 (fun p hp => List.mem_cons_of_mem _ hp) (fun b o hb e => hge b o (by simpa using hb) e) (by simpa using hb) hp e
      refine ⟨hit.at fun o e => ?_, hls.at fun o e => ?_, r, acc ++ [34] ++ escL k (d.row j) ++ [34], done ++ (d.told ++ [(j, d)]), ys ++ ys8, n8, h12, tk11 + 1, _, t11, rfl, by (with_reducible exact Nat.succ_pos _), e3, by simp only [← e4, Its.row, List.append_assoc, List.cons_append, List.nil_append], by simp only [← e5, Its.told, List.append_assoc, List.cons_append, List.nil_append], hsr, ?_, ?_, F12, rfl, rfl, rfl, ?_, ?_⟩
      · exact k12 _ _ (by (exact Nat.ne_of_gt ((Nat.lt_trans hlt (Nat.lt_trans hl3 (Nat.lt_trans (Nat.lt_of_succ_le (Nat.le_of_eq hl0)) hl3')))))) (.inl (by (exact (Nat.lt_trans hl3 (Nat.lt_trans (Nat.lt_of_succ_le (Nat.le_of_eq hl0)) hl3'))))) (k8 _ _ (by (exact Nat.ne_of_gt ((Nat.lt_trans hlt (Nat.lt_trans hl3 (Nat.lt_trans (Nat.lt_of_succ_le (Nat.le_of_eq hl0)) hl3')))))) (.inl (by (exact (Nat.lt_trans hl3 (Nat.lt_trans (Nat.lt_of_succ_le (Nat.le_of_eq hl0)) hl3'))))) e)
      · exact k12 _ _ (by (exact Nat.ne_of_gt ((Nat.lt_trans hlt (Nat.lt_trans hl3 (Nat.lt_of_succ_le (Nat.le_of_eq hl0))))))) (.inl (by (exact (Nat.lt_trans hl3 (Nat.lt_of_succ_le (Nat.le_of_eq hl0)))))) (k8 _ _ (by (exact Nat.ne_of_gt ((Nat.lt_trans hlt (Nat.lt_trans hl3 (Nat.lt_of_succ_le (Nat.le_of_eq hl0))))))) (.inl (by (exact (Nat.lt_trans hl3 (Nat.lt_of_succ_le (Nat.le_of_eq hl0)))))) e)
      · simp only [Its.count] at e7; omega
      · (exact (Nat.le_trans hrd e8))
      · rw [← List.append_assoc]; exact (N12 _ (List.mem_cons_self ..)).1
      · refine ToldAt.append (e14.mono (lkP_mono fun b o hb e => ⟨hb, ?_⟩)) (hT8.mono (lkP_mono fun b o hb e => ⟨hb, ?_⟩))
        · exact k12 _ _ (fun q => hPt (q ▸ hb.1)) hb.2.2 (k8 _ _ (fun q => hPt (q ▸ hb.1)) hb.2.2 e)
        · exact k12 _ _ (fun q => hPt (q ▸ hb.1)) hb.2.2 e

theorem row_code (w : World) : ∀ t : Its, RowC w t := by
  have all : ∀ n, ∀ t : Its, t.count < n → RowC w t := by
    intro n
    induction n with
    | zero => intro t h; omega
    | succ n ih => exact fun t h => row_step w t fun d hd => ih d (by (exact (Nat.lt_of_lt_of_le hd (Nat.le_of_lt_succ h))))
  exact fun t => all _ t (Nat.lt_succ_self _)
end Mine

end T_W4
section T_Pl3
set_option autoImplicit false
open PySem PySem.W PyProof.Rows
namespace Mine
/-- a text put behind, to the text that stands last -/
def Its.snocS : Its → Str → Its
  | .nil, x => .str x .nil
  | .str y .nil, x => .str (y ++ x) .nil
  | .str y (.str z r), x => .str y ((Its.str z r).snocS x)
  | .str y (.sub k d r), x => .str y ((Its.sub k d r).snocS x)
  | .sub k d r, x => .sub k d (r.snocS x)
def Its.snocN : Its → Its → Its
  | .nil, e => .sub 0 e .nil
  | .str y r, e => .str y (r.snocN e)
  | .sub k d r, e => .sub k d (r.snocN e)
/-- what _law_plain makes -/
def Its.mrg : Its → Its → Its
  | .nil, q => q
  | .str x r, q => r.mrg (q.snocS x)
  | .sub _ d r, q => r.mrg (q.snocN (d.mrg .nil))
def Its.own : Its → List Nat
  | .nil => []
  | .str x r => lst x ++ r.own
  | .sub _ _ r => r.own
theorem Its.own_snocS : ∀ (q : Its) (x : Str), (q.snocS x).own = q.own ++ lst x
  | .nil, x => by simp [Its.snocS, Its.own]
  | .str y .nil, x => by simp only [Its.snocS, Its.own, lst_append, List.append_nil]
  | .str y (.str z r), x => by rw [Its.snocS, Its.own, Its.own_snocS (.str z r) x, ← List.append_assoc, ← Its.own]
  | .str y (.sub k d r), x => by rw [Its.snocS, Its.own, Its.own_snocS (.sub k d r) x, ← List.append_assoc, ← Its.own]
  | .sub k d r, x => by rw [Its.snocS, Its.own, r.own_snocS x, Its.own]
theorem Its.own_snocN : ∀ (q e : Its), (q.snocN e).own = q.own
  | .nil, e => by simp [Its.snocN, Its.own]
  | .str y r, e => by rw [Its.snocN, Its.own, r.own_snocN e, Its.own]
  | .sub k d r, e => by rw [Its.snocN, Its.own, r.own_snocN e, Its.own]
theorem Its.own_len : ∀ t : Its, t.ok → t.own.length ≤ 5 * t.count
  | .nil, _ => by simp [Its.own]
  | .str x r, h => by
    have h1 := r.own_len h.2
    have h2 := piece_len h.1
    simp only [Its.own, Its.count, List.length_append]; omega
  | .sub k d r, h => by
    have h1 := r.own_len h.2.2
    simp only [Its.own, Its.count]; omega

/-- the objects bear a plain list -/
def PlAt (lk : Addr → Option Obj) : Its → List Value → Prop
  | .nil, vs => vs = []
  | .str x r, vs => ∃ tk vs', vs = .str x tk :: vs' ∧ PlAt lk r vs'
  | .sub _ d r, vs => ∃ a ws n vs', vs = .ref a :: vs' ∧ lk a = some (listOf ws.toArray n) ∧ PlAt lk d ws ∧ PlAt lk r vs'
theorem PlAt.mono {lk lk' : Addr → Option Obj} (h : ∀ a o, lk a = some o → lk' a = some o) : ∀ {t : Its} {vs : List Value}, PlAt lk t vs → PlAt lk' t vs
  | .nil, _, e => e
  | .str _ _, _, ⟨tk, vs', e, r⟩ => ⟨tk, vs', e, r.mono h⟩
  | .sub _ _ _, _, ⟨a, ws, n, vs', e, o, d, r⟩ => ⟨a, ws, n, vs', e, h _ _ o, d.mono h, r.mono h⟩
theorem PlAt.snocN {lk : Addr → Option Obj} {a : Addr} {ws : List Value} {n : Nat} {e : Its} (ho : lk a = some (listOf ws.toArray n)) (he : PlAt lk e ws) :
    ∀ {q : Its} {vs : List Value}, PlAt lk q vs → PlAt lk (q.snocN e) (vs ++ [.ref a])
  | .nil, _, h => by rw [h]; exact ⟨a, ws, n, [], rfl, ho, he, rfl⟩
  | .str _ _, _, ⟨tk, vs', h, r⟩ => by rw [h]; exact ⟨tk, vs' ++ [.ref a], rfl, PlAt.snocN ho he r⟩
  | .sub _ _ _, _, ⟨b, ws', n', vs', h, o, d, r⟩ => by rw [h]; exact ⟨b, ws', n', vs' ++ [.ref a], rfl, o, d, PlAt.snocN ho he r⟩
theorem PlAt.snocS {lk : Addr → Option Obj} {x : Str} :
    ∀ {q : Its} {vs : List Value}, PlAt lk q vs →
      (∃ vs0 y tk, vs = vs0 ++ [Value.str y tk] ∧ y.length ≤ q.own.length ∧ ∀ tk', PlAt lk (q.snocS x) (vs0 ++ [.str (y ++ x) tk'])) ∨
      ((vs = [] ∨ ∃ vs0 a ws n, vs = vs0 ++ [Value.ref a] ∧ lk a = some (listOf ws n)) ∧ ∀ tk', PlAt lk (q.snocS x) (vs ++ [.str x tk']))
  | .nil, _, h => by
    rw [h]; exact .inr ⟨.inl rfl, fun tk' => ⟨tk', [], rfl, rfl⟩⟩
  | .str y .nil, _, ⟨tk, vs', h, r⟩ => by
    rw [h, show vs' = [] from r]
    exact .inl ⟨[], y, tk, rfl, by simp [Its.own, len_lst], fun tk' => ⟨tk', [], rfl, rfl⟩⟩
  | .str y (.str z r'), _, ⟨tk, vs', h, r⟩ => by
    rw [h]
    rcases PlAt.snocS (x := x) r with ⟨vs0, y', tk', e, hl, f⟩ | ⟨hc, f⟩
    · exact .inl ⟨.str y tk :: vs0, y', tk', by rw [e]; rfl, by rw [Its.own, List.length_append]; omega, fun tk'' => ⟨tk, _, rfl, f tk''⟩⟩
    · refine .inr ⟨?_, fun tk'' => ⟨tk, _, rfl, f tk''⟩⟩
      rcases hc with rfl | ⟨vs0, a, ws, n, rfl, ha⟩
      · obtain ⟨_, _, e, _⟩ := r; cases e
      · exact .inr ⟨.str y tk :: vs0, a, ws, n, rfl, ha⟩
  | .str y (.sub k d r'), _, ⟨tk, vs', h, r⟩ => by
    rw [h]
    rcases PlAt.snocS (x := x) r with ⟨vs0, y', tk', e, hl, f⟩ | ⟨hc, f⟩
    · exact .inl ⟨.str y tk :: vs0, y', tk', by rw [e]; rfl, by rw [Its.own, List.length_append]; omega, fun tk'' => ⟨tk, _, rfl, f tk''⟩⟩
    · refine .inr ⟨?_, fun tk'' => ⟨tk, _, rfl, f tk''⟩⟩
      rcases hc with rfl | ⟨vs0, a, ws, n, rfl, ha⟩
      · obtain ⟨_, _, _, _, e, _⟩ := r; cases e
      · exact .inr ⟨.str y tk :: vs0, a, ws, n, rfl, ha⟩
  | .sub k d r', _, ⟨a, ws, n, vs', h, o, hd, r⟩ => by
    rw [h]
    rcases PlAt.snocS (x := x) r with ⟨vs0, y', tk', e, hl, f⟩ | ⟨hc, f⟩
    · exact .inl ⟨.ref a :: vs0, y', tk', by rw [e]; rfl, by rw [Its.own]; (with_reducible assumption), fun tk'' => ⟨a, ws, n, _, rfl, o, hd, f tk''⟩⟩
    · refine .inr ⟨?_, fun tk'' => ⟨a, ws, n, _, rfl, o, hd, f tk''⟩⟩
      rcases hc with rfl | ⟨vs0, a', ws', n', rfl, ha⟩
      · exact .inr ⟨[], a, _, n, rfl, o⟩
      · exact .inr ⟨.ref a :: vs0, a', ws', n', rfl, ha⟩
/-- its signs are signs -/
def Its.asc : Its → Prop
  | .nil => True
  | .str x r => (∀ c ∈ lst x, c < 128) ∧ r.asc
  | .sub _ d r => d.asc ∧ r.asc
theorem piece_asc {l : List Nat} (h : l ∈ pieces) : ∀ c ∈ l, c < 128 := by
  have : ∀ l ∈ pieces, ∀ c ∈ l, c < 128 := by decide
  exact this l h
theorem Its.asc_ok : ∀ {t : Its}, t.ok → t.asc
  | .nil, _ => trivial
  | .str _ _, h => ⟨piece_asc h.1, asc_ok h.2⟩
  | .sub _ _ _, h => ⟨asc_ok h.2.1, asc_ok h.2.2⟩
theorem Its.asc_snocS {x : Str} (hx : ∀ c ∈ lst x, c < 128) : ∀ {q : Its}, q.asc → (q.snocS x).asc
  | .nil, _ => ⟨hx, trivial⟩
  | .str y .nil, h => ⟨by
      intro c hc
      rw [lst_append, List.mem_append] at hc
      exact hc.elim (h.1 c) (hx c), trivial⟩
  | .str y (.str z r), h => ⟨h.1, asc_snocS hx h.2⟩
  | .str y (.sub k d r), h => ⟨h.1, asc_snocS hx h.2⟩
  | .sub k d r, h => ⟨h.1, asc_snocS hx h.2⟩
theorem Its.asc_snocN {e : Its} (he : e.asc) : ∀ {q : Its}, q.asc → (q.snocN e).asc
  | .nil, _ => ⟨he, trivial⟩
  | .str _ _, h => ⟨h.1, asc_snocN he h.2⟩
  | .sub _ _ _, h => ⟨h.1, asc_snocN he h.2⟩
theorem Its.asc_mrg : ∀ {t q : Its}, t.asc → q.asc → (t.mrg q).asc
  | .nil, _, _, hq => hq
  | .str x r, q, h, hq => asc_mrg (t := r) (q := q.snocS x) h.2 (asc_snocS h.1 hq)
  | .sub _ d r, q, h, hq => asc_mrg (t := r) (q := q.snocN (d.mrg .nil)) h.2 (asc_snocN (asc_mrg (t := d) (q := .nil) h.1 trivial) hq)
theorem Its.depth_snocS (x : Str) : ∀ q : Its, (q.snocS x).depth = q.depth
  | .nil => rfl
  | .str y .nil => rfl
  | .str y (.str z r) => by rw [Its.snocS, Its.depth, depth_snocS x (.str z r), ← Its.depth]
  | .str y (.sub k d r) => by rw [Its.snocS, Its.depth, depth_snocS x (.sub k d r), ← Its.depth]
  | .sub k d r => by rw [Its.snocS, Its.depth, depth_snocS x r, Its.depth]
theorem Its.depth_snocN (e : Its) : ∀ q : Its, (q.snocN e).depth = max q.depth (e.depth + 1)
  | .nil => by simp [Its.snocN, Its.depth]
  | .str y r => by rw [Its.snocN, Its.depth, depth_snocN e r, Its.depth]
  | .sub k d r => by rw [Its.snocN, Its.depth, depth_snocN e r, Its.depth]; exact (Nat.max_assoc _ _ _).symm
theorem Its.depth_mrg : ∀ t q : Its, (t.mrg q).depth = max q.depth t.depth
  | .nil, q => by simp [Its.mrg, Its.depth]
  | .str _ r, q => by rw [Its.mrg, depth_mrg r, Its.depth_snocS, Its.depth]
  | .sub _ d r, q => by
    rw [Its.mrg, depth_mrg r, Its.depth_snocN, depth_mrg d .nil, Its.depth]
    simp only [Its.depth, Nat.zero_max]; exact Nat.max_assoc _ _ _
def Its.pys : Its → List PyData
  | .nil => []
  | .str x r => .str x :: r.pys
  | .sub _ d r => .list d.pys :: r.pys
theorem PlAt.reads {lk : Addr → Option Obj} {h : Heap} (hk : ∀ a o, lk a = some o → h.get? a = some o) : ∀ {q : Its} {vs : List Value}, PlAt lk q vs → ∃ as, ReadsAll h vs q.pys as
  | .nil, _, e => by rw [e]; exact ⟨[], .nil⟩
  | .str x r, _, ⟨tk, vs', e, hr⟩ => by
    rw [e]
    obtain ⟨as, ha⟩ := hr.reads hk
    exact ⟨_, .cons (.str x tk) ha⟩
  | .sub _ d r, _, ⟨a, ws, n, vs', e, o, hd, hr⟩ => by
    rw [e]
    obtain ⟨as, ha⟩ := hr.reads hk
    obtain ⟨bs, hb⟩ := hd.reads hk
    exact ⟨_, .cons (.list (hk _ _ o) rfl rfl hb) ha⟩
theorem Its.pys_can : ∀ {q : Its}, q.asc → PyData.canLayAll0 q.pys = true
  | .nil, _ => by simp [Its.pys, PyData.canLayAll0]
  | .str x r, h => by
    have h1 : PyData.strOk x = true := by
      unfold PyData.strOk
      rw [Array.all_eq_true_iff_forall_mem]
      intro c hc
      have := h.1 c (by simpa using hc)
      exact decide_eq_true (by omega)
    simp only [Its.pys, PyData.canLayAll0, PyData.canLay0, h1, pys_can h.2, Bool.and_self]
  | .sub _ d r, h => by simp only [Its.pys, PyData.canLayAll0, PyData.canLay0, pys_can h.1, pys_can h.2, Bool.and_self]
theorem Its.pys_depth : ∀ q : Its, PyData.depthAll q.pys ≤ q.depth
  | .nil => by simp [Its.pys, PyData.depthAll]
  | .str x r => by
    have := pys_depth r
    simp only [Its.pys, PyData.depthAll, PyData.depth, Its.depth]; omega
  | .sub _ d r => by
    have := pys_depth r
    have := pys_depth d
    simp only [Its.pys, PyData.depthAll, PyData.depth, Its.depth]; omega
theorem Its.pys_shaped {q : Its} (h : q.asc) (hd : q.depth ≤ 60) : SeqAt.shaped (.list q.pys) = true := by
  have := q.pys_depth
  unfold SeqAt.shaped
  rw [Bool.and_eq_true]
  exact ⟨by rw [PyData.canLay0]; exact pys_can h, decide_eq_true (by rw [PyData.depth]; omega)⟩
theorem Its.pys_self : ∀ q : Its, PyData.eqvAll q.pys q.pys = true
  | .nil => by simp [Its.pys, PyData.eqvAll]
  | .str x r => by simp [Its.pys, PyData.eqvAll, PyData.eqv, pys_self r]
  | .sub _ d r => by simp [Its.pys, PyData.eqvAll, PyData.eqv, pys_self r, pys_self d]
end Mine

end T_Pl3
section T_W5
set_option autoImplicit false
set_option linter.all false
open PySem PySem.W PyProof.Rows PySem.Calls
set_option Elab.async false
set_option maxRecDepth 100000
set_option maxHeartbeats 8000000
namespace Mine
theorem off_W5 : True := by w_top off; trivial
theorem fill5 (w : World) : Challenge.rw_nb0133_01.prog = Challenge.rw_nb0133_01.prog ∧ (hd.heap_39 w.params).length = (hd.heap_39 w.params).length := by
  k_fill
  exact ⟨rfl, rfl⟩

/-- what stands above the frame is kept -/
theorem kept_up {g h' h : Heap} {L b : Nat} {o : Obj} {M : List Nat} {news : List (Addr × Obj)} (N' : News g L h' news) (hsub : ∀ p ∈ led L M h, p ∈ news) (hb : b ∉ M) (hp : L < b) (e : h.get? b = some o) : h'.get? b = some o :=
  (N' _ (hsub _ (mem_led.mpr ⟨hp, hb, e⟩))).1

theorem kl_last_snoc : ∀ (p : List Value) (y : Value), kl_last (p ++ [y]) = some (p, y)
  | [], y => by simp [kl_last]
  | x :: p, y => by
    rw [List.cons_append, kl_last, kl_last_snoc p y]
/-- xs[-1] -/
theorem item_last {w : World} {A : Around} {E : Value → Shared → Prop} {s : Shared} {value slice : Expr} {l : Addr} {vs : List Value} {u : Tok} {x : Value} {Q : Value → Shared → Prop} (hl : s.heap.IsList l (vs ++ [x]).toArray) (hz : vs.length ≤ 1000)
    (h : Q x s) (hs : subscripted slice false (.ref l) (.int (-1) u) = operate [.ref l, .int (-1) u] (getItem (.ref l) (.int (-1) u))) (hg : ∀ r, letTemporaryGo value (.ref l) r = pure ()) :
    wpAny (model PR w) A (subscriptTail value slice (.ref l) (.int (-1) u)) Q E s :=
  subscriptTail_builtin hl.typeIs slot_list_getitem.lookup (wpAny_getItem_list_neg (k := -1) hl (by decide) (by simp; omega) (by decide) (by
    have : ((-1 : Int) + ((vs ++ [x]).toArray.size : Int)).toNat = vs.length := by simp; omega
    rw [this]; simp) h) hs hg
theorem pys_nil {q : Its} {vs : List Value} {lk : Addr → Option Obj} (h : PlAt lk q vs) (hv : vs ≠ []) : PyData.eqv (.list q.pys) (.list []) = false := by
  cases q with
  | nil => exact absurd h hv
  | str x r => simp [Its.pys, PyData.eqv, PyData.eqvAll]
  | sub k d r => simp [Its.pys, PyData.eqv, PyData.eqvAll]

def PlainC (w : World) (t : Its) : Prop := ∀ {A : Around} {s : Shared} {R : Result → Shared → Prop} {k : Nat} {v : Value},
  Gd w s.heap → A.depth + 4 * (t.depth + 1) < recursionLimit → A.units + 70 + 4 * (t.depth + 1) < cLine → A.handled = none → t.small → 0 < s.toks →
  NodeAt s.heap.get? v k t →
  (∀ a h' tk' vs n, (∀ b o, s.heap.get? b = some o → h'.get? b = some o) → s.heap.objs.size ≤ a → h'.get? a = some (listOf vs.toArray n) → PlAt (lkP (fun b => s.heap.objs.size ≤ b) h') (t.mrg .nil) vs → 0 < tk' →
    R (.ok (.ret (.ref a))) { s with heap := h', toks := tk' }) →
  codeAny (model PR w) A (.call (.ref 91) ⟨[v], []⟩) R s

inductive InvPlain (t : Its) (s : Shared) (a : Addr) (ws : List Value) (L : Nat) (D : Nat) (I0 : Nat) (i : Nat) (s₁ : Shared) : Prop
  | mk (r q : Its) (vs : List Value) (n' : Nat) (h : Heap) (tk : Nat) (m : Str → Option Value) (f1 : s₁ = { s with heap := h, toks := tk }) (f2 : 0 < tk) (f3 : ItemsAt s.heap.get? r (ws.drop i)) (f4 : r.mrg q = t.mrg .nil) (f5 : (q.own.length + r.own.length ≤ 50 ∧ q.asc ∧ q.depth ≤ 3)) (f6 : vs.length ≤ i) (f7 : r.small) (f8 : r.count ≤ t.count) (f9 : r.depth ≤ t.depth) (f10 : Fr s.heap L h m) (f11 : m (Str.ofString "node") = some (.ref a)) (f12 : m (Str.ofString "items") = some (.ref D)) (f13 : h.get? D = some (listOf vs.toArray n')) (f14 : PlAt (lkP (fun b => L < b ∧ b ≠ D ∧ b ≠ I0) h) q vs) : InvPlain t s a ws L D I0 i s₁
theorem plain_step (w : World) (t : Its) (ih : ∀ d : Its, d.count < t.count → PlainC w d) : PlainC w t := by
  intro A s R k v G hroom hun hh hsm ht hN h
  have X := G.K
  obtain ⟨mean, mg, mb, T⟩ := G.T
  obtain ⟨a, tk0, ws, na, rfl, ha, hI⟩ := hN
  have hlg : s.heap.IsList a (Value.int k tk0 :: ws).toArray := ⟨_, ha, rfl, _, rfl⟩
  refine' enterF (binds := [(Str.ofString "node", .ref a)]) G (fun _ _ e => e) (Nat.le_refl _) ?ho ?hcd (Nat.lt_of_succ_lt (Nat.lt_of_succ_lt (roomA hroom))) ?hb ?hl ?hbody ?h1 ?h2 ?h3 ?h4
  case ho => rfl
  case hcd => rfl
  case hb => exact BindsTo.of_eq rfl
  case hl => exact locs rfl
  case h1 => decide
  case h2 => rfl
  case h3 => rfl
  case h4 => rfl
  intro L h₁ hL F hk
  have N := news_led F []
  walk_at "go"
  refine newList_N F N ?_
  have hl1 : L < h₁.objs.size := F.ns.lt
  generalize hD : h₁.objs.size = D at *
  clear F N
  intro h₃ F N
  dsimp only at F N ⊢
  refine stN F N ?_
  clear F N
  intro h₃ F N
  dsimp only at F N ⊢
  walk1
  refine forList hh (fun _ => rfl) (fun _ _ => rfl) ?_
  walk1
  walk1
  walk1
  walk1
  walk1
  walk1
  walk1
  have hws : ws.length ≤ 10 := Nat.le_trans hI.length hsm.2.1
  refine slice_list F N (hlg.at fun o e => F.keep _ _ e) (.int _ _) .none ?_ (hsz := by simp [sizeLine]; (exact Nat.le_of_lt (Nat.lt_of_le_of_lt hws (by decide))))
  rw [show slicePick (Value.int k tk0 :: ws).toArray (some 1) none none = ws.toArray from slicePick_from' _ 1]
  have hl3 : D < h₃.objs.size := Heap.lt_size (N _ (List.mem_cons_self ..)).1
  clear F N
  intro h₂ F N
  dsimp only at N ⊢
  have hl3' : h₃.objs.size + 1 < h₂.objs.size := Heap.lt_size (N _ (List.mem_cons_self ..)).1
  generalize hl0 : h₃.objs.size + 1 = l at *
  refine ⟨l, ws.toArray, (InvPlain t s a ws L D h₂.objs.size), rfl, (N.isList (List.mem_cons_self ..)), ?stab, ?start, ?turn, ?done⟩
  case stab =>
    rintro i s₂ h' tk ⟨r, q, vs, n', h5, tk5, m, rfl, e2, e3, e4, e5, e6, e7, e8, e9, e10, e11, e12, e13, e14⟩ htk hk'
    refine ⟨r, q, vs, n', h', tk, m, rfl, Nat.lt_of_lt_of_le e2 htk, e3, e4, e5, e6, e7, e8, e9, ?_, e11, e12, ?_, ?_⟩
    · refine Fr_kept (M := [h₂.objs.size]) e10 (by simp; (exact Nat.ne_of_lt ((Nat.lt_trans hl1 (Nat.lt_trans hl3 (Nat.lt_trans (Nat.lt_of_succ_le (Nat.le_of_eq hl0)) hl3')))))) ?_ ?_
      · intro b hb; rw [List.mem_singleton.mp hb]; exact none_above e10.above (by (exact (Nat.lt_trans hl1 (Nat.lt_trans hl3 (Nat.lt_trans (Nat.lt_of_succ_le (Nat.le_of_eq hl0)) hl3')))))
      · intro b o hb e; exact hk' b o (by simpa using hb) e
    · exact hk' _ _ (by (exact Nat.ne_of_lt ((Nat.lt_trans hl3 (Nat.lt_trans (Nat.lt_of_succ_le (Nat.le_of_eq hl0)) hl3'))))) e13
    · exact e14.mono (lkP_mono fun b o hb e => ⟨hb, hk' b o hb.2.2 e⟩)
  case start =>
    have ho := t.own_len hsm.1
    have hc := hsm.2.1
    refine ⟨t, .nil, [], 0, h₂, _, _, rfl, by (with_reducible exact Nat.succ_pos _), hI, rfl, ⟨by simp only [Its.own, List.length_nil]; omega, trivial, by simp [Its.depth]⟩, Nat.le_refl _, hsm, Nat.le_refl _, Nat.le_refl _, F, rfl, rfl, ?_, rfl⟩
    exact (N _ (List.mem_cons_of_mem _ (List.mem_cons_self ..))).1
  case done =>
    rintro s₂ ⟨r, q, vs, n', h5, tk5, m, rfl, e2, e3, e4, e5, e6, e7, e8, e9, e10, e11, e12, e13, e14⟩
    rw [List.size_toArray, List.drop_length] at e3
    have hr : r = .nil := by
      cases r with
      | nil => rfl
      | str x r => obtain ⟨_, _, e, _⟩ := e3; cases e
      | sub j d r => obtain ⟨_, _, _, _, _, e, _⟩ := e3; cases e
    subst hr
    simp only [Its.mrg] at e4
    subst e4
    clear F N
    have F := Fr_pin (x := Str.ofString "items") (Fr_pin e10 e11) e12
    walk_at "go"
    exact h D h5 tk5 vs n' (fun b o e => F.keep b o e) (by (exact Nat.le_of_lt (Nat.lt_of_le_of_lt (Nat.le_of_eq (Eq.symm hL)) hl1))) e13 (e14.mono (lkP_mono fun b o hb e => ⟨by have := hb.1; exact Nat.le_of_lt (by rw [← hL]; exact this), e⟩)) e2
  case turn =>
    rintro i v s₂ hv ⟨r, q, vs, n', h5, tk5, m, rfl, e2, e3, e4, e5, e6, e7, e8, e9, e10, e11, e12, e13, e14⟩ hit hls
    have hiv : ws[i]? = some v := by simpa using hv
    have hdr : ws.drop i = v :: ws.drop (i + 1) := by
      rw [List.drop_eq_getElem_cons (by exact (List.getElem?_eq_some_iff.mp hiv).1)]
      rw [(List.getElem?_eq_some_iff.mp hiv).2]
    have hi10 : i < ws.length := (List.getElem?_eq_some_iff.mp hiv).1
    rw [hdr] at e3
    clear F N
    have F := Fr_pin (x := Str.ofString "items") (Fr_pin e10 e11) e12
    have N := news_cons e13 (Nat.ne_of_gt hl1) (none_above F.above hl1) (news_led F [D])
    refine wpAny_assign_Name ?_
    refine stN F N ?_
    intro h6 F6 N6
    cases r with
    | nil => cases e3
    | str x r =>
      obtain ⟨tkx, vs', e, e3⟩ := e3
      cases e
      obtain ⟨hxp, hsr⟩ := Its.small_str e7
      have hxl : x.length ≤ 5 := piece_len hxp
      walk_at "go"
      refine newList_N F6 N6 ?_
      intro h7 F7 N7
      dsimp only at F7 N7 ⊢
      have hl6 : D < h6.objs.size := Heap.lt_size (N6 _ (List.mem_cons_self ..)).1
      generalize hE0 : h6.objs.size = E0 at *
      have k7 : ∀ (b : Nat) (o : Obj), b ≠ D → L < b → h5.get? b = some o → h7.get? b = some o := fun b o hb hp e =>
        kept_up (M := [D]) N7 (fun p hp => List.mem_cons_of_mem _ (List.mem_cons_of_mem _ hp)) (by simpa using hb) hp e
      have e14' := e14.mono (lkP_mono (P' := fun b => L < b ∧ b ≠ D ∧ b ≠ h₂.objs.size) (h' := h7) fun b o hb e => ⟨hb, k7 b o hb.2.1 hb.1 e⟩)
      obtain ⟨as, hrd⟩ := e14'.reads (h := h7) (fun a o e => (lkP_some.mp e).2)
      have hrd7 : Reads h7 (.ref D) (.list q.pys) (D :: as) := .list (N7 _ (List.mem_cons_of_mem _ (List.mem_cons_self ..))).1 rfl rfl hrd
      refine SeqAt.compareNe_shaped hrd7 (.list (N7 _ (List.mem_cons_self ..)).1 rfl rfl .nil) (Its.pys_shaped e5.2.1 (by (exact Nat.le_of_lt (Nat.lt_of_le_of_lt ((e5).2).2 (by decide))))) (by decide) (by show A.units + 67 < _; exact Nat.lt_of_le_of_lt (Nat.le_trans (Nat.add_le_add_left (by decide) _) (Nat.le_add_right _ _)) hun) ?_
      have hq50 : (q.snocS x).own.length + r.own.length ≤ 50 := by
        have := e5.1
        rw [Its.own_snocS, List.length_append]
        simp only [Its.own, List.length_append] at this
        omega
      rcases PlAt.snocS (x := x) e14' with ⟨vs0, y, tky, rfl, hyl, hf⟩ | ⟨hc, hf⟩
      · rw [pys_nil e14' (by simp)]
        have N7' := news_cons (N7 _ (List.mem_cons_of_mem _ (List.mem_cons_self ..))).1 (Nat.ne_of_gt hl1) (none_above F7.above hl1) (news_led F7 [D])
        clear N7 N6 F6
        walk_at "go"
        refine item_last ⟨_, (N7' _ (List.mem_cons_self ..)).1, rfl, _, rfl⟩ (by simp at e6; (exact Nat.le_of_lt (Nat.lt_trans (Nat.lt_of_succ_le e6) (Nat.lt_trans hi10 (Nat.lt_of_le_of_lt hws (by decide)))))) ?_ (by with_unfolding_all rfl) (by intro _; with_unfolding_all rfl)
        walk_at "go"
        refine kl_pop F7 N7' (by simpa using kl_last_snoc vs0 (.str y tky)) (Upd.head (led_ne (by simp))) (by simp at e6 ⊢; rw [sizeLine]; (exact (Nat.lt_trans (Nat.lt_of_succ_le e6) (Nat.lt_trans hi10 (Nat.lt_of_le_of_lt hws (by decide)))))) ?_
        intro h8 F8 N8
        have k8 : ∀ (b : Nat) (o : Obj), b ≠ D → L < b → h7.get? b = some o → h8.get? b = some o := fun b o hb hp e =>
          kept_up (M := [D]) N8 (fun p hp => List.mem_cons_of_mem _ hp) (by simpa using hb) hp e
        clear F7 N7'
        dsimp only
        walk1
        refine wpAny_with_toks (n := 1) (by dsimp only; (with_reducible exact Nat.le_add_left _ _)) (PyProof.Rows.add_str (fun t9 tk9 h9 => ?_) (by rw [sizeLine]; omega))
        dsimp only at h9 ⊢
        have N8' := news_cons (N8 _ (List.mem_cons_self ..)).1 (Nat.ne_of_gt hl1) (none_above F8.above hl1) (news_led F8 [D])
        clear N8
        walk_at "go"
        refine append_K F8 N8' (Upd.head (led_ne (by simp))) ?_ (hsz := by simp only [List.size_toArray, List.length_append, List.length_cons, List.length_nil, sizeLine] at e6 ⊢; (exact Nat.le_of_lt (Nat.lt_trans (Nat.lt_of_succ_le e6) (Nat.lt_trans hi10 (Nat.lt_of_le_of_lt hws (by decide))))))
        intro h9 F9 N9
        walk_at "go"
        have k9 : ∀ (b : Nat) (o : Obj), b ≠ D → L < b → h8.get? b = some o → h9.get? b = some o := fun b o hb hp e =>
          kept_up (M := [D]) N9 (fun p hp => List.mem_cons_of_mem _ hp) (by simpa using hb) hp e
        refine ⟨hit.at fun o e => k9 _ _ (by (exact Nat.ne_of_gt ((Nat.lt_trans hl3 (Nat.lt_trans (Nat.lt_of_succ_le (Nat.le_of_eq hl0)) hl3'))))) (by (exact (Nat.lt_trans hl1 (Nat.lt_trans hl3 (Nat.lt_trans (Nat.lt_of_succ_le (Nat.le_of_eq hl0)) hl3'))))) (k8 _ _ (by (exact Nat.ne_of_gt ((Nat.lt_trans hl3 (Nat.lt_trans (Nat.lt_of_succ_le (Nat.le_of_eq hl0)) hl3'))))) (by (exact (Nat.lt_trans hl1 (Nat.lt_trans hl3 (Nat.lt_trans (Nat.lt_of_succ_le (Nat.le_of_eq hl0)) hl3'))))) (k7 _ _ (by (exact Nat.ne_of_gt ((Nat.lt_trans hl3 (Nat.lt_trans (Nat.lt_of_succ_le (Nat.le_of_eq hl0)) hl3'))))) (by (exact (Nat.lt_trans hl1 (Nat.lt_trans hl3 (Nat.lt_trans (Nat.lt_of_succ_le (Nat.le_of_eq hl0)) hl3'))))) e)), hls.at fun o e => k9 _ _ (by (exact Nat.ne_of_gt ((Nat.lt_trans hl3 (Nat.lt_of_succ_le (Nat.le_of_eq hl0)))))) (by (exact (Nat.lt_trans hl1 (Nat.lt_trans hl3 (Nat.lt_of_succ_le (Nat.le_of_eq hl0)))))) (k8 _ _ (by (exact Nat.ne_of_gt ((Nat.lt_trans hl3 (Nat.lt_of_succ_le (Nat.le_of_eq hl0)))))) (by (exact (Nat.lt_trans hl1 (Nat.lt_trans hl3 (Nat.lt_of_succ_le (Nat.le_of_eq hl0)))))) (k7 _ _ (by (exact Nat.ne_of_gt ((Nat.lt_trans hl3 (Nat.lt_of_succ_le (Nat.le_of_eq hl0)))))) (by (exact (Nat.lt_trans hl1 (Nat.lt_trans hl3 (Nat.lt_of_succ_le (Nat.le_of_eq hl0)))))) e)), r, q.snocS x, vs0 ++ [.str (y ++ x) t9], n' + 1 + 1, h9, _, _, rfl, by dsimp only; omega, e3, e4, ⟨hq50, Its.asc_snocS (piece_asc hxp) e5.2.1, by rw [Its.depth_snocS]; exact e5.2.2⟩, ?_, hsr, ?_, ?_, F9, rfl, rfl, ?_, ?_⟩
        · simp only [List.length_append, List.length_cons, List.length_nil] at e6 ⊢; (exact Nat.succ_le_succ (Nat.le_of_lt (Nat.lt_of_succ_le e6)))
        · simp only [Its.count] at e8; (exact Nat.le_of_lt (Nat.lt_of_succ_le e8))
        · exact e9
        · have := (N9 _ (List.mem_cons_self ..)).1
          simpa using this
        · exact (hf t9).mono (lkP_mono fun b o hb e => ⟨hb, k9 b o hb.2.1 hb.1 (k8 b o hb.2.1 hb.1 e)⟩)
      · rcases hc with rfl | ⟨vs0, a0, ws0, n0, rfl, ha0⟩
        · have hq : q = .nil := by
            cases q with
            | nil => rfl
            | str _ _ => obtain ⟨_, _, e, _⟩ := e14'; cases e
            | sub _ _ _ => obtain ⟨_, _, _, _, e, _⟩ := e14'; cases e
          subst hq
          have N7' := news_cons (N7 _ (List.mem_cons_of_mem _ (List.mem_cons_self ..))).1 (Nat.ne_of_gt hl1) (none_above F7.above hl1) (news_led F7 [D])
          clear N7 N6 F6
          walk_at "go"
          refine append_K F7 N7' (Upd.head (led_ne (by simp))) ?_ (hsz := by simp only [List.size_toArray, List.length_append, List.length_cons, List.length_nil, sizeLine] at e6 ⊢; (decide))
          intro h8 F8 N8
          walk_at "go"
          have k8 : ∀ (b : Nat) (o : Obj), b ≠ D → L < b → h7.get? b = some o → h8.get? b = some o := fun b o hb hp e =>
            kept_up (M := [D]) N8 (fun p hp => List.mem_cons_of_mem _ hp) (by simpa using hb) hp e
          refine ⟨hit.at fun o e => k8 _ _ (by (exact Nat.ne_of_gt ((Nat.lt_trans hl3 (Nat.lt_trans (Nat.lt_of_succ_le (Nat.le_of_eq hl0)) hl3'))))) (by (exact (Nat.lt_trans hl1 (Nat.lt_trans hl3 (Nat.lt_trans (Nat.lt_of_succ_le (Nat.le_of_eq hl0)) hl3'))))) (k7 _ _ (by (exact Nat.ne_of_gt ((Nat.lt_trans hl3 (Nat.lt_trans (Nat.lt_of_succ_le (Nat.le_of_eq hl0)) hl3'))))) (by (exact (Nat.lt_trans hl1 (Nat.lt_trans hl3 (Nat.lt_trans (Nat.lt_of_succ_le (Nat.le_of_eq hl0)) hl3'))))) e), hls.at fun o e => k8 _ _ (by (exact Nat.ne_of_gt ((Nat.lt_trans hl3 (Nat.lt_of_succ_le (Nat.le_of_eq hl0)))))) (by (exact (Nat.lt_trans hl1 (Nat.lt_trans hl3 (Nat.lt_of_succ_le (Nat.le_of_eq hl0)))))) (k7 _ _ (by (exact Nat.ne_of_gt ((Nat.lt_trans hl3 (Nat.lt_of_succ_le (Nat.le_of_eq hl0)))))) (by (exact (Nat.lt_trans hl1 (Nat.lt_trans hl3 (Nat.lt_of_succ_le (Nat.le_of_eq hl0)))))) e), r, Its.nil.snocS x, [.str x tkx], n' + 1, h8, _, _, rfl, by dsimp only; (with_reducible exact Nat.succ_pos _), e3, e4, ⟨hq50, Its.asc_snocS (piece_asc hxp) e5.2.1, by rw [Its.depth_snocS]; exact e5.2.2⟩, ?_, hsr, ?_, ?_, F8, rfl, rfl, ?_, ?_⟩
          · simp only [List.length_append, List.length_cons, List.length_nil] at e6 ⊢; (with_reducible exact Nat.le_add_left _ _)
          · simp only [Its.count] at e8; (exact Nat.le_of_lt (Nat.lt_of_succ_le e8))
          · exact e9
          · have := (N8 _ (List.mem_cons_self ..)).1
            simpa using this
          · exact (hf tkx).mono (lkP_mono fun b o hb e => ⟨hb, k8 b o hb.2.1 hb.1 e⟩)
          
        · rw [pys_nil e14' (by simp)]
          have N7' := news_cons (N7 _ (List.mem_cons_of_mem _ (List.mem_cons_self ..))).1 (Nat.ne_of_gt hl1) (none_above F7.above hl1) (news_led F7 [D])
          clear N7 N6 F6
          walk_at "go"
          refine item_last ⟨_, (N7' _ (List.mem_cons_self ..)).1, rfl, _, rfl⟩ (by simp at e6; (exact Nat.le_of_lt (Nat.lt_trans (Nat.lt_of_succ_le e6) (Nat.lt_trans hi10 (Nat.lt_of_le_of_lt hws (by decide)))))) ?_ (by with_unfolding_all rfl) (by intro _; with_unfolding_all rfl)
          walk_at "go"
          refine IsiPair.list_str (lkP_some.mp ha0).2 rfl ?_
          walk_at "go"
          refine append_K F7 N7' (Upd.head (led_ne (by simp))) ?_ (hsz := by simp only [List.size_toArray, List.length_append, List.length_cons, List.length_nil, sizeLine] at e6 ⊢; (exact (Nat.lt_trans (Nat.lt_of_succ_le e6) (Nat.lt_trans hi10 (Nat.lt_of_le_of_lt hws (by decide))))))
          intro h8 F8 N8
          walk_at "go"
          have k8 : ∀ (b : Nat) (o : Obj), b ≠ D → L < b → h7.get? b = some o → h8.get? b = some o := fun b o hb hp e =>
            kept_up (M := [D]) N8 (fun p hp => List.mem_cons_of_mem _ hp) (by simpa using hb) hp e
          refine ⟨hit.at fun o e => k8 _ _ (by (exact Nat.ne_of_gt ((Nat.lt_trans hl3 (Nat.lt_trans (Nat.lt_of_succ_le (Nat.le_of_eq hl0)) hl3'))))) (by (exact (Nat.lt_trans hl1 (Nat.lt_trans hl3 (Nat.lt_trans (Nat.lt_of_succ_le (Nat.le_of_eq hl0)) hl3'))))) (k7 _ _ (by (exact Nat.ne_of_gt ((Nat.lt_trans hl3 (Nat.lt_trans (Nat.lt_of_succ_le (Nat.le_of_eq hl0)) hl3'))))) (by (exact (Nat.lt_trans hl1 (Nat.lt_trans hl3 (Nat.lt_trans (Nat.lt_of_succ_le (Nat.le_of_eq hl0)) hl3'))))) e), hls.at fun o e => k8 _ _ (by (exact Nat.ne_of_gt ((Nat.lt_trans hl3 (Nat.lt_of_succ_le (Nat.le_of_eq hl0)))))) (by (exact (Nat.lt_trans hl1 (Nat.lt_trans hl3 (Nat.lt_of_succ_le (Nat.le_of_eq hl0)))))) (k7 _ _ (by (exact Nat.ne_of_gt ((Nat.lt_trans hl3 (Nat.lt_of_succ_le (Nat.le_of_eq hl0)))))) (by (exact (Nat.lt_trans hl1 (Nat.lt_trans hl3 (Nat.lt_of_succ_le (Nat.le_of_eq hl0)))))) e), r, q.snocS x, (vs0 ++ [.ref a0]) ++ [.str x tkx], n' + 1, h8, _, _, rfl, by dsimp only; (with_reducible exact Nat.succ_pos _), e3, e4, ⟨hq50, Its.asc_snocS (piece_asc hxp) e5.2.1, by rw [Its.depth_snocS]; exact e5.2.2⟩, ?_, hsr, ?_, ?_, F8, rfl, rfl, ?_, ?_⟩
          · simp only [List.length_append, List.length_cons, List.length_nil] at e6 ⊢; omega
          · simp only [Its.count] at e8; (exact Nat.le_of_lt (Nat.lt_of_succ_le e8))
          · exact e9
          · have := (N8 _ (List.mem_cons_self ..)).1
            simpa using this
          · exact (hf tkx).mono (lkP_mono fun b o hb e => ⟨hb, k8 b o hb.2.1 hb.1 e⟩)
          
    | sub j d r =>
      obtain ⟨ac, tkj, ws', nj, vs', e, hac, hd, e3⟩ := e3
      cases e
      obtain ⟨hj3, hsd, hsr, hdd, hrd⟩ := Its.small_sub e7
      walk_at "go"
      refine IsiPair.list_str (o := listOf (Value.int j tkj :: ws').toArray nj) (F6.keep _ _ hac) rfl ?_
      walk_at "go"
      have k6 : ∀ (b : Nat) (o : Obj), b ≠ D → L < b → h5.get? b = some o → h6.get? b = some o := fun b o hb hp e =>
        kept_up (M := [D]) N6 (fun p hp => List.mem_cons_of_mem _ hp) (by simpa using hb) hp e
      have hl6 : h₂.objs.size < h6.objs.size := by
        obtain ⟨oi, hoi, _⟩ := id hit
        exact Heap.lt_size (k6 _ _ (by (exact Nat.ne_of_gt ((Nat.lt_trans hl3 (Nat.lt_trans (Nat.lt_of_succ_le (Nat.le_of_eq hl0)) hl3'))))) (by (exact (Nat.lt_trans hl1 (Nat.lt_trans hl3 (Nat.lt_trans (Nat.lt_of_succ_le (Nat.le_of_eq hl0)) hl3'))))) hoi)
      refine wpAny_call (ih d (by simp only [Its.count] at e8; omega) (k := j) (G.keeps F6.keep) ?_ ?_ hh hsd (by dsimp only; (with_reducible exact Nat.succ_pos _)) ?_ ?_)
      · show A.depth + 1 + 4 * (d.depth + 1) < _
        exact roomS hroom (Nat.le_trans hdd e9)
      · show A.units + 3 + 70 + 4 * (d.depth + 1) < _
        exact roomU hun (Nat.le_trans hdd e9)
      · exact ⟨ac, tkj, ws', nj, rfl, F6.keep _ _ hac, hd.mono fun b o e => F6.keep _ _ e⟩
      intro a8 h8 tk8 ws8 n8 hk8 ha8 ho8 hp8 ht8
      dsimp only at hk8 ha8
      have F8 := Fr_kept (M := []) F6 (by simp) (by simp) (fun b o _ e => hk8 b o e)
      have N8 := news_cons (hk8 _ _ (N6 _ (List.mem_cons_self ..)).1) (Nat.ne_of_gt hl1) (none_above F8.above hl1) (news_led F8 [D])
      clear F6 N6
      dsimp only
      walk_at "go"
      refine append_K F8 N8 (Upd.head (led_ne (by simp))) ?_ (hsz := by simp only [List.size_toArray, sizeLine] at e6 ⊢; (exact Nat.le_of_lt (Nat.lt_of_le_of_lt e6 (Nat.lt_trans hi10 (Nat.lt_of_le_of_lt hws (by decide))))))
      intro h9 F9 N9
      walk_at "go"
      have k9 : ∀ (b : Nat) (o : Obj), b ≠ D → L < b → h8.get? b = some o → h9.get? b = some o := fun b o hb hp e =>
        kept_up (M := [D]) N9 (fun p hp => List.mem_cons_of_mem _ hp) (by simpa using hb) hp e
      have hlD : D < h6.objs.size := by (exact (Nat.lt_trans hl3 (Nat.lt_trans (Nat.lt_of_succ_le (Nat.le_of_eq hl0)) (Nat.lt_trans hl3' hl6))))
      have hLs : L < h6.objs.size := by (exact (Nat.lt_trans hl1 hlD))
      refine ⟨hit.at fun o e => k9 _ _ (by (exact Nat.ne_of_gt ((Nat.lt_trans hl3 (Nat.lt_trans (Nat.lt_of_succ_le (Nat.le_of_eq hl0)) hl3'))))) (by (exact (Nat.lt_trans hl1 (Nat.lt_trans hl3 (Nat.lt_trans (Nat.lt_of_succ_le (Nat.le_of_eq hl0)) hl3'))))) (hk8 _ _ (k6 _ _ (by (exact Nat.ne_of_gt ((Nat.lt_trans hl3 (Nat.lt_trans (Nat.lt_of_succ_le (Nat.le_of_eq hl0)) hl3'))))) (by (exact (Nat.lt_trans hl1 (Nat.lt_trans hl3 (Nat.lt_trans (Nat.lt_of_succ_le (Nat.le_of_eq hl0)) hl3'))))) e)), hls.at fun o e => k9 _ _ (by (exact Nat.ne_of_gt ((Nat.lt_trans hl3 (Nat.lt_of_succ_le (Nat.le_of_eq hl0)))))) (by (exact (Nat.lt_trans hl1 (Nat.lt_trans hl3 (Nat.lt_of_succ_le (Nat.le_of_eq hl0)))))) (hk8 _ _ (k6 _ _ (by (exact Nat.ne_of_gt ((Nat.lt_trans hl3 (Nat.lt_of_succ_le (Nat.le_of_eq hl0)))))) (by (exact (Nat.lt_trans hl1 (Nat.lt_trans hl3 (Nat.lt_of_succ_le (Nat.le_of_eq hl0)))))) e)), r, q.snocN (d.mrg .nil), vs ++ [.ref a8], n' + 1, h9, _, _, rfl, by dsimp only; (with_reducible assumption), e3, e4, ⟨?_, ?_, ?_⟩, ?_, hsr, ?_, ?_, F9, rfl, rfl, ?_, ?_⟩
      · rw [Its.own_snocN]; exact e5.1
      · exact Its.asc_snocN (Its.asc_mrg (q := .nil) (Its.asc_ok hsd.1) trivial) e5.2.1
      · rw [Its.depth_snocN, Its.depth_mrg]
        have := e5.2.2
        have := hsm.2.2
        simp only [Its.depth]; omega
      · simp only [List.length_append, List.length_cons, List.length_nil] at e6 ⊢; (exact Nat.succ_le_succ e6)
      · simp only [Its.count] at e8; omega
      · (exact (Nat.le_trans hrd e9))
      · have := (N9 _ (List.mem_cons_self ..)).1
        simpa using this
      · refine PlAt.snocN (ws := ws8) (n := n8) (lkP_some.mpr ⟨⟨Nat.lt_of_lt_of_le hLs ha8, Nat.ne_of_gt (Nat.lt_of_lt_of_le hlD ha8), Nat.ne_of_gt (Nat.lt_of_lt_of_le hl6 ha8)⟩, k9 _ _ (by (exact Nat.ne_of_gt ((Nat.lt_of_lt_of_le hlD ha8)))) (by (exact (Nat.lt_of_lt_of_le hLs ha8))) ho8⟩) ?_ ?_
        · exact hp8.mono (lkP_mono fun b o hb e => ⟨⟨Nat.lt_of_lt_of_le hLs hb, Nat.ne_of_gt (Nat.lt_of_lt_of_le hlD hb), Nat.ne_of_gt (Nat.lt_of_lt_of_le hl6 hb)⟩, k9 _ _ (Nat.ne_of_gt (Nat.lt_of_lt_of_le hlD hb)) (Nat.lt_of_lt_of_le hLs hb) e⟩)
        · exact e14.mono (lkP_mono fun b o hb e => ⟨hb, k9 _ _ hb.2.1 hb.1 (hk8 _ _ (k6 _ _ hb.2.1 hb.1 e))⟩)
theorem plain_code (w : World) : ∀ t : Its, PlainC w t := by
  have all : ∀ n, ∀ t : Its, t.count < n → PlainC w t := by
    intro n
    induction n with
    | zero => intro t h; omega
    | succ n ih => exact fun t h => plain_step w t fun d hd => ih d (by (exact (Nat.lt_of_lt_of_le hd (Nat.le_of_lt_succ h))))
  exact fun t => all _ t (Nat.lt_succ_self _)
end Mine

end T_W5
end G1
section T_Pl4
set_option autoImplicit false
set_option linter.all false
open PySem PySem.W PyProof.Rows
namespace Mine
/-- the ten references' names and signs -/
def refs10 : List (List Nat × Nat) := [([97, 109, 112], 38), ([108, 116], 60), ([103, 116], 62), ([113, 117, 111, 116], 34), ([35, 49, 51], 13), ([35, 49, 48], 10), ([35, 48, 57], 9), ([35, 120, 68], 13), ([35, 120, 65], 10), ([35, 120, 57], 9)]
theorem esc_cases (k c : Nat) : (esc k c = [c] ∧ c ≠ 38 ∧ c ≠ 34) ∨ ∃ n, (n, c) ∈ refs10 ∧ esc k c = 38 :: (n ++ [59]) := by
  by_cases h38 : c = 38
  · exact .inr ⟨[97, 109, 112], by rw [h38]; decide, by rw [esc, if_pos h38]; rfl⟩
  by_cases h60 : c = 60 ∧ k ≠ 1
  · exact .inr ⟨[108, 116], by rw [h60.1]; decide, by rw [esc, if_neg h38, if_pos h60]; rfl⟩
  by_cases h62 : c = 62 ∧ (k = 0 ∨ k = 1)
  · exact .inr ⟨[103, 116], by rw [h62.1]; decide, by rw [esc, if_neg h38, if_neg h60, if_pos h62]; rfl⟩
  by_cases h34 : c = 34
  · exact .inr ⟨[113, 117, 111, 116], by rw [h34]; decide, by rw [esc, if_neg h38, if_neg h60, if_neg h62, if_pos h34]; rfl⟩
  by_cases a13 : c = 13 ∧ k = 0
  · exact .inr ⟨[35, 49, 51], by rw [a13.1]; decide, by rw [esc, if_neg h38, if_neg h60, if_neg h62, if_neg h34, if_pos a13]; rfl⟩
  by_cases a10 : c = 10 ∧ k = 0
  · exact .inr ⟨[35, 49, 48], by rw [a10.1]; decide, by rw [esc, if_neg h38, if_neg h60, if_neg h62, if_neg h34, if_neg a13, if_pos a10]; rfl⟩
  by_cases a9 : c = 9 ∧ k = 0
  · exact .inr ⟨[35, 48, 57], by rw [a9.1]; decide, by rw [esc, if_neg h38, if_neg h60, if_neg h62, if_neg h34, if_neg a13, if_neg a10, if_pos a9]; rfl⟩
  by_cases b9 : c = 9 ∧ k = 2
  · exact .inr ⟨[35, 120, 57], by rw [b9.1]; decide, by rw [esc, if_neg h38, if_neg h60, if_neg h62, if_neg h34, if_neg a13, if_neg a10, if_neg a9, if_pos b9]; rfl⟩
  by_cases b10 : c = 10 ∧ k = 2
  · exact .inr ⟨[35, 120, 65], by rw [b10.1]; decide, by rw [esc, if_neg h38, if_neg h60, if_neg h62, if_neg h34, if_neg a13, if_neg a10, if_neg a9, if_neg b9, if_pos b10]; rfl⟩
  by_cases b13 : c = 13 ∧ k = 2
  · exact .inr ⟨[35, 120, 68], by rw [b13.1]; decide, by rw [esc, if_neg h38, if_neg h60, if_neg h62, if_neg h34, if_neg a13, if_neg a10, if_neg a9, if_neg b9, if_neg b10, if_pos b13]; rfl⟩
  exact .inl ⟨by rw [esc, if_neg h38, if_neg h60, if_neg h62, if_neg h34, if_neg a13, if_neg a10, if_neg a9, if_neg b9, if_neg b10, if_neg b13], h38, h34⟩
theorem refs10_free {n : List Nat} {c : Nat} (h : (n, c) ∈ refs10) : 38 ∉ n ∧ 59 ∉ n ∧ n.length ≤ 4 := by
  have : ∀ p ∈ refs10, 38 ∉ p.1 ∧ 59 ∉ p.1 ∧ p.1.length ≤ 4 := by decide
  exact this (n, c) h
/-- what stands behind one of the signs that are cut at -/
inductive Segs : List Nat → List Nat → List (List Nat × Nat × List Nat) → Prop
  | nil : Segs [] [] []
  | plain {c l p r} : c ≠ 38 → Segs l p r → Segs (c :: l) (c :: p) r
  | ref {n c l p r} : (n, c) ∈ refs10 → Segs l p r → Segs (c :: l) [] ((n, c, p) :: r)
theorem segs_of (k : Nat) : ∀ l : List Nat, ∃ p r, Segs l p r ∧ splitL 38 (escL k l) = p :: r.map fun x => x.1 ++ 59 :: x.2.2
  | [] => ⟨[], [], .nil, rfl⟩
  | c :: l => by
    obtain ⟨p, r, hs, he⟩ := segs_of k l
    rw [escL, List.flatMap_cons]
    rcases esc_cases k c with ⟨e, h38, _⟩ | ⟨n, hn, e⟩
    · refine ⟨c :: p, r, .plain h38 hs, ?_⟩
      rw [e, List.singleton_append, splitL, if_neg h38]
      rw [escL] at he
      rw [he]
    · refine ⟨[], (n, c, p) :: r, .ref hn hs, ?_⟩
      have hf := refs10_free hn
      rw [e, List.cons_append, splitL, if_pos rfl]
      congr 1
      rw [escL] at he
      have key : ∀ m : List Nat, 38 ∉ m → splitL 38 (m ++ (l.flatMap (esc k))) = (m ++ p) :: r.map fun x => x.1 ++ 59 :: x.2.2 := by
        intro m hm
        induction m with
        | nil => exact he
        | cons d m ih =>
          simp only [List.mem_cons, not_or] at hm
          rw [List.cons_append, splitL, if_neg (Ne.symm hm.1), ih hm.2]
          rfl
      rw [key (n ++ [59]) (by simp [hf.1])]
      simp
theorem Segs.out {l p : List Nat} {r : List (List Nat × Nat × List Nat)} (h : Segs l p r) : l = p ++ r.flatMap fun x => x.2.1 :: x.2.2 := by
  induction h with
  | nil => rfl
  | plain _ _ ih => rw [ih]; rfl
  | ref _ _ ih => rw [ih]; simp
theorem Segs.mem {l p : List Nat} {r : List (List Nat × Nat × List Nat)} (h : Segs l p r) : ∀ x ∈ r, (x.1, x.2.1) ∈ refs10 := by
  induction h with
  | nil => intro x hx; cases hx
  | plain _ _ ih => exact ih
  | ref hn _ ih =>
    intro x hx
    rcases List.mem_cons.mp hx with rfl | hx
    · exact hn
    · exact ih x hx
theorem splitL_head (c : Nat) : ∀ (n r : List Nat), c ∉ n → ∃ ps, splitL c (n ++ c :: r) = n :: ps
  | [], r, _ => ⟨splitL c r, by simp [splitL]⟩
  | d :: n, r, h => by
    simp only [List.mem_cons, not_or] at h
    obtain ⟨ps, e⟩ := splitL_head c n r h.2
    exact ⟨ps, by rw [List.cons_append, splitL, if_neg (Ne.symm h.1), e]⟩
end Mine

end T_Pl4
section G2
open PySem PySem.W PyProof.Rows PySem.Calls
local macro_rules | `(tactic| walk_at "go") => `(tactic| repeat' ((fail_if_success (show (Heap.IsListIter _ _ _ _ ∧ _))); (fail_if_success (with_reducible show wpAny _ _ (PySem.call (Value.ref _) _ _) _ _ _)); (fail_if_success (with_reducible show wpAny _ _ (PySem.call (Value.builtin "list.append") _ _) _ _ _)); (fail_if_success (with_reducible show wpAny _ _ (PySem.call (Value.builtin "isinstance") [Value.ref _, _]) _ _ _)); (fail_if_success (with_reducible show wpAny _ _ (newTuple _) _ _ _)); (fail_if_success (with_reducible show wpAny _ _ (newList _) _ _ _)); (fail_if_success (with_reducible show wpAny _ _ (compareOp _ (Value.ref _) _) _ _ _)); (fail_if_success (with_reducible show wpAny _ _ (PySem.call (Value.builtin "str.split") _ _) _ _ _)); (fail_if_success (with_reducible show wpAny _ _ (exec (Stmt.For _ _ _ _ _) _) _ _ _)); (fail_if_success (with_reducible show wpAny _ _ (compareOp _ _ (Value.ref _)) _ _ _)); walk1))
section T_W6
set_option autoImplicit false
set_option linter.all false
open PySem PySem.W PyProof.Rows PySem.Calls
set_option Elab.async false
set_option maxRecDepth 100000
set_option maxHeartbeats 8000000
namespace Mine
theorem off_W6 : True := by w_top off; trivial
theorem fill6 (w : World) : Challenge.rw_nb0133_01.prog = Challenge.rw_nb0133_01.prog ∧ (hd.heap_39 w.params).length = (hd.heap_39 w.params).length := by
  k_fill
  exact ⟨rfl, rfl⟩
theorem slice_from (l : List Nat) (i : Nat) (hi : i ≤ l.length) : Txt.slice (txt l) (some (i : Int)) none = txt (l.drop i) := by
  rw [slice_from_eq (x := txt l) (i := i) (b := l.length) (by (exact Int.natCast_nonneg _)) (by rw [len_txt]; omega) (by rw [len_txt])]
  show txt ((l.drop i).take _) = _
  congr 1
  exact List.take_of_length_le (by rw [List.length_drop]; omega)
theorem drop_mid : ∀ (n : List Nat) (c : Nat) (r : List Nat), (n ++ c :: r).drop (n.length + 1) = r
  | [], _, _ => rfl
  | _ :: n, c, r => drop_mid n c r
inductive InvSigns (s : Shared) (l : List Nat) (L : Nat) (on : Obj) (dn : Nat) (r : List (List Nat × Nat × List Nat)) (i : Nat) (s₁ : Shared) : Prop
  | mk (acc : List Nat) (h : Heap) (tk : Nat) (m : Str → Option Value) (tkt : Tok) (f1 : s₁ = { s with heap := h, toks := tk }) (f2 : 0 < tk) (f3 : acc ++ (r.drop i).flatMap (fun x => x.2.1 :: x.2.2) = l) (f4 : Fr s.heap L h m) (f5 : m (Str.ofString "text") = some (.str (txt acc) tkt)) (f6 : m (Str.ofString "names") = some (.ref dn)) (f7 : h.get? dn = some on) : InvSigns s l L on dn r i s₁
theorem signs_code {w : World} {A : Around} {s : Shared} {R : Result → Shared → Prop} {k : Nat} {l : List Nat} {tk : Tok}
    (G : Gd w s.heap) (hroom : A.depth < recursionLimit) (hh : A.handled = none) (hk3 : k < 3) (hx : l.length ≤ 100000) (ht : 0 < s.toks)
    (h : ∀ t h' tk', (∀ b o, s.heap.get? b = some o → h'.get? b = some o) → 0 < tk' → R (.ok (.ret (.str (txt l) t))) { s with heap := h', toks := tk' }) :
    codeAny (model PR w) A (.call (.ref 98) ⟨[.str (txt (escL k l)) tk], []⟩) R s := by
  have X := G.K
  obtain ⟨mean, mg, mb, T⟩ := G.T
  refine' enterF (binds := [(Str.ofString "written", .str (txt (escL k l)) tk)]) G (fun _ _ e => e) (Nat.le_refl _) ?ho ?hcd (by (with_reducible assumption)) ?hb ?hl ?hbody ?h1 ?h2 ?h3 ?h4
  case ho => rfl
  case hcd => rfl
  case hb => exact BindsTo.of_eq rfl
  case hl => exact locs rfl
  case h1 => decide
  case h2 => rfl
  case h3 => rfl
  case h4 => rfl
  intro L h₁ hL F hk
  have N := news_led F []
  have hl1 : L < h₁.objs.size := F.ns.lt
  walk_at "go"
  rename Fr _ _ _ _ => F'
  rename News _ _ _ _ => N'
  rename Obj.IsDictOf _ _ _ => hd'
  obtain ⟨kvs, hdo, hnm⟩ : ∃ kvs, Obj.IsDictOf (PySem.strKind PR w) ‹Obj› kvs ∧ ∀ n c, (n, c) ∈ refs10 → ∃ tk, valueAt kvs (txt n) = some (.str (txt [c]) tk) := by
    refine ⟨_, hd', ?_⟩
    intro n c hn
    simp only [refs10, List.mem_cons, Prod.mk.injEq, List.not_mem_nil, or_false] at hn
    rcases hn with ⟨rfl, rfl⟩ | ⟨rfl, rfl⟩ | ⟨rfl, rfl⟩ | ⟨rfl, rfl⟩ | ⟨rfl, rfl⟩ | ⟨rfl, rfl⟩ | ⟨rfl, rfl⟩ | ⟨rfl, rfl⟩ | ⟨rfl, rfl⟩ | ⟨rfl, rfl⟩
    all_goals exact ⟨_, rfl⟩
  clear hd'
  rename PyProof.V.FlatPairs _ _ _ => hf'
  clear hf'
  rename Heap => hn
  rename Obj => on
  have hn1 : h₁.objs.size < hn.objs.size := Heap.lt_size (N' _ (List.mem_cons_self ..)).1
  dsimp only at F'
  generalize hdn : h₁.objs.size = dn at F' N' hl1 hn1
  obtain ⟨p, r, hs, he⟩ := segs_of k l
  have hel : (escL k l).length ≤ 600000 := by have := escL_len k l; omega
  refine wpAny_with_toks (n := 1) (Nat.succ_pos _) (splitN1 F' N' (by decide +kernel) (fun ls h₄ k₄ hls F₄ N₄ hk₄ => ?_) (by rw [len_txt, sizeLine]; omega))
  rw [of38, txt_split, he, List.map_cons] at hls
  dsimp only at F₄ N₄ hk₄ ⊢
  clear F' N'
  have hn2 : hn.objs.size < h₄.objs.size := Heap.lt_size (N₄ _ (List.mem_cons_self ..)).1
  generalize hps : hn.objs.size = ps at N₄ hn1 hn2 ⊢
  refine stN F₄ N₄ ?_
  clear F₄ N₄
  intro h₅ F₅ N₅
  cases ls with
  | nil => cases hls
  | cons x0 ls =>
  obtain ⟨x0, t0⟩ := x0
  rw [List.map_cons, List.cons.injEq] at hls
  obtain ⟨rfl, hls⟩ := hls
  have hpl : h₅.IsList ps (Value.str (txt p) t0 :: strValues ls).toArray := ⟨_, (N₅ _ (List.mem_cons_self ..)).1, rfl, _, rfl⟩
  dsimp only
  walk1
  walk1
  walk1
  walk1
  walk1
  refine item_listL hpl (by decide) (by decide) rfl ?_
  refine stN F₅ N₅ ?_
  intro h₆ F₆ N₆
  clear F₅ N₅
  have hpl6 : h₆.IsList ps (Value.str (txt p) t0 :: strValues ls).toArray := ⟨_, (N₆ _ (List.mem_cons_self ..)).1, rfl, _, rfl⟩
  dsimp only
  walk1
  refine forList hh (fun _ => rfl) (fun _ _ => rfl) ?_
  walk1
  walk1
  walk1
  walk1
  walk1
  walk1
  walk1
  have hlr : ls.length = r.length := by simpa using congrArg List.length hls
  have hrl : r.length ≤ 600000 := by
    have h1 := hs.out
    have h2 : r.length ≤ (r.flatMap fun x => x.2.1 :: x.2.2).length := by
      clear h1 hs hls he hlr
      induction r with
      | nil => simp
      | cons x r ih => rw [List.flatMap_cons, List.length_append, List.length_cons, List.length_cons]; omega
    have h3 := congrArg List.length h1
    rw [List.length_append] at h3
    omega
  refine slice_list F₆ N₆ hpl6 (.int _ _) .none ?_ (hsz := by simp [sizeLine, strValues]; (exact Nat.le_of_lt (Nat.lt_of_le_of_lt (Nat.le_of_eq hlr) (Nat.lt_of_le_of_lt hrl (by decide)))))
  rw [show slicePick (Value.str (txt p) t0 :: strValues ls).toArray (some 1) none none = (strValues ls).toArray from slicePick_from' _ 1]
  have hn6 : ps < h₆.objs.size := Heap.lt_size (N₆ _ (List.mem_cons_self ..)).1
  clear F₆ N₆
  intro h₇ F₇ N₇
  dsimp only at N₇ ⊢
  have hn7 : h₆.objs.size + 1 < h₇.objs.size := Heap.lt_size (N₇ _ (List.mem_cons_self ..)).1
  generalize hl0 : h₆.objs.size + 1 = ll at N₇ hn7 hn6 ⊢
  have hdn7 : h₇.get? dn = some on := (N₇ _ (List.mem_cons_of_mem _ (List.mem_cons_of_mem _ (List.mem_cons_self ..)))).1
  refine ⟨ll, (strValues ls).toArray, (InvSigns s l L on dn r), rfl, (N₇.isList (List.mem_cons_self ..)), ?stab, ?start, ?turn, ?done⟩
  case stab =>
    rintro i s₂ h' tk ⟨acc, h5, tk5, m, tkt, rfl, e2, e3, e4, e5, e6, e7⟩ htk hk'
    refine ⟨acc, h', tk, m, tkt, rfl, Nat.lt_of_lt_of_le e2 htk, e3, ?_, e5, e6, hk' _ _ (by (exact Nat.ne_of_lt ((Nat.lt_trans hn1 (Nat.lt_trans hn6 (Nat.lt_trans (Nat.lt_of_succ_le (Nat.le_of_eq hl0)) hn7)))))) e7⟩
    refine Fr_kept (M := [h₇.objs.size]) e4 (by simp; (exact Nat.ne_of_lt ((Nat.lt_trans hl1 (Nat.lt_trans hn1 (Nat.lt_trans hn6 (Nat.lt_trans (Nat.lt_of_succ_le (Nat.le_of_eq hl0)) hn7))))))) ?_ ?_
    · intro b hb; rw [List.mem_singleton.mp hb]; exact none_above e4.above (by (exact (Nat.lt_trans hl1 (Nat.lt_trans hn1 (Nat.lt_trans hn6 (Nat.lt_trans (Nat.lt_of_succ_le (Nat.le_of_eq hl0)) hn7))))))
    · intro b o hb e; exact hk' b o (by simpa using hb) e
  case start =>
    exact ⟨p, h₇, _, _, t0, rfl, by (with_reducible exact Nat.succ_pos _), hs.out.symm, F₇, rfl, rfl, hdn7⟩
  case done =>
    rintro s₂ ⟨acc, h5, tk5, m, tkt, rfl, e2, e3, e4, e5, e6, e7⟩
    have hsz : (strValues ls).toArray.size = r.length := by simp [strValues, hlr]
    rw [hsz, List.drop_length, List.flatMap_nil, List.append_nil] at e3
    subst e3
    clear F₇ N₇
    have F := Fr_pin (x := Str.ofString "text") e4 e5
    walk_at "go"
    exact h _ _ _ (fun b o e => F.keep b o e) e2
  case turn =>
    rintro i v s₂ hv ⟨acc, h5, tk5, m, tkt, rfl, e2, e3, e4, e5, e6, e7⟩ hit hls2
    have hi : i < r.length := by
      have := (Array.getElem?_eq_some_iff.mp hv).1
      simpa [strValues, hlr] using this
    obtain ⟨⟨n, c, run⟩, hri⟩ : ∃ x, r[i]? = some x := ⟨r[i], by simp [hi]⟩
    have hdr : r.drop i = (n, c, run) :: r.drop (i + 1) := by
      rw [List.drop_eq_getElem_cons hi, (List.getElem?_eq_some_iff.mp hri).2]
    obtain ⟨tkp, rfl⟩ : ∃ tkp, v = .str (txt (n ++ 59 :: run)) tkp := by
      have h1 : (ls.map (·.1))[i]? = some (txt (n ++ 59 :: run)) := by rw [hls]; simp [hri]
      rw [List.getElem?_map] at h1
      have h2 : (strValues ls)[i]? = some v := by simpa using hv
      rw [strValues, List.getElem?_map] at h2
      cases hl : ls[i]? with
      | none => rw [hl] at h1; cases h1
      | some y => rw [hl] at h1 h2; simp at h1 h2; exact ⟨y.2, by rw [← h2, h1]⟩
    have hnc : (n, c) ∈ refs10 := hs.mem (n, c, run) (List.mem_of_getElem? hri)
    have hf := refs10_free hnc
    obtain ⟨tkv, hval⟩ := hnm n c hnc
    rw [hdr, List.flatMap_cons] at e3
    have hlen : acc.length + run.length + 1 ≤ 100000 := by
      have := congrArg List.length e3
      simp only [List.length_append, List.length_cons] at this
      omega
    clear F₇ N₇
    have F := Fr_pin (x := Str.ofString "names") (Fr_pin (x := Str.ofString "text") e4 e5) e6
    have N := news_led F []
    refine wpAny_assign_Name ?_
    refine stN F N ?_
    intro h6 F6 N6
    walk_at "go"
    obtain ⟨ps', hps'⟩ := splitL_head 59 n run hf.2.1
    refine wpAny_with_toks (n := 1) (Nat.succ_pos _) (splitN1 F6 N6 (by decide +kernel) (fun qs h7 k7 hqs F7 N7 hk7 => ?_) (by rw [len_txt, sizeLine, List.length_append, List.length_cons]; omega))
    rw [show Str.ofString ";" = ⟨#[59]⟩ from by decide +kernel, txt_split, hps', List.map_cons] at hqs
    dsimp only at F7 N7 hk7 ⊢
    walk1
    refine item_strsT (l := qs) (News.isList N7 (List.mem_cons_self ..)) (by decide) ?_ (by decide) ?_
    · have := congrArg List.length hqs
      simp only [List.length_map, List.length_cons] at this
      omega
    intro y t8 hy
    rw [hqs] at hy
    obtain rfl : txt n = y := by simpa using hy
    refine stN F7 N7 ?_
    intro h8 F8 N8
    clear F7 N7 F6 N6
    dsimp only
    have hdn8 : h8.get? dn = some on := (N8 (dn, on) (List.mem_cons_of_mem _ (mem_led.mpr ⟨hl1, by simp, e7⟩))).1
    have hm8 : h8.MapOf (PySem.strKind PR w) dn (valueAt kvs) := (Heap.dictOf_iff.mpr ⟨on, hdn8, hdo⟩).mapOf
    walk_at "go"
    have h120 : 120 < s.heap.objs.size := Heap.lt_size (G.K 120 _ rfl)
    refine wpAny_notIn_of (strKind_is PR w (txt n) t8) (by rw [beq_eq_false_iff_ne]; show dn ≠ 1; (exact Nat.ne_of_gt ((Nat.lt_trans (by decide) (Nat.lt_trans h120 (Nat.lt_of_le_of_lt (Nat.le_of_eq (Eq.symm hL)) hl1)))))) hm8 ?_
    rw [hval, Option.isSome_some, Bool.not_true]
    have hocc : (Builtin.Str.occurrences (txt (n ++ 59 :: run)) (Str.ofString ";") 0 (txt (n ++ 59 :: run)).length 1).isEmpty = false := by
      have := StrLaws.found_one (txt (n ++ 59 :: run)) 59
      rw [show Str.ofString ";" = ⟨#[59]⟩ from by decide +kernel]
      simpa using this
    walk_at "go"
    dsimp only
    refine tail_any hm8.typeIs slot_dict_getitem.lookup (wpAny_getItem_of (strKind_is PR w (txt n) t8) hm8 hval ?_) (by with_unfolding_all rfl)
    refine wpAny_with_toks (n := 1) (Nat.succ_pos _) (PyProof.Rows.add_str (fun t9 tk9 hk9 => ?_) (by rw [len_txt, len_txt, sizeLine, List.length_singleton]; omega))
    rw [txt_append]
    dsimp only at hk9 ⊢
    walk_at "go"
    refine PyProof.Rows.len_str (by rw [len_txt]; omega) ?_
    rw [len_txt]
    walk_at "go"
    refine wpAny_with_toks (n := 1) (Nat.succ_pos _) (slice_strN_sn (s := ⟨h8, s.gens, s.drawn, _, s.os⟩) F8 N8 (fun h10 t10 k10 F10 N10 hk10 => ?_) (hsz := by rw [len_txt, sizeLine, List.length_append, List.length_cons]; omega))
    rw [show ((n.length : Int) + 1) = ((n.length + 1 : Nat) : Int) from by omega, slice_from _ _ (by rw [List.length_append, List.length_cons]; omega)]
    rw [show (n ++ 59 :: run).drop (n.length + 1) = run from drop_mid n 59 run]
    refine wpAny_with_toks (n := 1) hk10 (PyProof.Rows.add_str (fun t11 tk11 hk11 => ?_) (by rw [len_txt, len_txt, sizeLine, List.length_append, List.length_singleton]; omega))
    rw [txt_append]
    dsimp only at hk11 ⊢
    refine stN F10 N10 ?_
    intro h12 F12 N12
    walk_at "go"
    refine ⟨hit.at fun o e => ?_, hls2.at fun o e => ?_, acc ++ [c] ++ run, h12, tk11 + 1, _, t11, rfl, by (with_reducible exact Nat.succ_pos _), by rw [← e3]; simp, F12, rfl, rfl, ?_⟩
    · exact kept_up (M := []) N12 (fun p hp => List.mem_cons_of_mem _ hp) (by simp) (by (exact (Nat.lt_trans hl1 (Nat.lt_trans hn1 (Nat.lt_trans hn6 (Nat.lt_trans (Nat.lt_of_succ_le (Nat.le_of_eq hl0)) hn7)))))) e
    · exact kept_up (M := []) N12 (fun p hp => List.mem_cons_of_mem _ hp) (by simp) (by (exact (Nat.lt_trans hl1 (Nat.lt_trans hn1 (Nat.lt_trans hn6 (Nat.lt_of_succ_le (Nat.le_of_eq hl0))))))) e
    · exact kept_up (M := []) N12 (fun p hp => List.mem_cons_of_mem _ hp) (by simp) (by (with_reducible assumption)) e7
end Mine

end T_W6
end G2
section T_Pl5
set_option autoImplicit false
set_option linter.all false
open PySem PySem.W PyProof.Rows
namespace Mine
/-- the text ahead of the first node in it -/
def Its.own0 : Its → List Nat
  | .nil => []
  | .str x r => lst x ++ r.own0
  | .sub _ _ _ => []
/-- the nodes in it, each with the text behind it -/
def Its.kids : Its → List ((Nat × Its) × List Nat)
  | .nil => []
  | .str _ r => r.kids
  | .sub j d r => ((j, d), r.own0) :: r.kids
theorem escL_append (k : Nat) (a b : List Nat) : escL k (a ++ b) = escL k a ++ escL k b := by simp [escL]
theorem escL_free (k : Nat) : ∀ l : List Nat, 34 ∉ escL k l
  | [] => by simp [escL]
  | c :: l => by
    have ih := escL_free k l
    rw [escL, List.flatMap_cons, List.mem_append, not_or]
    refine ⟨?_, ih⟩
    rcases esc_cases k c with ⟨e, _, h34⟩ | ⟨n, hn, e⟩
    · rw [e]; simp; exact Ne.symm h34
    · rw [e]
      have : ∀ p ∈ refs10, 34 ∉ 38 :: (p.1 ++ [59]) := by decide
      exact this (n, c) hn
def flatK (k : Nat) (cs : List ((Nat × Its) × List Nat)) : List (List Nat) := cs.flatMap fun p => [escL k (p.1.2.row p.1.1), escL k p.2]
theorem splitL_free (c : Nat) : ∀ (m l : List Nat), c ∉ m → ∀ p ps, splitL c l = p :: ps → splitL c (m ++ l) = (m ++ p) :: ps
  | [], _, _, _, _, e => e
  | d :: m, l, h, p, ps, e => by
    simp only [List.mem_cons, not_or] at h
    rw [List.cons_append, splitL, if_neg (Ne.symm h.1), splitL_free c m l h.2 p ps e]
    rfl
theorem Its.row_split (k : Nat) : ∀ t : Its, splitL 34 (t.row k) = escL k t.own0 :: flatK k t.kids
  | .nil => rfl
  | .str x r => by
    rw [Its.row, splitL_free 34 _ _ (escL_free k (lst x)) _ _ (r.row_split k), Its.own0, Its.kids, escL_append]
  | .sub j d r => by
    rw [Its.row, splitL, if_pos rfl, Its.own0, Its.kids, flatK, List.flatMap_cons]
    show [] :: splitL 34 (escL k (d.row j) ++ 34 :: r.row k) = [] :: (escL k (d.row j) :: escL k r.own0 :: flatK k r.kids)
    have h1 : splitL 34 (34 :: r.row k) = [] :: (escL k r.own0 :: flatK k r.kids) := by rw [splitL, if_pos rfl, r.row_split k]
    rw [splitL_free 34 _ _ (escL_free k (d.row j)) _ _ h1, List.append_nil]
def toldK (cs : List ((Nat × Its) × List Nat)) : List (Nat × Its) := cs.flatMap fun p => p.1.2.told ++ [p.1]
theorem Its.told_kids : ∀ t : Its, t.told = toldK t.kids
  | .nil => rfl
  | .str _ r => r.told_kids
  | .sub j d r => by rw [Its.told, Its.kids, toldK, List.flatMap_cons, r.told_kids, toldK]; simp
def addT (q : Its) (x : List Nat) : Its := if x = [] then q else q.snocS (txt x)
def foldK (q : Its) (cs : List ((Nat × Its) × List Nat)) : Its := cs.foldl (fun q p => addT (q.snocN (p.1.2.mrg .nil)) p.2) q
theorem Its.snocS_snocS (y z : Str) : ∀ q : Its, (q.snocS y).snocS z = q.snocS (y ++ z)
  | .nil => rfl
  | .str x .nil => by
    simp only [Its.snocS]
    congr 1
    refine str_ext ?_
    simp only [lst_append, List.append_assoc]
  | .str x (.str u r) => by
    have ih := snocS_snocS y z (.str u r)
    have h1 : ∃ u' r', (Its.str u r).snocS y = .str u' r' := by cases r <;> exact ⟨_, _, rfl⟩
    obtain ⟨u', r', e⟩ := h1
    rw [Its.snocS, Its.snocS, e, Its.snocS, ← e, ih]
  | .str x (.sub k d r) => by
    have ih := snocS_snocS y z (.sub k d r)
    rw [Its.snocS, Its.snocS]
    rw [Its.snocS] at ih ⊢
    rw [Its.snocS, ih]
  | .sub k d r => by
    rw [Its.snocS, Its.snocS, snocS_snocS y z r, Its.snocS]
theorem Its.mrg_fold : ∀ (t q : Its), t.ok → t.mrg q = foldK (addT q t.own0) t.kids
  | .nil, q, _ => by simp [Its.mrg, Its.own0, Its.kids, addT, foldK]
  | .str x r, q, h => by
    rw [Its.mrg, r.mrg_fold _ h.2, Its.kids, Its.own0]
    congr 1
    have hx := piece_ne h.1
    have e2 : addT q (lst x ++ r.own0) = q.snocS (txt (lst x ++ r.own0)) := by
      rw [addT, if_neg (by intro e; exact hx (List.append_eq_nil_iff.mp e).1)]
    rw [e2, addT]
    split
    · rename_i e; rw [e, List.append_nil, txt_lst]
    · rw [Its.snocS_snocS]
      congr 1
      refine str_ext ?_
      rw [lst_append, lst_txt, lst_txt]
  | .sub j d r, q, h => by
    rw [Its.mrg, r.mrg_fold _ h.2.2, Its.kids, Its.own0]
    show _ = foldK (addT q []) (((j, d), r.own0) :: r.kids)
    rw [show addT q [] = q from if_pos rfl]
    rfl
/-- what holds of each node in it -/
def KidsOk (t : Its) (cs : List ((Nat × Its) × List Nat)) : Prop := ∀ p ∈ cs, p.1.1 < 3 ∧ p.1.2.small ∧ p.1.2.count < t.count ∧ p.1.2.depth + 1 ≤ t.depth ∧ p.2.length ≤ 50 ∧ (∀ c ∈ p.2, c < 128)
theorem Its.own0_len : ∀ t : Its, t.ok → t.own0.length ≤ 5 * t.count
  | .nil, _ => by simp [Its.own0]
  | .str x r, h => by
    have h1 := r.own0_len h.2
    have h2 := piece_len h.1
    simp only [Its.own0, Its.count, List.length_append]; omega
  | .sub _ _ _, _ => by simp [Its.own0]
theorem Its.own0_asc : ∀ t : Its, t.ok → ∀ c ∈ t.own0, c < 128
  | .nil, _ => by simp [Its.own0]
  | .str x r, h => by
    intro c hc
    rw [Its.own0, List.mem_append] at hc
    exact hc.elim (piece_asc h.1 c) (r.own0_asc h.2 c)
  | .sub _ _ _, _ => by simp [Its.own0]
theorem Its.kids_ok : ∀ t : Its, t.small → KidsOk t t.kids
  | .nil, _ => by intro p hp; cases hp
  | .str x r, h => by
    intro p hp
    obtain ⟨a, b, c, d, e⟩ := r.kids_ok (Its.small_str h).2 p hp
    exact ⟨a, b, by rw [Its.count]; omega, by rw [Its.depth]; (with_reducible assumption), e⟩
  | .sub j d r, h => by
    obtain ⟨h1, h2, h3, h4, h5⟩ := Its.small_sub h
    intro p hp
    rw [Its.kids] at hp
    rcases List.mem_cons.mp hp with rfl | hp
    · have a1 := r.own0_len h3.1
      have a2 := h3.2.1
      exact ⟨h1, h2, by show d.count < (Its.sub j d r).count; rw [Its.count]; omega, h4, by show r.own0.length ≤ 50; omega, r.own0_asc h3.1⟩
    · obtain ⟨a, b, c, e, f⟩ := r.kids_ok h3 p hp
      exact ⟨a, b, by rw [Its.count]; omega, by (exact (Nat.lt_of_lt_of_le (Nat.lt_of_succ_le e) h5)), f⟩
theorem flatK_len (k : Nat) : ∀ cs, (flatK k cs).length = 2 * cs.length
  | [] => rfl
  | p :: cs => by
    have := flatK_len k cs
    rw [flatK, List.flatMap_cons, List.length_append] at *
    simp only [flatK, List.length_cons, List.length_nil] at this ⊢
    omega
theorem Its.kids_len : ∀ t : Its, t.kids.length ≤ t.count
  | .nil => by simp [Its.kids]
  | .str _ r => by have := r.kids_len; simp only [Its.kids, Its.count]; (exact Nat.le_add_right_of_le this)
  | .sub _ _ r => by have := r.kids_len; simp only [Its.kids, Its.count, List.length_cons]; omega
end Mine

end T_Pl5
section G3
open PySem PySem.W PyProof.Rows PySem.Calls
local macro_rules | `(tactic| walk_at "go") => `(tactic| repeat' ((fail_if_success (show (IsRangeIter _ _ _ _ _ ∧ _))); (fail_if_success (with_reducible show wpAny _ _ (PySem.call (Value.ref _) _ _) _ _ _)); (fail_if_success (with_reducible show wpAny _ _ (PySem.call (Value.builtin "list.append") _ _) _ _ _)); (fail_if_success (with_reducible show wpAny _ _ (PySem.call (Value.builtin "isinstance") [Value.ref _, _]) _ _ _)); (fail_if_success (with_reducible show wpAny _ _ (newTuple _) _ _ _)); (fail_if_success (with_reducible show wpAny _ _ (PySem.call (Value.type "enumerate") _ _) _ _ _)); (fail_if_success (with_reducible show Seg _ _ _ _ _ _ _ _ _ _)); (fail_if_success (with_reducible show wpAny _ _ (newList _) _ _ _)); (fail_if_success (with_reducible show wpAny _ _ (compareOp _ (Value.ref _) _) _ _ _)); (fail_if_success (with_reducible show wpAny _ _ (PySem.call (Value.builtin "str.split") _ _) _ _ _)); (fail_if_success (with_reducible show wpAny _ _ (PySem.call (Value.builtin "str.join") _ _) _ _ _)); (fail_if_success (with_reducible show wpAny _ _ (PySem.call (Value.builtin "str.replace") _ _) _ _ _)); (fail_if_success (with_reducible show wpAny _ _ (exec (Stmt.For _ _ _ _ _) _) _ _ _)); (fail_if_success (with_reducible show wpAny _ _ (exec (Stmt.While _ _ _ _) _) _ _ _)); (fail_if_success (with_reducible show wpAny _ _ (eval (Expr.ListComp _ _ _ _) _) _ _ _)); (fail_if_success (with_reducible show wpAny _ _ (compareOp _ _ (Value.ref _)) _ _ _)); (fail_if_success (with_reducible show wpAny _ _ (subscriptTail _ _ (Value.ref _) _) _ _ _)); walk1))
section T_W7
set_option autoImplicit false
set_option linter.all false
open PySem PySem.W PyProof.Rows PySem.Calls
set_option Elab.async false
set_option maxRecDepth 100000
set_option maxHeartbeats 8000000
namespace Mine
theorem off_W7 : True := by w_top off; trivial
theorem fill7 (w : World) : Challenge.rw_nb0133_01.prog = Challenge.rw_nb0133_01.prog ∧ (hd.heap_39 w.params).length = (hd.heap_39 w.params).length := by
  k_fill
  exact ⟨rfl, rfl⟩

/-- a for statement over range(n) -/
theorem forRange {w : World} {A : Around} {s : Shared} {Q : Flow → Shared → Prop} {env : Env} {target iter : Expr} {body : List Stmt} {pos : Pos} {E : Value → Shared → Prop}
    (hh : A.handled = none) (hs : ∀ x, foldedSetIterable iter env x = pure x)
    (hgo : ∀ I v, letOwnedTupleGo target (.ref I) v = pure ())
    (h : wpAny (model PR w) A (eval iter env) (fun xv s₁ => ∃ (r : Addr) (n : Nat) (t u v : Tok) (Inv : Nat → Shared → Prop), xv = .ref r ∧ IsRange s₁.heap r 0 n 1 t u v ∧ n < 2 ^ 60 ∧
        (∀ i (s₂ : Shared) h' tk, Inv i s₂ → s₂.toks ≤ tk → (∀ b o, b ≠ s₁.heap.objs.size → s₂.heap.get? b = some o → h'.get? b = some o) → Inv i { s₂ with heap := h', toks := tk }) ∧
        Inv 0 s₁ ∧
        (∀ (i : Nat) tk s₂, i < n → Inv i s₂ → IsRangeIter s₂.heap s₁.heap.objs.size ((i : Int) + 1) ((n : Int) - ((i : Int) + 1)) 1 →
          wpAny (model PR w) A (assign target env (.int i tk)) (fun _ s₃ => wpAny (model PR w) A (execs body env) (fun f s₄ => match f with
            | .next | .cont => IsRangeIter s₄.heap s₁.heap.objs.size ((i : Int) + 1) ((n : Int) - ((i : Int) + 1)) 1 ∧ Inv (i + 1) s₄
            | .brk => Q .next s₄
            | .ret v => Q (.ret v) s₄) NoE s₃) NoE s₂) ∧
        (∀ s₂, Inv n s₂ → Q .next s₂)) E s) :
    wpAny (model PR w) A (exec (.For target iter body [] pos) env) Q E s := by
  refine wpAny_For (wpAny_mono h (fun xv s₁ h₁ => ?_) fun _ _ e => e) hs
  obtain ⟨r, n, t, u, v, Inv, rfl, hr, hn, stab, h0, step, done⟩ := h₁
  have hsz : Builtin.Range.rangeSize 0 n 1 = n := by rw [rangeSize_one]; split <;> omega
  refine wpAny_pyIter_range hr (small_one (by decide) (by decide) (by (exact Int.natCast_nonneg _)) (by omega)) ?_
  rw [hsz]
  have W := Walks.range (prog := PR) (w := w) hh s₁.heap.objs.size 0 1 n
  have e0 := stab 0 s₁ (s₁.heap.push { cls := .type "range_iterator", data := .fields #[rawInt 0, rawInt n, rawInt 1] }) s₁.toks h0 (Nat.le_refl _) fun b o _ e => Heap.get?_push_of_some _ e
  refine loopW W Inv ?_ e0 (fun i s₂ h' tk hI ht hk => stab i s₂ h' tk hI ht fun b o hb e => hk b o (by simpa using hb) e) ?_ (fun s₂ hI => done s₂ hI) (hgo _)
  · show (s₁.heap.push _).get? s₁.heap.objs.size = some _
    rw [Heap.get?_push_size _ rfl]
    simp
  intro i v s₂ hi hP hI hst
  obtain ⟨tk, rfl⟩ := hP
  have e1 : (0 : Int) + ((i : Nat) : Int) * 1 = i := by omega
  have e2 : (0 : Int) + ((i + 1 : Nat) : Int) * 1 = (i : Int) + 1 := by omega
  have e3 : ((i + 1 : Nat) : Int) = (i : Int) + 1 := by omega
  rw [e1]
  rw [e2, e3] at hst
  refine wpAny_mono (step i tk s₂ hi hI hst) (fun _ s₃ h₃ => wpAny_mono h₃ (fun f s₄ h₄ => ?_) fun _ _ e => e) fun _ _ e => e
  cases f with
  | next => exact ⟨by rw [e2, e3]; exact h₄.1, h₄.2⟩
  | cont => exact ⟨by rw [e2, e3]; exact h₄.1, h₄.2⟩
  | brk => exact h₄
  | ret v => exact h₄

theorem strsAre_append {vs us : List Value} {xs ys : List Str} (h : StrsAre vs xs) (h' : StrsAre us ys) : StrsAre (vs ++ us) (xs ++ ys) := by
  induction h with
  | nil => exact h'
  | cons y t _ ih => exact .cons y t ih
def ReadC (w : World) (t : Its) : Prop := ∀ {A : Around} {s : Shared} {R : Result → Shared → Prop} {k mt n : Nat} {xs : List Value} {tk : Tok},
  Gd w (hideAll s.heap [mt]) → A.depth + 4 * (t.depth + 1) < recursionLimit → A.handled = none → k < 3 → t.small → 0 < s.toks →
  s.heap.get? mt = some (listOf xs.toArray n) → xs.length + t.told.length ≤ 1000 →
  (∀ (a : Nat) h' tk' vs m' ys n', (∀ b o, b ≠ mt → s.heap.get? b = some o → h'.get? b = some o) → s.heap.objs.size ≤ a → h'.get? a = some (listOf vs.toArray m') → PlAt (lkP (fun b => s.heap.objs.size ≤ b) h') (t.mrg .nil) vs →
    h'.get? mt = some (listOf (xs ++ ys).toArray n') → StrsAre ys ((t.told ++ [(k, t)]).map fun p => txt (p.2.row p.1)) → 0 < tk' →
    R (.ok (.ret (.ref a))) { s with heap := h', toks := tk' }) →
  codeAny (model PR w) A (.call (.ref 105) ⟨[.str (txt (t.row k)) tk, .ref mt], []⟩) R s

theorem escL_ne {k : Nat} {x : List Nat} (h : x ≠ []) : escL k x ≠ [] := by
  cases x with
  | nil => exact absurd rfl h
  | cons c r =>
    rw [escL, List.flatMap_cons]
    rcases esc_cases k c with ⟨e, _⟩ | ⟨n, _, e⟩ <;> rw [e] <;> simp
theorem txt_ne {l : List Nat} : (txt l != Str.ofString "") = !decide (l = []) := by
  rw [show Str.ofString "" = txt [] from by decide +kernel]
  by_cases h : l = []
  · subst h; simp
  · have : txt l ≠ txt [] := fun e => h (by have := congrArg lst e; simpa using this)
    simp [h, this]
inductive InvRead (t : Its) (s : Shared) (k : Nat) (mt : Nat) (xs : List Value) (tk : Tok) (g : Heap) (L : Nat) (ls : List (Str × Tok)) (ps : Nat) (D : Nat) (PL : List (List Nat)) (I0 : Nat) (i : Nat) (s₁ : Shared) : Prop
  | mk (q : Its) (vs : List Value) (n1 : Nat) (done : List (Nat × Its)) (ys : List Value) (n2 : Nat) (h : Heap) (tk6 : Nat) (m : Str → Option Value) (f1 : s₁ = { s with heap := h, toks := tk6 }) (f2 : 0 < tk6) (f3 : Fr g L h m) (f4 : (m (Str.ofString "row") = some (.str (txt (t.row k)) tk) ∧ m (Str.ofString "met") = some (.ref mt) ∧ m (Str.ofString "parts") = some (.ref ps) ∧ m (Str.ofString "items") = some (.ref D))) (f5 : h.get? ps = some (listOf (strValues ls).toArray 0)) (f6 : h.get? D = some (listOf vs.toArray n1)) (f7 : h.get? mt = some (listOf (xs ++ ys).toArray n2)) (f8 : PlAt (lkP (fun b => L < b ∧ b ≠ D ∧ b ≠ I0) h) q vs) (f9 : StrsAre ys (done.map fun p => txt (p.2.row p.1))) (f10 : vs.length ≤ i) (f11 : ((i % 2 = 0 ∧ (vs = [] ∨ ∃ vs0 a, vs = vs0 ++ [Value.ref a]) ∧ ∃ x cs, PL.drop i = escL k x :: flatK k cs ∧ foldK (addT q x) cs = t.mrg .nil ∧ done ++ toldK cs = t.told ∧ KidsOk t cs ∧ x.length ≤ 50) ∨ (i % 2 = 1 ∧ ∃ cs, PL.drop i = flatK k cs ∧ foldK q cs = t.mrg .nil ∧ done ++ toldK cs = t.told ∧ KidsOk t cs))) : InvRead t s k mt xs tk g L ls ps D PL I0 i s₁
theorem read_step (w : World) (t : Its) (ih : ∀ d : Its, d.count < t.count → ReadC w d) : ReadC w t := by
  intro A s R k mt n xs tk G hroom hh hk3 hsm ht hT hxs h
  have X := G.K
  obtain ⟨mean, mg, mb, T⟩ := G.T
  have hg : ∀ b o, (hideAll s.heap [mt]).get? b = some o → s.heap.get? b = some o := fun b o e => of_hideAll _ e
  have hge : ∀ b o, b ≠ mt → s.heap.get? b = some o → (hideAll s.heap [mt]).get? b = some o := fun b o hb e => hideAll_get _ e (by simpa using hb)
  have htg : (hideAll s.heap [mt]).get? mt = none := hideAll_none _ (by simp)
  refine' enterF (binds := [(Str.ofString "row", .str (txt (t.row k)) tk), (Str.ofString "met", .ref mt)]) G hg (Nat.le_of_eq (hideAll_size _ _)) ?ho ?hcd (Nat.lt_of_succ_lt (Nat.lt_of_succ_lt (roomA hroom))) ?hb ?hl ?hbody ?h1 ?h2 ?h3 ?h4
  case ho => rfl
  case hcd => rfl
  case hb => exact BindsTo.of_eq rfl
  case hl => exact locs rfl
  case h1 => decide
  case h2 => rfl
  case h3 => rfl
  case h4 => rfl
  generalize hgg : hideAll s.heap [mt] = g at *
  intro L h₁ hL F hk
  have hlt : mt < L := by rw [hL]; exact Heap.lt_size hT
  have N := news_cons (hk _ _ hT) (Nat.ne_of_lt hlt) htg (news_led F [mt])
  have hl1 : L < h₁.objs.size := F.ns.lt
  have hrl := Its.small_row hsm k
  walk_at "go"
  refine wpAny_with_toks (n := 1) (Nat.succ_pos _) (splitN1 F N (by decide +kernel) (fun ls h₂ k₂ hls F₂ N₂ hk₂ => ?_) (by rw [len_txt, sizeLine]; omega))
  rw [of34, txt_split, Its.row_split] at hls
  dsimp only at F₂ N₂ hk₂ ⊢
  clear F N
  have hl2 : h₁.objs.size < h₂.objs.size := Heap.lt_size (N₂ _ (List.mem_cons_self ..)).1
  generalize hps : h₁.objs.size = ps at N₂ hl1 hl2 ⊢
  refine stN F₂ N₂ ?_
  clear F₂ N₂
  intro h₃ F₃ N₃
  dsimp only
  walk_at "go"
  refine newList_N F₃ N₃ ?_
  have hl3 : ps < h₃.objs.size := Heap.lt_size (N₃ _ (List.mem_cons_self ..)).1
  intro h₄ F₄ N₄
  dsimp only at F₄ N₄ ⊢
  clear F₃ N₃
  have hl4 : h₃.objs.size < h₄.objs.size := Heap.lt_size (N₄ _ (List.mem_cons_self ..)).1
  generalize hD : h₃.objs.size = D at N₄ hl3 hl4 ⊢
  refine stN F₄ N₄ ?_
  clear F₄ N₄
  intro h₅ F₅ N₅
  dsimp only
  walk_at "go"
  refine forRange hh (fun _ => rfl) (fun _ _ => rfl) ?_
  walk_at "go"
  have hlsl : ls.length = 1 + 2 * t.kids.length := by
    have := congrArg List.length hls
    simp only [List.length_map, List.length_cons, flatK_len] at this
    omega
  have hkl := t.kids_len
  have hcl := hsm.2.1
  have hsz : (strValues ls).toArray.size = ls.length := by simp [strValues]
  refine PyProof.Rows.len_list ⟨_, (N₅ _ (List.mem_cons_of_mem _ (List.mem_cons_self ..))).1, rfl, _, rfl⟩ (by rw [hsz]; omega) ?_
  rw [hsz]
  walk1
  refine call_range_1 ?_
  dsimp only
  have F₆ := F₅.push { cls := .type "range", data := .fields #[.int 0 (k₂ + 1 + 1 + 1 + 1), .int ls.length (k₂ + 1 + 1 + 1), .int 1 (k₂ + 1 + 1 + 1 + 1 + 1)] }
  have N₆ : News g L _ _ := fun p hp => ⟨Heap.get?_push_of_some { cls := .type "range", data := .fields #[.int 0 (k₂ + 1 + 1 + 1 + 1), .int ls.length (k₂ + 1 + 1 + 1), .int 1 (k₂ + 1 + 1 + 1 + 1 + 1)] } (N₅ p hp).1, (N₅ p hp).2⟩
  have hR := IsRange.new h₅ 0 ls.length 1 (k₂ + 1 + 1 + 1 + 1) (k₂ + 1 + 1 + 1) (k₂ + 1 + 1 + 1 + 1 + 1)
  have hl5 : D < h₅.objs.size := Heap.lt_size (N₅ _ (List.mem_cons_self ..)).1
  have hl6 : (h₅.objs.size : Nat) < _ := Heap.lt_size hR
  generalize h₅.push { cls := .type "range", data := .fields #[.int 0 (k₂ + 1 + 1 + 1 + 1), .int ls.length (k₂ + 1 + 1 + 1), .int 1 (k₂ + 1 + 1 + 1 + 1 + 1)] } = h₆ at F₆ N₆ hR hl6 ⊢
  clear F₅ N₅
  generalize hrr : h₅.objs.size = rr at hR hl5 hl6 ⊢
  have hLD : L < D := by (exact (Nat.lt_trans hl1 hl3))
  generalize hpp : escL k t.own0 :: flatK k t.kids = PL at hls
  refine ⟨rr, ls.length, _, _, _, (InvRead t s k mt xs tk g L ls ps D PL h₆.objs.size), rfl, hR, by omega, ?stab, ?start, ?turn, ?done⟩
  case stab =>
    rintro i s₂ h' tk6' ⟨q, vs, n1, done, ys, n2, h7, tk7, m, rfl, e2, e3, e4, e5, e6, e7, e8, e9, e10, e11⟩ htk hk'
    refine ⟨q, vs, n1, done, ys, n2, h', tk6', m, rfl, Nat.lt_of_lt_of_le e2 htk, ?_, e4, hk' _ _ (by (exact Nat.ne_of_lt ((Nat.lt_trans hl3 (Nat.lt_trans hl5 hl6))))) e5, hk' _ _ (by (exact Nat.ne_of_lt ((Nat.lt_trans hl5 hl6)))) e6, hk' _ _ (by (exact Nat.ne_of_lt ((Nat.lt_trans hlt (Nat.lt_trans hLD (Nat.lt_trans hl5 hl6)))))) e7, ?_, e9, e10, e11⟩
    · refine Fr_kept (M := [h₆.objs.size]) e3 (by simp; (exact Nat.ne_of_lt ((Nat.lt_trans hLD (Nat.lt_trans hl5 hl6))))) ?_ ?_
      · intro b hb; rw [List.mem_singleton.mp hb]; exact none_above e3.above (by (exact (Nat.lt_trans hLD (Nat.lt_trans hl5 hl6))))
      · intro b o hb e; exact hk' b o (by simpa using hb) e
    · exact e8.mono (lkP_mono fun b o hb e => ⟨hb, hk' b o hb.2.2 e⟩)
  case start =>
    refine ⟨.nil, [], 0, [], [], n, h₆, _, _, rfl, by (with_reducible exact Nat.succ_pos _), F₆, ⟨rfl, rfl, rfl, rfl⟩, ?_, ?_, ?_, rfl, .nil, Nat.le_refl _, .inl ⟨rfl, .inl rfl, t.own0, t.kids, hpp.symm, (Its.mrg_fold t .nil hsm.1).symm, by rw [Its.told_kids]; rfl, Its.kids_ok t hsm, ?_⟩⟩
    · exact (N₆ _ (List.mem_cons_of_mem _ (List.mem_cons_self ..))).1
    · exact (N₆ _ (List.mem_cons_self ..)).1
    · rw [List.append_nil]; exact (N₆ _ (List.mem_cons_of_mem _ (List.mem_cons_of_mem _ (List.mem_cons_self ..)))).1
    · have := t.own0_len hsm.1; omega
  case done =>
    rintro s₂ ⟨q, vs, n1, done, ys, n2, h7, tk7, m, rfl, e2, e3, ⟨e41, e42, e43, e44⟩, e5, e6, e7, e8, e9, e10, e11⟩
    have hPL : PL.length = ls.length := by simpa using (congrArg List.length hls).symm
    rw [← hPL, List.drop_length] at e11
    obtain ⟨cs, hd, hfo, hto, _⟩ : ∃ cs, [] = flatK k cs ∧ foldK q cs = t.mrg .nil ∧ done ++ toldK cs = t.told ∧ KidsOk t cs := by
      rcases e11 with ⟨_, _, x, cs, hd, _⟩ | ⟨_, h⟩
      · cases hd
      · exact h
    have hcs : cs = [] := by
      cases cs with
      | nil => rfl
      | cons p cs => cases hd
    subst hcs
    have hfo' : q = t.mrg .nil := hfo
    have hto' : done = t.told := by rw [← hto]; simp [toldK]
    subst hfo' hto'
    clear F₆ N₆
    have F := Fr_pin (x := Str.ofString "items") (Fr_pin (x := Str.ofString "met") (Fr_pin e3 e41) e42) e44
    have N := news_cons e7 (Nat.ne_of_lt hlt) htg (news_cons e6 (Nat.ne_of_gt hLD) (none_above F.above hLD) (news_led F [D]))
    walk_at "go"
    refine append_K F N (Upd.head ?_) ?_ (hsz := ?hz)
    case hz =>
      have h1 := e9.length
      rw [List.length_map] at h1
      simp only [List.size_toArray, List.length_append, sizeLine]; omega
    · intro p hp
      rcases List.mem_cons.mp hp with rfl | hp
      · show D ≠ mt; (exact Nat.ne_of_gt ((Nat.lt_trans hlt hLD)))
      · obtain ⟨pa, po⟩ := p
        have := (mem_led.mp hp).1
        show pa ≠ mt
        exact Nat.ne_of_gt (Nat.lt_trans hlt this)
    intro h8 F8 N8
    dsimp only
    walk_at "go"
    have k8 : ∀ (b : Nat) (o : Obj), b ≠ D → L < b → h7.get? b = some o → h8.get? b = some o := fun b o hb hp e =>
      kept_up (M := [D]) N8 (fun p hp => List.mem_cons_of_mem _ (List.mem_cons_of_mem _ hp)) (by simpa using hb) hp e
    refine h D h8 tk7 vs n1 (ys ++ [.str (txt (t.row k)) tk]) (n2 + 1) (fun b o hb e => F8.keep _ _ (hge b o hb e)) (by (exact Nat.le_of_lt (Nat.lt_of_le_of_lt (Nat.le_of_eq (Eq.symm hL)) hLD))) (N8 _ (List.mem_cons_of_mem _ (List.mem_cons_self ..))).1 ?_ ?_ ?_ e2
    · exact e8.mono (lkP_mono fun b o hb e => ⟨by have := hb.1; rw [hL] at this; exact Nat.le_of_lt this, k8 b o hb.2.1 hb.1 e⟩)
    · have := (N8 _ (List.mem_cons_self ..)).1
      simpa using this
    · rw [List.map_append]
      exact strsAre_append e9 (.cons _ _ .nil)
  case turn =>
    rintro i tki s₂ hi ⟨q, vs, n1, done, ys, n2, h7, tk7, m, rfl, e2, e3, ⟨e41, e42, e43, e44⟩, e5, e6, e7, e8, e9, e10, e11⟩ hit
    clear F₆ N₆
    have F := Fr_pin (x := Str.ofString "items") (Fr_pin (x := Str.ofString "parts") (Fr_pin (x := Str.ofString "met") (Fr_pin e3 e41) e42) e43) e44
    have N := news_cons e7 (Nat.ne_of_lt hlt) htg (news_cons e6 (Nat.ne_of_gt hLD) (none_above F.above hLD) (news_led F [D]))
    refine wpAny_assign_Name ?_
    refine stN F N ?_
    intro h8 F8 N8
    have hps8 : h8.get? ps = some (listOf (strValues ls).toArray 0) := (N8 (ps, listOf (strValues ls).toArray 0) (List.mem_cons_of_mem _ (List.mem_cons_of_mem _ (mem_led.mpr ⟨hl1, fun q => absurd (List.mem_singleton.mp q) (Nat.ne_of_lt hl3), e5⟩)))).1
    dsimp only at hit ⊢
    have k8 : ∀ (b : Nat) (o : Obj), b ≠ D → L < b → h7.get? b = some o → h8.get? b = some o := fun b o hb hp e =>
      kept_up (M := [D]) N8 (fun p hp => List.mem_cons_of_mem _ (List.mem_cons_of_mem _ hp)) (by simpa using hb) hp e
    have hI0 : h₆.objs.size < h8.objs.size := Heap.lt_size (k8 _ _ (by (exact Nat.ne_of_gt ((Nat.lt_trans hl5 hl6)))) (by (exact (Nat.lt_trans hLD (Nat.lt_trans hl5 hl6)))) hit)
    have item : ∀ p ps', PL.drop i = p :: ps' → ∃ tkp, (strValues ls)[i]? = some (.str (txt p) tkp) := by
      intro p ps' hp
      have h1 : PL[i]? = some p := by
        have := congrArg (·[0]?) hp
        simpa using this
      have h2 : (ls.map (·.1))[i]? = some (txt p) := by rw [hls, List.getElem?_map, h1]; rfl
      rw [List.getElem?_map] at h2
      cases hl : ls[i]? with
      | none => rw [hl] at h2; cases h2
      | some y =>
        rw [hl] at h2
        simp at h2
        exact ⟨y.2, by rw [strValues, List.getElem?_map, hl, ← h2]; rfl⟩
    have hfm : (i : Int).fmod 2 = ((i % 2 : Nat) : Int) := by rw [Int.fmod_eq_emod_of_nonneg _ (by decide)]; omega
    have hdrop : PL.drop (i + 1) = (PL.drop i).tail := by rw [List.tail_drop]
    rcases e11 with ⟨hpar, hend, x, cs, hd, hfo, hto, hko, hxl⟩ | ⟨hpar, cs, hd, hfo, hto, hko⟩
    · obtain ⟨tkp, hit1⟩ := item _ _ hd
      walk_at "go"
      · rename (_ = (1 : Int)) => hc
        rw [hfm, hpar] at hc; cases hc
      refine item_listL (l := strValues ls) ⟨_, hps8, rfl, _, rfl⟩ (by (exact Int.natCast_nonneg _)) (by omega) (by simpa using hit1) ?_
      walk_at "go"
      · rename ((_ != _) = true) => hc
        have hx0 : x ≠ [] := by
          intro e; subst e
          rw [txt_ne] at hc; simp [escL] at hc
        refine item_listL (l := strValues ls) ⟨_, hps8, rfl, _, rfl⟩ (by (exact Int.natCast_nonneg _)) (by omega) (by simpa using hit1) ?_
        walk_at "go"
        refine wpAny_call (signs_code (k := k) (l := x) (G.keeps F8.keep) (by show A.depth + 1 < _; exact Nat.lt_of_succ_lt (roomA hroom)) hh hk3 (by (exact Nat.le_of_lt (Nat.lt_of_le_of_lt hxl (by decide)))) (by dsimp only; (with_reducible exact Nat.succ_pos _)) ?_)
        intro t9 h9 tk9 hk9 ht9
        dsimp only at hk9 ⊢
        have F9 := Fr_kept (M := []) F8 (by simp) (by simp) (fun b o _ e => hk9 b o e)
        have N9 := news_cons (hk9 _ _ (N8 _ (List.mem_cons_of_mem _ (List.mem_cons_self ..))).1) (Nat.ne_of_gt hLD) (none_above F9.above hLD) (news_led F9 [D])
        have hm9 := hk9 _ _ (N8 _ (List.mem_cons_self ..)).1
        have N9 := news_cons hm9 (Nat.ne_of_lt hlt) htg N9
        clear F8 N8
        walk_at "go"
        refine append_K F9 N9 (Upd.tail (by show mt ≠ D; (exact Nat.ne_of_lt ((Nat.lt_trans hlt hLD)))) (Upd.head (led_ne (by simp)))) ?_ (hsz := by simp only [List.size_toArray, sizeLine]; omega)
        intro h10 F10 N10
        dsimp only
        walk_at "go"
        have k10 : ∀ (b : Nat) (o : Obj), b ≠ D → L < b → h9.get? b = some o → h10.get? b = some o := fun b o hb hp e =>
          kept_up (M := [D]) N10 (fun p hp => List.mem_cons_of_mem _ (List.mem_cons_of_mem _ hp)) (by simpa using hb) hp e
        have kA : ∀ (b : Nat) (o : Obj), b ≠ D → L < b → h7.get? b = some o → h10.get? b = some o := fun b o hb hp e => k10 b o hb hp (hk9 b o (k8 b o hb hp e))
        refine ⟨kA _ _ (by (exact Nat.ne_of_gt ((Nat.lt_trans hl5 hl6)))) (by (exact (Nat.lt_trans hLD (Nat.lt_trans hl5 hl6)))) hit, addT q x, vs ++ [.str (txt x) t9], n1 + 1, done, ys, n2, h10, _, _, rfl, by first | (with_reducible assumption) | (dsimp only; omega), F10, ⟨rfl, rfl, rfl, rfl⟩, kA _ _ (by (exact Nat.ne_of_lt (hl3))) (by (with_reducible assumption)) e5, ?_, (N10 _ (List.mem_cons_self ..)).1, ?_, e9, ?_, .inr ⟨by omega, cs, by rw [hdrop, hd]; rfl, hfo, hto, hko⟩⟩
        · have := (N10 _ (List.mem_cons_of_mem _ (List.mem_cons_self ..))).1
          simpa using this
        · have e8' := e8.mono (lkP_mono (P' := fun b => L < b ∧ b ≠ D ∧ b ≠ h₆.objs.size) (h' := h10) fun b o hb e => ⟨hb, kA b o hb.2.1 hb.1 e⟩)
          rw [addT, if_neg hx0]
          rcases PlAt.snocS (x := txt x) e8' with ⟨vs0, y, tky, hvs, _⟩ | ⟨_, hf⟩
          · exfalso
            rcases hend with rfl | ⟨vs1, a1, rfl⟩
            · cases vs0 <;> cases hvs
            · have := congrArg List.getLast? hvs
              simp at this
          · exact hf t9
        · simp only [List.length_append, List.length_cons, List.length_nil]; (exact Nat.succ_le_succ e10)
      · rename ((_ != _) = false) => hc
        have hx0 : x = [] := by
          rw [txt_ne] at hc
          by_cases e : x = []
          · exact e
          · have := escL_ne (k := k) e
            simp [this] at hc
        subst hx0
        have kA := k8
        refine ⟨kA _ _ (by (exact Nat.ne_of_gt ((Nat.lt_trans hl5 hl6)))) (by (exact (Nat.lt_trans hLD (Nat.lt_trans hl5 hl6)))) hit, q, vs, n1, done, ys, n2, h8, _, _, rfl, by first | (with_reducible exact Nat.succ_pos _) | (dsimp only; omega), F8, ⟨rfl, rfl, rfl, rfl⟩, hps8, (N8 _ (List.mem_cons_of_mem _ (List.mem_cons_self ..))).1, (N8 _ (List.mem_cons_self ..)).1, e8.mono (lkP_mono fun b o hb e => ⟨hb, kA b o hb.2.1 hb.1 e⟩), e9, by (exact Nat.le_add_right_of_le e10), .inr ⟨by omega, cs, by rw [hdrop, hd]; rfl, hfo, hto, hko⟩⟩
    · cases cs with
      | nil =>
        have := congrArg List.length hd
        have h2 : PL.length = ls.length := by simpa using (congrArg List.length hls).symm
        simp [flatK] at this
        omega
      | cons p cs =>
      obtain ⟨⟨j, d⟩, x⟩ := p
      obtain ⟨tkp, hit1⟩ := item (escL k (d.row j)) (escL k x :: flatK k cs) hd
      walk_at "go"
      rotate_left
      · rename (_ ≠ (1 : Int)) => hc
        rw [hfm, hpar] at hc; exact absurd rfl hc
      refine item_listL (l := strValues ls) ⟨_, hps8, rfl, _, rfl⟩ (by (exact Int.natCast_nonneg _)) (by omega) (by simpa using hit1) ?_
      walk_at "go"
      obtain ⟨hj3, hsd, hdc, hdd, hxl, hxa⟩ := hko _ (List.mem_cons_self ..)
      dsimp only at hj3 hsd hdc hdd hxl hxa
      have hdl := Its.small_row hsd j
      refine wpAny_call (signs_code (k := k) (l := d.row j) (G.keeps F8.keep) (by show A.depth + 1 < _; exact Nat.lt_of_succ_lt (roomA hroom)) hh hk3 (by (exact Nat.le_of_lt (Nat.lt_of_le_of_lt hdl (by decide)))) (by dsimp only; (with_reducible exact Nat.succ_pos _)) ?_)
      intro t9 h9 tk9 hk9 ht9
      dsimp only at hk9 ⊢
      have F9 := Fr_kept (M := []) F8 (by simp) (by simp) (fun b o _ e => hk9 b o e)
      have N9 := News_kept (M := []) N8 (by simp) (fun b o _ e => hk9 b o e)
      have hl9 : h₆.objs.size < h9.objs.size := Heap.lt_size (hk9 _ _ (k8 _ _ (by (exact Nat.ne_of_gt ((Nat.lt_trans hl5 hl6)))) (by (exact (Nat.lt_trans hLD (Nat.lt_trans hl5 hl6)))) hit))
      clear F8 N8
      walk_at "go"
      refine wpAny_call (ih d hdc (k := j) (mt := mt) (xs := xs ++ ys) (n := n2) ?_ ?_ hh hj3 hsd (by dsimp only; (with_reducible assumption)) (N9 _ (List.mem_cons_self ..)).1 ?_ ?_)
      · refine G.keeps fun b o e => hideAll_get _ (F9.keep b o e) ?_
        intro q
        rw [List.mem_singleton.mp q, htg] at e
        cases e
      · show A.depth + 1 + 4 * (d.depth + 1) < _
        exact roomS hroom hdd
      · have h1 := e9.length
        rw [List.length_map] at h1
        have h5 : done.length + d.told.length ≤ t.told.length := by
          rw [← hto, List.length_append, toldK, List.flatMap_cons, List.length_append, List.length_append]; dsimp only; omega
        rw [List.length_append]
        omega
      intro a10 h10 tk10 vs10 m10 ys10 n10 hk10 ha10 ho10 hp10 hm10 hs10 ht10
      dsimp only at hk10 ha10 hp10 ⊢
      have F10 := Fr_kept (M := [mt]) F9 (by simp; (exact Nat.ne_of_gt (hlt))) (by simpa using htg) (fun b o hb e => hk10 b o (by simpa using hb) e)
      have hD10 := hk10 _ _ (by omega) (N9 _ (List.mem_cons_of_mem _ (List.mem_cons_self ..))).1
      have N10 := news_cons hm10 (Nat.ne_of_lt hlt) htg (news_cons hD10 (Nat.ne_of_gt hLD) (none_above F10.above hLD) (news_led F10 [D]))
      clear F9 N9
      walk_at "go"
      refine append_K F10 N10 (Upd.tail (by show mt ≠ D; (exact Nat.ne_of_lt ((Nat.lt_trans hlt hLD)))) (Upd.head (led_ne (by simp)))) ?_ (hsz := by simp only [List.size_toArray, sizeLine]; omega)
      intro h11 F11 N11
      dsimp only
      walk_at "go"
      have k11 : ∀ (b : Nat) (o : Obj), b ≠ D → L < b → h10.get? b = some o → h11.get? b = some o := fun b o hb hp e =>
        kept_up (M := [D]) N11 (fun p hp => List.mem_cons_of_mem _ (List.mem_cons_of_mem _ hp)) (by simpa using hb) hp e
      have kA : ∀ (b : Nat) (o : Obj), b ≠ D → L < b → h7.get? b = some o → h11.get? b = some o := fun b o hb hp e => k11 b o hb hp (hk10 b o (by (exact Nat.ne_of_gt ((Nat.lt_trans hlt hp)))) (hk9 b o (k8 b o hb hp e)))
      have hLs : L < h9.objs.size := by (exact (Nat.lt_trans hLD (Nat.lt_trans hl5 (Nat.lt_trans hl6 hl9))))
      have hDs : D < h9.objs.size := by (exact (Nat.lt_trans hl5 (Nat.lt_trans hl6 hl9)))
      refine ⟨kA _ _ (by (exact Nat.ne_of_gt ((Nat.lt_trans hl5 hl6)))) (by (exact (Nat.lt_trans hLD (Nat.lt_trans hl5 hl6)))) hit, q.snocN (d.mrg .nil), vs ++ [.ref a10], n1 + 1, done ++ (d.told ++ [(j, d)]), ys ++ ys10, n10, h11, _, _, rfl, by first | (with_reducible assumption) | (dsimp only; omega), F11, ⟨rfl, rfl, rfl, rfl⟩, kA _ _ (by (exact Nat.ne_of_lt (hl3))) (by (with_reducible assumption)) e5, ?_, ?_, ?_, ?_, ?_, .inl ⟨by omega, .inr ⟨vs, a10, rfl⟩, x, cs, by rw [hdrop, hd]; rfl, ?_, ?_, fun p hp => hko p (List.mem_cons_of_mem _ hp), hxl⟩⟩
      · have := (N11 _ (List.mem_cons_of_mem _ (List.mem_cons_self ..))).1
        simpa using this
      · have := (N11 _ (List.mem_cons_self ..)).1
        rw [← List.append_assoc]; exact this
      · refine PlAt.snocN (ws := vs10) (n := m10) (lkP_some.mpr ⟨⟨Nat.lt_of_lt_of_le hLs ha10, Nat.ne_of_gt (Nat.lt_of_lt_of_le hDs ha10), Nat.ne_of_gt (Nat.lt_of_lt_of_le hl9 ha10)⟩, k11 _ _ (Nat.ne_of_gt (Nat.lt_of_lt_of_le hDs ha10)) (Nat.lt_of_lt_of_le hLs ha10) ho10⟩) ?_ ?_
        · exact hp10.mono (lkP_mono fun b o hb e => ⟨⟨Nat.lt_of_lt_of_le hLs hb, Nat.ne_of_gt (Nat.lt_of_lt_of_le hDs hb), Nat.ne_of_gt (Nat.lt_of_lt_of_le hl9 hb)⟩, k11 _ _ (Nat.ne_of_gt (Nat.lt_of_lt_of_le hDs hb)) (Nat.lt_of_lt_of_le hLs hb) e⟩)
        · exact e8.mono (lkP_mono fun b o hb e => ⟨hb, kA b o hb.2.1 hb.1 e⟩)
      · rw [List.map_append]
        exact strsAre_append e9 hs10
      · simp only [List.length_append, List.length_cons, List.length_nil]; (exact Nat.succ_le_succ e10)
      · rw [← hfo]; rfl
      · rw [← hto]; simp [toldK]
theorem read_code (w : World) : ∀ t : Its, ReadC w t := by
  have all : ∀ n, ∀ t : Its, t.count < n → ReadC w t := by
    intro n
    induction n with
    | zero => intro t h; omega
    | succ n ih => exact fun t h => read_step w t fun d hd => ih d (by (exact (Nat.lt_of_lt_of_le hd (Nat.le_of_lt_succ h))))
  exact fun t => all _ t (Nat.lt_succ_self _)
end Mine

end T_W7
section T_Pl6
set_option autoImplicit false
set_option linter.all false
open PySem PySem.W PyProof.Rows
namespace Mine
open Builtin Builtin.Str
/-- the node's own bare brackets -/
def Its.brs : Its → List Nat
  | .nil => []
  | .str x r => (if lst x = [40] ∨ lst x = [41] then lst x else []) ++ r.brs
  | .sub _ _ r => r.brs
/-- do they cancel out -/
def bal : List Nat → Nat → Bool
  | [], n => n == 0
  | c :: r, n => if c = 40 then bal r (n + 1) else if c = 41 then (match n with | 0 => false | m + 1 => bal r m) else bal r n
theorem bal_pair : ∀ (a b : List Nat) (n : Nat), bal (a ++ 40 :: 41 :: b) n = bal (a ++ b) n
  | [], b, n => by simp [bal]
  | c :: a, b, n => by
    simp only [List.cons_append, bal, bal_pair a b]
def noPair : List Nat → Prop
  | [] => True
  | c :: r => ¬ (c = 40 ∧ r.head? = some 41) ∧ noPair r
theorem noPair_of : ∀ l : List Nat, (∀ a b, l ≠ a ++ 40 :: 41 :: b) → noPair l
  | [], _ => trivial
  | c :: r, h => by
    refine ⟨?_, noPair_of r fun a b e => h (c :: a) b (by rw [e]; rfl)⟩
    rintro ⟨rfl, hr⟩
    cases r with
    | nil => cases hr
    | cons d r => simp at hr; subst hr; exact h [] r rfl
theorem bal_open : ∀ (l : List Nat) (n : Nat), (∀ c ∈ l, c = 40 ∨ c = 41) → noPair (40 :: l) → bal l (n + 1) = false
  | [], n, _, _ => by simp [bal]
  | c :: r, n, hc, hn => by
    have h40 : c = 40 := by
      rcases hc c (List.mem_cons_self ..) with h | h
      · exact h
      · exact absurd ⟨rfl, by rw [h]; rfl⟩ hn.1
    subst h40
    rw [bal, if_pos rfl]
    exact bal_open r (n + 1) (fun c h => hc c (List.mem_cons_of_mem _ h)) hn.2
theorem bal_end (l : List Nat) (hc : ∀ c ∈ l, c = 40 ∨ c = 41) (hn : noPair l) : bal l 0 = decide (l = []) := by
  cases l with
  | nil => rfl
  | cons c r =>
    rcases hc c (List.mem_cons_self ..) with rfl | rfl
    · rw [bal, if_pos rfl, bal_open r 0 (fun c h => hc c (List.mem_cons_of_mem _ h)) hn]; simp
    · simp [bal]
theorem join_empty : ∀ ps : List (List Nat), joinL [] ps = ps.flatten
  | [] => rfl
  | [x] => by simp [joinL]
  | x :: y :: r => by rw [joinL_cons _ _ (by simp), join_empty (y :: r)]; simp
theorem bal_join : ∀ (ps : List (List Nat)) (a : List Nat) (n : Nat), bal (a ++ joinL [40, 41] ps) n = bal (a ++ joinL [] ps) n
  | [], _, _ => rfl
  | [x], _, _ => rfl
  | x :: y :: r, a, n => by
    rw [joinL_cons [40, 41] x (by simp), joinL_cons [] x (by simp)]
    have h1 : a ++ (x ++ [40, 41] ++ joinL [40, 41] (y :: r)) = (a ++ x) ++ 40 :: 41 :: joinL [40, 41] (y :: r) := by simp
    rw [h1, bal_pair, bal_join (y :: r) (a ++ x) n]
    simp
theorem joinL_len : ∀ (ps : List (List Nat)), (joinL [40, 41] ps).length = (joinL [] ps).length + 2 * (ps.length - 1)
  | [] => rfl
  | [x] => rfl
  | x :: y :: r => by
    have ih := joinL_len (y :: r)
    rw [joinL_cons [40, 41] x (by simp), joinL_cons [] x (by simp)]
    simp only [List.length_append, List.length_cons, List.length_nil] at ih ⊢
    omega
theorem joinL_mem (P : Nat → Prop) : ∀ (ps : List (List Nat)), (∀ c ∈ joinL [40, 41] ps, P c) → ∀ c ∈ joinL [] ps, P c
  | [], h => h
  | [x], h => h
  | x :: y :: r, h => by
    rw [joinL_cons [40, 41] x (by simp)] at h
    rw [joinL_cons [] x (by simp)]
    intro c hc
    simp only [List.append_nil, List.mem_append] at hc
    rcases hc with hc | hc
    · exact h c (by simp [hc])
    · exact joinL_mem P (y :: r) (fun c hc => h c (by simp [hc])) c hc
theorem pars : Str.ofString "()" = ⟨#[40, 41]⟩ := by decide +kernel
/-- the two brackets are there -/
theorem found_pair (x : Str) : (occurrences x ⟨#[40, 41]⟩ 0 x.length 1).isEmpty = false ↔ ∃ a b, lst x = a ++ 40 :: 41 :: b := by
  have h := StrLaws.found_iff x ⟨#[40, 41]⟩
  rw [Bool.not_eq_true'] at h
  rw [h]
  constructor
  · rintro ⟨i, hi, hs⟩
    rw [StrLaws.subAt_eq] at hs
    have hs' : ((lst x).drop i).take 2 = [40, 41] := eq_of_beq hs
    refine ⟨(lst x).take i, ((lst x).drop i).drop 2, ?_⟩
    have h1 : (lst x).take i ++ (lst x).drop i = lst x := List.take_append_drop i (lst x)
    have h2 : ((lst x).drop i).take 2 ++ ((lst x).drop i).drop 2 = (lst x).drop i := List.take_append_drop 2 _
    rw [hs'] at h2
    calc lst x = (lst x).take i ++ (lst x).drop i := h1.symm
      _ = (lst x).take i ++ ([40, 41] ++ ((lst x).drop i).drop 2) := by rw [h2]
      _ = _ := by simp
  · rintro ⟨a, b, e⟩
    refine ⟨a.length, ?_, ?_⟩
    · show a.length + 2 ≤ (lst x).length
      rw [e]
      simp
    · rw [StrLaws.subAt_eq]
      show (((lst x).drop a.length).take 2 == [40, 41]) = true
      rw [e]
      simp
theorem rep_pair (x : Str) (h : (occurrences x ⟨#[40, 41]⟩ 0 x.length 1).isEmpty = false) :
    ∃ ps : List (List Nat), 2 ≤ ps.length ∧ lst x = joinL [40, 41] ps ∧ lst (Txt.replace x ⟨#[40, 41]⟩ ⟨#[]⟩) = joinL [] ps := by
  have hf := (StrLaws.found_iff x ⟨#[40, 41]⟩).mp (by rw [h]; rfl)
  obtain ⟨i, hi, hs⟩ := hf
  obtain ⟨f, hG, hn⟩ := StrLaws.occ_tight x ⟨#[40, 41]⟩ (by decide)
  obtain ⟨f', hC⟩ := StrLaws.occ_chain x ⟨#[40, 41]⟩ (x.length + 1)
  have hne : (occurrences x ⟨#[40, 41]⟩ 0 x.length (x.length + 1)).isEmpty = false := by
    cases hc : occurrences x ⟨#[40, 41]⟩ 0 x.length (x.length + 1) with
    | nil =>
      rw [hc] at hG
      have hf0 : f = 0 := hG
      exact absurd ⟨hi, hs⟩ (hn i (by omega))
    | cons c r => rfl
  refine ⟨(StrLaws.partsFrom x 2 0 (occurrences x ⟨#[40, 41]⟩ 0 x.length (x.length + 1))).map lst, ?_, ?_, ?_⟩
  · cases hc : occurrences x ⟨#[40, 41]⟩ 0 x.length (x.length + 1) with
    | nil => rw [hc] at hne; cases hne
    | cons c r =>
      rw [List.length_map, StrLaws.partsFrom, List.length_cons]
      obtain ⟨p, q, e⟩ := StrLaws.partsFrom_ne x 2 (c + 2) r
      rw [e, List.length_cons]; (with_reducible exact Nat.le_add_left _ _)
  · have h1 := StrLaws.join_partsFrom x ⟨#[40, 41]⟩ _ 0 f' hC
    rw [StrLaws.sub_whole] at h1
    have h2 := congrArg lst h1
    rw [lst_join] at h2
    exact h2.symm
  · unfold Txt.replace
    rw [hne]
    simp only [Bool.false_or]
    rw [if_neg (by decide), StrLaws.glued_eq_join, StrLaws.partsBetween_eq, lst_join]
    rfl
end Mine

end T_Pl6
section T_W8
set_option autoImplicit false
set_option linter.all false
open PySem PySem.W PyProof.Rows PySem.Calls
set_option Elab.async false
set_option maxRecDepth 100000
set_option maxHeartbeats 8000000
namespace Mine
theorem off_W8 : True := by w_top off; trivial
theorem fill8 (w : World) : Challenge.rw_nb0133_01.prog = Challenge.rw_nb0133_01.prog ∧ (hd.heap_39 w.params).length = (hd.heap_39 w.params).length := by
  k_fill
  exact ⟨rfl, rfl⟩

/-- [e for x in xs if ..] over a list of the heap's -/
theorem compList {w : World} {A : Around} {s : Shared} {Q : Value → Shared → Prop} {env : Env} {elt iter : Expr} {x : Str} {px : Pos} {ifs : List Expr} {scope : Scope} {pos : Pos} {E : Value → Shared → Prop} (p : Value → Bool) (F : Value → Value → Prop)
    (hh : A.handled = none)
    (hfree : ∀ y ∈ scope.names, y.2 ≠ .free) (hcell : ∀ y ∈ scope.names, y.2 ≠ .cell) (hkind : scope.kind = .function)
    (hnames : ∀ y ∈ scope.names, y.2 = .local → scope.names.lookup y.1 = some .local) (hx : scope.names.lookup x = some .local)
    (h : wpAny (model PR w) A (eval iter env) (fun xv s₁ => ∃ (l : Addr) (items : Array Value), xv = .ref l ∧ s₁.heap.IsList l items ∧ items.size ≤ sizeLine ∧
      (∀ C v s₃ m₃ E', v ∈ items.toList → s₃.heap.Ns C m₃ → m₃ x = some v → (∀ b o, s₁.heap.get? b = some o → s₃.heap.get? b = some o) →
        wpAny (model PR w) A (forIn ifs true fun c r => if r = true then do let ok ← isTrue c (compEnv scope C env) (eval c (compEnv scope C env)); pure (ForInStep.yield ok) else pure (ForInStep.yield r))
          (fun ok s₄ => ok = p v ∧ Keeps s₃ s₄) E' s₃) ∧
      (∀ C v s₃ m₃ E', v ∈ items.toList → p v = true → s₃.heap.Ns C m₃ → m₃ x = some v → (∀ b o, s₁.heap.get? b = some o → s₃.heap.get? b = some o) →
        wpAny (model PR w) A (eval elt (compEnv scope C env)) (fun y s₄ => F v y ∧ Keeps s₃ s₄) E' s₃) ∧
      (∀ D h' tk ys, s₁.heap.get? D = none → h'.IsList D ys → Paired F (items.toList.filter p) ys.toList → (∀ b o, s₁.heap.get? b = some o → h'.get? b = some o) → Q (.ref D) { s₁ with heap := h', toks := tk })) E s)
    (hs : ∀ x, foldedSetIterable iter env x = pure x) :
    wpAny (model PR w) A (eval (.ListComp elt [⟨.Name x px, iter, ifs, 0⟩] scope pos) env) Q E s := by
  refine wpAny_ListComp_walk p F hfree hcell hkind hnames hx (wpAny_mono h (fun xv s₁ h₁ => ?_) fun _ _ e => e) hs
  obtain ⟨l, items, rfl, hl, hsz, ht, he, hQ⟩ := h₁
  have hne : l ≠ s₁.heap.objs.size := by
    obtain ⟨ol, hol, _⟩ := id hl
    exact Nat.ne_of_lt (Heap.lt_size hol)
  refine wpAny_pyIter_list hl ?_
  have W := Walks.list (prog := PR) (w := w) hh s₁.heap.objs.size l hne items
  have hnew : ∀ b o, s₁.heap.get? b = some o → b ∉ [s₁.heap.objs.size] := fun b o e q => by
    rw [List.mem_singleton.mp q] at e
    exact absurd (Heap.lt_size e) (Nat.lt_irrefl _)
  refine ⟨_, _, _, _, _, _, rfl, W, hsz, ⟨⟨_, Heap.get?_push_size _ rfl, rfl, rfl⟩, hl.at fun o e => Heap.get?_push_of_some _ e⟩, ?_, ⟨?_, ?_⟩, ?_⟩
  · intro b hb
    rw [Heap.size_push]
    rcases List.mem_cons.mp hb with rfl | hb
    · exact Nat.lt_succ_self _
    · rw [List.mem_singleton.mp hb]
      obtain ⟨ol, hol, _⟩ := id hl
      exact Nat.lt_succ_of_lt (Heap.lt_size hol)
  · intro C i v s₃ m₃ E' hv hn hm hk htk
    exact ht C v s₃ m₃ E' (by rw [Array.mem_toList_iff]; exact Array.mem_of_getElem? hv) hn hm fun b o e => hk b o (hnew b o e) (Heap.get?_push_of_some _ e)
  · intro C i v s₃ m₃ E' hv hp hn hm hk htk
    exact he C v s₃ m₃ E' (by rw [Array.mem_toList_iff]; exact Array.mem_of_getElem? hv) hp hn hm fun b o e => hk b o (hnew b o e) (Heap.get?_push_of_some _ e)
  · intro D h' tk ys vs hD hlD _ hlen hP hF hk
    have hvs : vs = items.toList := by
      apply List.ext_getElem?
      intro j
      by_cases hj : j < vs.length
      · have := hP j vs[j] (by simp [hj])
        have h2 : items.toList[j]? = some vs[j] := by rw [Array.getElem?_toList]; exact this
        rw [h2]; simp [hj]
      · rw [List.getElem?_eq_none (by (exact (Nat.le_of_not_lt hj))), List.getElem?_eq_none (by rw [Array.length_toList]; (exact (Nat.le_trans (Nat.le_of_eq (Eq.symm hlen)) (Nat.le_of_not_lt hj))))]
    subst hvs
    refine hQ D h' tk ys ?_ hlD hF fun b o e => hk b o (hnew b o e) (Heap.get?_push_of_some _ e)
    cases e : s₁.heap.get? D with
    | none => rfl
    | some o => rw [Heap.get?_push_of_some _ e] at hD; cases hD
theorem paired_eq {l₁ l₂ : List Value} (h : Paired (fun a b => b = a) l₁ l₂) : l₂ = l₁ := by
  induction h with
  | nil => rfl
  | cons e _ ih => rw [e, ih]

/-- the whole list of a node's reads as data -/
def Its.pyi : Its → List PyData
  | .nil => []
  | .str x r => .str x :: r.pyi
  | .sub k d r => .list (.int k :: d.pyi) :: r.pyi
theorem ItemsAt.reads {lk : Addr → Option Obj} {h : Heap} (hk : ∀ a o, lk a = some o → h.get? a = some o) : ∀ {q : Its} {vs : List Value}, ItemsAt lk q vs → ∃ as, ReadsAll h vs q.pyi as
  | .nil, _, e => by rw [e]; exact ⟨[], .nil⟩
  | .str x r, _, ⟨tk, vs', e, hr⟩ => by
    rw [e]
    obtain ⟨as, ha⟩ := hr.reads hk
    exact ⟨_, .cons (.str x tk) ha⟩
  | .sub k d r, _, ⟨a, tk, ws, n, vs', e, o, hd, hr⟩ => by
    rw [e]
    obtain ⟨as, ha⟩ := hr.reads hk
    obtain ⟨bs, hb⟩ := hd.reads hk
    exact ⟨_, .cons (.list (hk _ _ o) rfl rfl (.cons (.int k tk) hb)) ha⟩
theorem Its.pyi_can : ∀ {q : Its}, q.asc → PyData.canLayAll0 q.pyi = true
  | .nil, _ => by simp [Its.pyi, PyData.canLayAll0]
  | .str x r, h => by
    have h1 : PyData.strOk x = true := by
      unfold PyData.strOk
      rw [Array.all_eq_true_iff_forall_mem]
      intro c hc
      have := h.1 c (by simpa using hc)
      exact decide_eq_true (by (exact (Nat.lt_trans this (by decide))))
    simp only [Its.pyi, PyData.canLayAll0, PyData.canLay0, h1, pyi_can h.2, Bool.and_self]
  | .sub _ d r, h => by simp only [Its.pyi, PyData.canLayAll0, PyData.canLay0, pyi_can h.1, pyi_can h.2, Bool.and_self]
theorem Its.pyi_depth : ∀ q : Its, PyData.depthAll q.pyi ≤ q.depth
  | .nil => by simp [Its.pyi, PyData.depthAll]
  | .str x r => by
    have := pyi_depth r
    simp only [Its.pyi, PyData.depthAll, PyData.depth, Its.depth, Nat.zero_max]; exact this
  | .sub _ d r => by
    have hr := pyi_depth r
    have hd := pyi_depth d
    simp only [Its.pyi, PyData.depthAll, PyData.depth, Its.depth, Nat.zero_max]
    exact Nat.max_le.mpr ⟨Nat.le_trans (Nat.succ_le_succ hd) (Nat.le_max_left _ _), Nat.le_trans hr (Nat.le_max_right _ _)⟩
theorem ItemsAt.mem {lk : Addr → Option Obj} {v : Value} : ∀ {t : Its} {vs : List Value}, ItemsAt lk t vs → t.small → v ∈ vs →
    (∃ x tk, v = .str x tk ∧ lst x ∈ pieces) ∨ ∃ a j tk d ws n, v = .ref a ∧ lk a = some (listOf (Value.int j tk :: ws).toArray n) ∧ ItemsAt lk d ws ∧ d.small
  | .nil, _, e, _, hv => by rw [e] at hv; cases hv
  | .str x r, _, ⟨tk, vs', e, hr⟩, hs, hv => by
    rw [e] at hv
    rcases List.mem_cons.mp hv with rfl | hv
    · exact .inl ⟨x, tk, rfl, (Its.small_str hs).1⟩
    · exact hr.mem (Its.small_str hs).2 hv
  | .sub k d r, _, ⟨a, tk, ws, n, vs', e, o, hd, hr⟩, hs, hv => by
    rw [e] at hv
    rcases List.mem_cons.mp hv with rfl | hv
    · exact .inr ⟨a, k, tk, d, ws, n, rfl, o, hd, (Its.small_sub hs).2.1⟩
    · exact hr.mem (Its.small_sub hs).2.2.1 hv
def isBr (v : Value) : Bool := match v with
  | .str x _ => decide (lst x = [40] ∨ lst x = [41])
  | _ => false

theorem ItemsAt.brs_strs {lk : Addr → Option Obj} : ∀ {t : Its} {vs : List Value}, ItemsAt lk t vs → ∃ zs, StrsAre (vs.filter isBr) zs ∧ (zs.map lst).flatten = t.brs ∧ zs.length ≤ t.count ∧ (zs.map (·.length)).sum = zs.length
  | .nil, _, e => by rw [e]; exact ⟨[], .nil, rfl, Nat.zero_le _, rfl⟩
  | .str x r, _, ⟨tk, vs', e, hr⟩ => by
    obtain ⟨zs, h1, h2, h3, h4⟩ := hr.brs_strs
    rw [e]
    by_cases c : lst x = [40] ∨ lst x = [41]
    · refine ⟨x :: zs, ?_, ?_, by rw [Its.count, List.length_cons]; (exact Nat.succ_le_succ h3), ?_⟩
      · rw [List.filter_cons, if_pos (by simp [isBr, c])]; exact .cons x tk h1
      · rw [List.map_cons, List.flatten_cons, h2, Its.brs, if_pos c]
      · have : x.length = 1 := by rw [len_lst]; rcases c with c | c <;> rw [c] <;> rfl
        rw [List.map_cons, List.sum_cons, List.length_cons, this, h4]; omega
    · refine ⟨zs, ?_, ?_, by rw [Its.count]; (exact Nat.le_add_right_of_le h3), h4⟩
      · rw [List.filter_cons, if_neg (by simp [isBr, c])]; exact h1
      · rw [h2, Its.brs, if_neg c]; rfl
  | .sub k d r, _, ⟨a, tk, ws, n, vs', e, o, hd, hr⟩ => by
    obtain ⟨zs, h1, h2, h3, h4⟩ := hr.brs_strs
    rw [e]
    refine ⟨zs, ?_, h2, by rw [Its.count]; omega, h4⟩
    rw [List.filter_cons, if_neg (by simp [isBr])]; exact h1
theorem whileW {w : World} {A : Around} {s : Shared} {Q : Flow → Shared → Prop} {env : Env} {test : Expr} {body : List Stmt} {pos : Pos} {E : Value → Shared → Prop} (I : Nat → Shared → Prop)
    (turn : ∀ n s, I n s → wpAny (model PR w) A (isTrue test env (eval test env)) (fun b s₂ =>
        if b then wpAny (model PR w) A (execs body env) (fun f s₃ => match f with
            | .next | .cont => ∃ m, m < n ∧ I m s₃
            | .brk => Q .next s₃
            | .ret v => Q (.ret v) s₃) NoE s₂
        else Q .next s₂) NoE s)
    (n : Nat) (h : I n s) : wpAny (model PR w) A (exec (.While test body [] pos) env) Q E s := by
  refine wpAny_While (codeAny_whileLoop I (fun n s hI => wp_noE (wpAny_mono (turn n s hI) (fun b s₂ h₂ => ?_) fun _ _ e => e)) n h)
  cases b with
  | true => exact wp_noE (wpAny_mono h₂ (fun f s₃ h₃ => by cases f <;> exact h₃) fun _ _ e => e)
  | false => exact wpAny_execs_nil h₂
theorem beq_txt (x : Str) (l : List Nat) {y : Str} (hy : y = txt l) : (x == y) = decide (lst x = l) := by
  subst hy
  by_cases c : lst x = l
  · have : x = txt l := by rw [← c, txt_lst]
    simp [this]
  · have : x ≠ txt l := fun e => c (by rw [e])
    simp [c, this]
theorem Its.brs_in : ∀ t : Its, ∀ c ∈ t.brs, c = 40 ∨ c = 41
  | .nil => by intro c hc; cases hc
  | .str x r => by
    intro c hc
    rw [Its.brs, List.mem_append] at hc
    rcases hc with hc | hc
    · split at hc
      · rename_i e
        rcases e with e | e
        · rw [e] at hc; exact .inl (by simpa using hc)
        · rw [e] at hc; exact .inr (by simpa using hc)
      · cases hc
    · exact r.brs_in c hc
  | .sub _ _ r => r.brs_in
theorem Its.brs_len : ∀ t : Its, t.brs.length ≤ t.count
  | .nil => Nat.le_refl _
  | .str x r => by
    have := r.brs_len
    rw [Its.brs, List.length_append, Its.count]
    split
    · rename_i e
      have : (lst x).length = 1 := by rcases e with e | e <;> rw [e] <;> rfl
      omega
    · simp; (exact Nat.le_add_right_of_le this)
  | .sub _ d r => by have := r.brs_len; rw [Its.brs, Its.count]; omega
inductive InvCloses (t : Its) (s : Shared) (L : Nat) (n : Nat) (s₁ : Shared) : Prop
  | mk (l : List Nat) (h : Heap) (tk : Nat) (m : Str → Option Value) (tkr : Tok) (f1 : s₁ = { s with heap := h, toks := tk }) (f2 : 0 < tk) (f3 : Fr s.heap L h m) (f4 : m (Str.ofString "row") = some (.str (txt l) tkr)) (f5 : (∀ c ∈ l, c = 40 ∨ c = 41)) (f6 : bal l 0 = bal t.brs 0) (f7 : l.length ≤ 10) (f8 : n = l.length) : InvCloses t s L n s₁
theorem closes_code {w : World} {t : Its} {A : Around} {s : Shared} {R : Result → Shared → Prop} {k : Nat} {v : Value}
    (G : Gd w s.heap) (hroom : A.depth < recursionLimit) (hun : A.units + 100 < cLine) (hh : A.handled = none) (hsm : t.small) (ht : 0 < s.toks)
    (hN : NodeAt s.heap.get? v k t)
    (h : ∀ h' tk', (∀ b o, s.heap.get? b = some o → h'.get? b = some o) → 0 < tk' → R (.ok (.ret (.bool (bal t.brs 0)))) { s with heap := h', toks := tk' }) :
    codeAny (model PR w) A (.call (.ref 115) ⟨[v], []⟩) R s := by
  have X := G.K
  obtain ⟨mean, mg, mb, T⟩ := G.T
  obtain ⟨a, tk0, ws, na, rfl, ha, hI⟩ := hN
  have hlg : s.heap.IsList a (Value.int k tk0 :: ws).toArray := ⟨_, ha, rfl, _, rfl⟩
  refine' enterF (binds := [(Str.ofString "node", .ref a)]) G (fun _ _ e => e) (Nat.le_refl _) ?ho ?hcd (by (with_reducible assumption)) ?hb ?hl ?hbody ?h1 ?h2 ?h3 ?h4
  case ho => rfl
  case hcd => rfl
  case hb => exact BindsTo.of_eq rfl
  case hl => exact locs rfl
  case h1 => decide
  case h2 => rfl
  case h3 => rfl
  case h4 => rfl
  intro L h₁ hL F hk
  have N := news_led F []
  walk_at "go"
  refine wpAny_with_toks (n := 1) (Nat.succ_pos _) ?_
  refine compList isBr (fun a b => b = a) hh (by decide) (by decide) rfl (by decide) rfl ?_ (fun _ => rfl)
  walk_at "go"
  have hws : ws.length ≤ 10 := Nat.le_trans hI.length hsm.2.1
  refine slice_list F N (hlg.at fun o e => F.keep _ _ e) (.int _ _) .none ?_ (hsz := by simp [sizeLine]; (exact Nat.le_of_lt (Nat.lt_of_le_of_lt hws (by decide))))
  rw [show slicePick (Value.int k tk0 :: ws).toArray (some 1) none none = ws.toArray from slicePick_from' _ 1]
  clear F N
  intro h₂ F N
  dsimp only at F N ⊢
  refine ⟨_, ws.toArray, rfl, N.isList (List.mem_cons_self ..), by simp [sizeLine]; (exact Nat.le_of_lt (Nat.lt_of_le_of_lt hws (by decide))), ?tests, ?elt, ?rest⟩
  case tests =>
    intro C v s₃ m₃ E' hv hn hm hk3
    refine wpAny_tests_one ?_
    rcases hI.mem hsm (by simpa using hv) with ⟨x, tkx, rfl, hx⟩ | ⟨ac, j, tkj, d, ws', n', rfl, hac, hd, hsd⟩
    · walk1
      walk1
      refine wpAny_Name (wpAny_loadName_local rfl rfl hn hm ?_) rfl
      walk1
      walk1
      walk1
      have e40 : (x == Str.ofString "(") = decide (lst x = [40]) := beq_txt x [40] (by decide +kernel)
      have e41 : (x == Str.ofString ")") = decide (lst x = [41]) := beq_txt x [41] (by decide +kernel)
      rw [e40]
      by_cases c1 : lst x = [40]
      · rw [if_pos (by simp [c1])]
        exact ⟨by simp [isBr, c1], _, _, rfl, fun _ _ e => e⟩
      · rw [if_neg (by simp [c1])]
        walk1
        walk1
        refine wpAny_Name (wpAny_loadName_local rfl rfl hn hm ?_) rfl
        walk1
        walk1
        walk1
        rw [e41]
        by_cases c2 : lst x = [41]
        · rw [if_pos (by simp [c2])]
          exact ⟨by simp [isBr, c2], _, _, rfl, fun _ _ e => e⟩
        · rw [if_neg (by simp [c2])]
          walk1
          exact ⟨by simp [isBr, c1, c2], _, _, rfl, fun _ _ e => e⟩
    · have hac3 := hk3 _ _ (F.keep _ _ hac)
      obtain ⟨as, hr⟩ := hd.reads (h := s₃.heap) fun a o e => hk3 _ _ (F.keep _ _ e)
      have hrd : Reads s₃.heap (.ref ac) (.list (.int j :: d.pyi)) (ac :: ([] ++ as)) := .list hac3 rfl rfl (.cons (.int j tkj) hr)
      have hshape : SeqAt.shaped (.list (.int j :: d.pyi)) = true := by
        unfold SeqAt.shaped
        rw [Bool.and_eq_true]
        have := d.pyi_depth
        have := hsd.2.2
        exact ⟨by simp only [PyData.canLay0, PyData.canLayAll0, Its.pyi_can (Its.asc_ok hsd.1), Bool.and_self], decide_eq_true (by simp only [PyData.depth, PyData.depthAll]; omega)⟩
      walk1
      walk1
      refine wpAny_Name (wpAny_loadName_local rfl rfl hn hm ?_) rfl
      walk1
      refine SeqAt.compareEq_shaped hrd (.str _ _) hshape (by decide +kernel) (by show A.units + 67 < _; exact roomC hun (by decide)) ?_
      rw [show PyData.eqv (.list (.int j :: d.pyi)) (.str (Str.ofString "(")) = false from by simp [PyData.eqv]]
      walk1
      rw [if_neg (by decide)]
      walk1
      walk1
      refine wpAny_Name (wpAny_loadName_local rfl rfl hn hm ?_) rfl
      walk1
      refine SeqAt.compareEq_shaped hrd (.str _ _) hshape (by decide +kernel) (by show A.units + 67 < _; exact roomC hun (by decide)) ?_
      rw [show PyData.eqv (.list (.int j :: d.pyi)) (.str (Str.ofString ")")) = false from by simp [PyData.eqv]]
      walk1
      rw [if_neg (by decide)]
      walk1
      exact ⟨rfl, _, _, rfl, fun _ _ e => e⟩
  case elt =>
    intro C v s₃ m₃ E' hv hpv hn hm hk3
    exact wpAny_Name (wpAny_loadName_local rfl rfl hn hm ⟨rfl, _, _, rfl, fun _ _ e => e⟩) rfl
  case rest =>
    intro D h₃ tk₃ ys hD hlD hP hk3 htk
    have hys := paired_eq hP
    obtain ⟨zs, hz1, hz2, hz3⟩ := hI.brs_strs
    have F₃ := Fr_kept (M := []) F (by simp) (by simp) (fun b o _ e => hk3 b o e)
    have N₃ := News_kept (M := []) N (by simp) (fun b o _ e => hk3 b o e)
    clear F N
    walk1
    refine wpAny_with_toks (n := 1) htk (join_list hlD (by rw [hys]; exact hz1) ?_ (fun t4 tk4 h4 => ?_))
    · have hc := hsm.2.1
      rw [hz3.2, show (Str.ofString "").length = 0 from by decide +kernel]; omega
    have hj : Txt.join (Str.ofString "") zs = txt t.brs := by
      rw [eq_of_beq (join_closes (sep := Str.ofString "") (ys := zs) rfl)]
      refine str_ext ?_
      rw [lst_join, show lst (Str.ofString "") = [] from by decide +kernel, join_empty, hz2]
    rw [hj]
    dsimp only at h4 ⊢
    refine stN F₃ N₃ ?_
    intro h₅ F₅ N₅
    clear F₃ N₃
    dsimp only
    walk_at "go"
    have hbrs := t.brs_in
    have hbl := t.brs_len
    have hcl := hsm.2.1
    refine whileW (InvCloses t s L) ?_ t.brs.length ⟨t.brs, h₅, _, _, _, rfl, by (with_reducible exact Nat.succ_pos _), F₅, rfl, hbrs, rfl, by (exact (Nat.le_trans hbl hcl)), rfl⟩
    rintro n s₁ ⟨l, h6, tk6, m, tkr, rfl, e2, e3, e4, e5, e6, e7, rfl⟩
    have F := Fr_pin (x := Str.ofString "row") e3 e4
    have N := news_led F []
    walk1
    walk1
    walk1
    walk1
    walk1
    rw [pars]
    cases hocc : (Builtin.Str.occurrences (txt l) ⟨#[40, 41]⟩ 0 (txt l).length 1).isEmpty with
    | false =>
      rw [if_pos (by rfl)]
      obtain ⟨ps, hp1, hp2, hp3⟩ := rep_pair (txt l) hocc
      rw [lst_txt] at hp2
      walk_at "go"
      rw [show Str.ofString "" = ⟨#[]⟩ from by decide +kernel]
      refine wpAny_with_toks (n := 1) (Nat.succ_pos _) (SC.replaceW (Nat.succ_ne_zero _) (Nat.succ_ne_zero _) (by show tk6 + 1 ≠ tk6 + 1 + 1; omega) (by decide) (by rw [len_txt]; (exact Nat.le_of_lt (Nat.lt_of_le_of_lt e7 (by decide)))) (by decide) ?_)
      intro t7 tk7 h7
      have hrep : Txt.replace (txt l) ⟨#[40, 41]⟩ ⟨#[]⟩ = txt (joinL [] ps) := by rw [← hp3, txt_lst]
      rw [hrep]
      dsimp only at h7 ⊢
      refine stN F N ?_
      intro h8 F8 N8
      refine wpAny_execs_nil ?_
      have hjl := joinL_len ps
      rw [← hp2] at hjl
      refine ⟨(joinL [] ps).length, by omega, joinL [] ps, h8, _, _, _, rfl, by dsimp only; (with_reducible exact Nat.succ_pos _), F8, rfl, ?_, ?_, by omega, rfl⟩
      · exact joinL_mem _ ps (by rw [← hp2]; exact e5)
      · rw [← e6]
        have := bal_join ps [] 0
        rw [List.nil_append, List.nil_append, ← hp2] at this
        exact this.symm
    | true =>
      rw [if_neg (by simp)]
      have hnp : noPair l := noPair_of l fun a b e => by
        have := (found_pair (txt l)).mpr ⟨a, b, by rw [lst_txt]; exact e⟩
        rw [hocc] at this; cases this
      have hb := bal_end l e5 hnp
      have hb2 : (txt l == Str.ofString "") = bal t.brs 0 := by
        rw [beq_txt (txt l) [] (by decide +kernel), lst_txt, ← hb, e6]
      walk_at "go"
      rw [hb2]
      exact h _ _ F.keep (Nat.succ_pos _)
end Mine

end T_W8
section T_W9
set_option autoImplicit false
set_option linter.all false
open PySem PySem.W PyProof.Rows PySem.Calls
set_option Elab.async false
set_option maxRecDepth 100000
set_option maxHeartbeats 8000000
namespace Mine
theorem off_W9 : True := by w_top off; trivial
theorem fill9 (w : World) : Challenge.rw_nb0133_01.prog = Challenge.rw_nb0133_01.prog ∧ (hd.heap_39 w.params).length = (hd.heap_39 w.params).length := by
  k_fill
  exact ⟨rfl, rfl⟩
theorem enterC {w : World} {A : Around} {s : Shared} {R : Result → Shared → Prop} {g : Heap}
    {name qual : Str} {params : Arguments} {body : List Stmt} {scope : Scope} {dV kV doc pm cdv ct oc : Value} {an od : Option Addr} {osl : Array (Option Value)} {f : Addr} {args : Args} {binds : List (Str × Value)}
    (G : Gd w g) (hg : ∀ b o, g.get? b = some o → s.heap.get? b = some o) (hgs : g.objs.size ≤ s.heap.objs.size)
    (ho : (hd.heap_39 w.params).lookup f = some ⟨oc, od, .func (fnOf name qual params body scope dV kV doc pm an cdv ct), osl⟩) (hcd : codeIn (hd.heap_39 w.params) cdv qual = true) (hroom : A.depth < recursionLimit)
    (hbind : BindsTo s (fnOf name qual params body scope dV kV doc pm an cdv ct) args binds)
    (hkind : ∀ n, ∀ x ∈ binds, scope.names.lookup x.1 = some .local ∨ (scope.names.lookup x.1 = some .cell ∧ ((cellsFrom n scope.names []).lookup x.1).isSome = true))
    (hnd : ((cellsFrom 0 scope.names []).map (·.1)).Nodup)
    (h : ∀ (L : Nat) (h₁ : Heap) tk cells, L = s.heap.objs.size → Fr g L h₁ (bindL (envOfC qual scope L f cdv).kindOf binds fun _ => none) → News g L h₁ cells →
      CellsAre (bindC (envOfC qual scope L f cdv).kindOf binds fun _ => none) (cellsFrom (L + 1) scope.names []) cells → (∀ b o, s.heap.get? b = some o → h₁.get? b = some o) → s.toks ≤ tk →
      wpAny (model PR w) (A.deeper (envOfC qual scope L f cdv)) (execs body (envOfC qual scope L f cdv))
        (fun fl s' => R (.ok (.ret (match fl with | .ret v => v | _ => .none))) s') NoE
        { s with heap := h₁, toks := tk })
    (hco : scope.isCoroutine = false) (hgen : scope.isGenerator = false) (hk : scope.kind = .function) : codeAny (model PR w) A (.call (.ref f) args) R s := by
  obtain ⟨mean, mg, mb, T⟩ := G.T
  refine codeAny_call_function hroom (hg _ _ (G.K _ _ ho)) rfl hco hgen rfl (codeRec_of (G.K.keeps hg) hcd) (hbind _ _ _ _ ?_)
  refine wpAny_with_toks (n := s.toks) (Nat.le_refl _) (wpAny_newFunctionEnv_cells hk (hkind _) fun env' he s' x htk => ?_)
  subst he
  refine ⟨(T.nolimit.keeps hg).keeps x.toInCall.keep, codeAny_func ?_⟩
  obtain ⟨h₁, tk, rfl, _⟩ := x.done
  have hk₁ := x.toInCall.keep
  obtain ⟨cells, NC, Y⟩ := Cl.news (h₀ := s.heap) (Nat.le_refl _) fun n c hm => ⟨x.cell n c (lookup_of_mem_nodup (cellsFrom_names scope.names 0 (s.heap.objs.size + 1) [] [] rfl ▸ hnd) hm), x.above n c hm⟩
  refine wp_noE (h s.heap.objs.size h₁ tk cells rfl ⟨x.toInCall.ns, fun b o e => hk₁ b o (hg b o e), hgs⟩ (fun p hp => ?_) Y hk₁ htk)
  refine ⟨(NC p hp).1, (NC p hp).2.1, ?_⟩
  cases q : g.get? p.1 with
  | none => rfl
  | some o => have := hg _ _ q; rw [(NC p hp).2.2] at this; cases this

def ownChars : List Nat := [40, 41, 34, 38, 92, 97, 60, 9, 10, 109, 112, 59]
def DictK (w : World) (o : Obj) (k : Nat) : Prop := ∃ kvs, Obj.IsDictOf (PySem.strKind PR w) o kvs ∧ ∀ c ∈ ownChars, (∃ tk, valueAt kvs (txt [c]) = some (.str (txt (esc k c)) tk)) ∨ (valueAt kvs (txt [c]) = none ∧ esc k c = [c])
theorem own_chars {l : List Nat} (h : l ∈ pieces) : ∀ c ∈ l, c ∈ ownChars := by
  have : ∀ l ∈ pieces, ∀ c ∈ l, c ∈ ownChars := by decide
  exact this l h
theorem Its.own_in : ∀ {t : Its}, t.ok → ∀ c ∈ t.own, c ∈ ownChars
  | .nil, _, c, hc => by cases hc
  | .str x r, h, c, hc => by
    rw [Its.own, List.mem_append] at hc
    rcases hc with hc | hc
    · exact own_chars h.1 c hc
    · exact r.own_in h.2 c hc
  | .sub _ d r, h, c, hc => r.own_in h.2.2 c hc
theorem pick3 {w : World} {k : Nat} {g h : Heap} {L l a b c e : Addr} {o1 o2 o3 n0 : Obj} {x : Option Addr} {osl : Array (Option Value)} (hk : k < 3)
    (N : News g L h [(l, ⟨.type "list", x, .seq [Value.ref a, .ref b, .ref c].toArray, osl⟩), (c, o3), (b, o2), (a, o1), (e, n0)]) (l1 : (a == sysModules) = false) (l2 : (b == sysModules) = false) (l3 : (c == sysModules) = false)
    (D0 : DictK w o1 0) (D1 : DictK w o2 1) (D2 : DictK w o3 2) :
    ∃ dk ok, [Value.ref a, .ref b, .ref c][k]? = some (.ref dk) ∧ News g L h [(e, n0), (dk, ok)] ∧ (dk == sysModules) = false ∧ DictK w ok k := by
  have aux : ∀ q : Addr × Obj, q ∈ [(c, o3), (b, o2), (a, o1)] → News g L h [(e, n0), q] := fun q hq p hp => N p (by
    rcases List.mem_cons.mp hp with rfl | hp
    · exact .tail _ (.tail _ (.tail _ (.tail _ (.head _))))
    · rw [List.mem_singleton.mp hp]; exact .tail _ (by rcases List.mem_cons.mp hq with rfl | hq; exact .head _; rcases List.mem_cons.mp hq with rfl | hq; exact .tail _ (.head _); rw [List.mem_singleton.mp hq]; exact .tail _ (.tail _ (.head _))))
  match k, hk with
  | 0, _ => exact ⟨_, _, rfl, aux _ (.tail _ (.tail _ (.head _))), l1, D0⟩
  | 1, _ => exact ⟨_, _, rfl, aux _ (.tail _ (.head _)), l2, D1⟩
  | 2, _ => exact ⟨_, _, rfl, aux _ (.head _), l3, D2⟩
theorem gen_toks {α : Type} {M : Model} {A : Around} {t : Sem α} {Q : α → Shared → Prop} {E : Value → Shared → Prop} {s : Shared} (hn : 1 ≤ s.toks) (h : ∀ tk, 1 ≤ tk → wpAny M A t Q E { s with toks := tk }) : wpAny M A t Q E s := h s.toks hn
def isS (v : Value) : Bool := match v with
  | .str _ _ => true
  | _ => false
theorem ItemsAt.own_strs {lk : Addr → Option Obj} : ∀ {t : Its} {vs : List Value}, ItemsAt lk t vs → t.ok → ∃ zs, StrsAre (vs.filter isS) zs ∧ (zs.map lst).flatten = t.own ∧ zs.length ≤ t.count ∧ (zs.map (·.length)).sum ≤ 5 * t.count
  | .nil, _, e, _ => by rw [e]; exact ⟨[], .nil, rfl, Nat.zero_le _, Nat.zero_le _⟩
  | .str x r, _, ⟨tk, vs', e, hr⟩, ho => by
    obtain ⟨zs, h1, h2, h3, h4⟩ := hr.own_strs ho.2
    rw [e]
    have := piece_len ho.1
    refine ⟨x :: zs, ?_, ?_, by rw [Its.count, List.length_cons]; (exact Nat.succ_le_succ h3), ?_⟩
    · rw [List.filter_cons, if_pos (by simp [isS])]; exact .cons x tk h1
    · rw [List.map_cons, List.flatten_cons, h2, Its.own]
    · rw [List.map_cons, List.sum_cons, Its.count, len_lst]; omega
  | .sub k d r, _, ⟨a, tk, ws, n, vs', e, o, hd, hr⟩, ho => by
    obtain ⟨zs, h1, h2, h3, h4⟩ := hr.own_strs ho.2.2
    rw [e]
    refine ⟨zs, ?_, h2, by rw [Its.count]; omega, by rw [Its.count]; omega⟩
    rw [List.filter_cons, if_neg (by simp [isS])]; exact h1
theorem name_B {w : World} {A : Around} {E : Value → Shared → Prop} {s : Shared} {env : Env} {Q : Value → Shared → Prop} {x : Str} {v : Value} {pos : Pos} {g : Heap} {mean : ExcName → Option Value} {mg mb : Str → Option Value}
    (X : (hd.heap_39 w.params).In g) (T : Top VW (looseW VW []) mean mg mb g) (hkp : ∀ b o, g.get? b = some o → s.heap.get? b = some o) (e : nsIn (hd.heap_39 w.params) mainGlobals x = some none) (hv : bootBuiltins x = some v) (hn : x ≠ "__name__")
    (hg : env.globals = mainGlobals) (hb : env.builtins = builtinsNs) (hk : env.scope.kind = .function) (hx : env.kindOf x = some .globalImplicit) (hdb : (x == ("__debug__" : Str)) = false) (h : Q v s) :
    wpAny (model PR w) A (eval (.Name x pos) env) Q E s :=
  Name_function_global hk hx (loadGlobal_builtin (env := env) (hg ▸ T.g.keeps hkp) (mg_none_of X T.g e) (hb ▸ T.b.keeps hkp) ((T.builtins x hn).trans hv) h) hdb
theorem own_paired {k : Nat} {vs ys : List Value} {l : List Nat} (h : Paired (fun (v y : Value) => ∀ c u, v = Value.str ⟨#[c]⟩ u → ∃ tk, y = Value.str (txt (esc k c)) tk) vs ys) (hl : vs.length = l.length)
    (hv : ∀ (j : Nat) (v : Value), vs[j]? = some v → ∃ c u, l[j]? = some c ∧ v = Value.str ⟨#[c]⟩ u) : StrsAre ys (l.map fun c => txt (esc k c)) := by
  induction h generalizing l with
  | nil =>
    cases l with
    | nil => exact .nil
    | cons _ _ => simp at hl
  | @cons v y vs ys e _ ih =>
    cases l with
    | nil => simp at hl
    | cons c l =>
      obtain ⟨c', u, h1, h2⟩ := hv 0 v (by simp)
      simp at h1
      subst h1
      obtain ⟨tk, rfl⟩ := e c u h2
      exact .cons _ tk (ih (by simpa using hl) fun j v e => by
        obtain ⟨c', u', h3, h4⟩ := hv (j + 1) v (by simpa using e)
        exact ⟨c', u', by simpa using h3, h4⟩)
theorem esc_sum (k : Nat) : ∀ l : List Nat, ((l.map fun c => txt (esc k c)).map (·.length)).sum ≤ 6 * l.length
  | [] => Nat.le_refl _
  | c :: l => by
    have := esc_len k c
    have := esc_sum k l
    rw [List.map_cons, List.map_cons, List.sum_cons, List.length_cons, len_txt]
    omega
theorem own_code {w : World} {t : Its} {A : Around} {s : Shared} {R : Result → Shared → Prop} {k : Nat} {v : Value}
    (G : Gd w s.heap) (hroom : A.depth < recursionLimit) (hun : A.units + 100 < cLine) (hh : A.handled = none) (hsm : t.small) (hk3 : k < 3) (ht : 0 < s.toks)
    (hN : NodeAt s.heap.get? v k t)
    (h : ∀ tk h' tk', (∀ b o, s.heap.get? b = some o → h'.get? b = some o) → 0 < tk' → R (.ok (.ret (.str (txt (escL k t.own)) tk))) { s with heap := h', toks := tk' }) :
    codeAny (model PR w) A (.call (.ref 110) ⟨[v], []⟩) R s := by
  have X := G.K
  obtain ⟨mean, mg, mb, T⟩ := G.T
  obtain ⟨a, tk0, ws, na, rfl, ha, hI⟩ := hN
  have hlg : s.heap.IsList a (Value.int k tk0 :: ws).toArray := ⟨_, ha, rfl, _, rfl⟩
  refine' enterC (binds := [(Str.ofString "node", .ref a)]) G (fun _ _ e => e) (Nat.le_refl _) ?ho ?hcd (by (with_reducible assumption)) ?hb ?hkn ?hnd ?hbody ?h2 ?h3 ?h4
  case ho => rfl
  case hcd => rfl
  case hb => exact BindsTo.of_eq rfl
  case hkn => exact kindsX rfl
  case hnd => decide
  case h2 => rfl
  case h3 => rfl
  case h4 => rfl
  intro L h₁ tk₁ cells hL F N C hk htk
  obtain ⟨n0, hc0, d0⟩ := CellsAre.one C
  subst hc0
  clear C
  have ht1 : 0 < tk₁ := Nat.lt_of_lt_of_le ht htk
  walk_at "go"
  rename Fr _ _ _ _ => F3
  rename News _ _ _ _ => N3
  rename Obj.IsDictOf _ _ _ => hd3
  have D2 : DictK w _ 2 := ⟨_, hd3, by
    intro c hc
    simp only [ownChars, List.mem_cons, List.not_mem_nil, or_false] at hc
    rcases hc with rfl | rfl | rfl | rfl | rfl | rfl | rfl | rfl | rfl | rfl | rfl | rfl
    all_goals first | exact .inl ⟨_, rfl⟩ | exact .inr ⟨rfl, rfl⟩⟩
  clear hd3
  rename Obj.IsDictOf _ _ _ => hd3
  have D1 : DictK w _ 1 := ⟨_, hd3, by
    intro c hc
    simp only [ownChars, List.mem_cons, List.not_mem_nil, or_false] at hc
    rcases hc with rfl | rfl | rfl | rfl | rfl | rfl | rfl | rfl | rfl | rfl | rfl | rfl
    all_goals first | exact .inl ⟨_, rfl⟩ | exact .inr ⟨rfl, rfl⟩⟩
  clear hd3
  rename Obj.IsDictOf _ _ _ => hd3
  have D0 : DictK w _ 0 := ⟨_, hd3, by
    intro c hc
    simp only [ownChars, List.mem_cons, List.not_mem_nil, or_false] at hc
    rcases hc with rfl | rfl | rfl | rfl | rfl | rfl | rfl | rfl | rfl | rfl | rfl | rfl
    all_goals first | exact .inl ⟨_, rfl⟩ | exact .inr ⟨rfl, rfl⟩⟩
  clear hd3
  refine wpAny_with_toks (n := 1) (Nat.succ_pos _) (newList_N F3 N3 ?_)
  intro h₂ F₂ N₂ ht2
  dsimp only at F₂ N₂ ht2 ⊢
  obtain ⟨dk, ok, hdk, N₂', hlk, D⟩ := pick3 hk3 N₂ (by assumption) (by assumption) (by assumption) D0 D1 D2
  have hl2 := N₂.isList (List.mem_cons_self ..)
  walk_at "go"
  refine item_listL (hlg.at fun o e => F₂.keep _ _ e) (by decide) (by decide) rfl ?_
  refine item_listR hl2 (by (exact Int.natCast_nonneg _)) (by omega) (by simpa using hdk) ?_
  clear F3 N3
  clear hl2 N₂ hdk D0 D1 D2
  have hne : dk ≠ L + 1 := by
    rintro rfl
    obtain ⟨kvs, ⟨es, ep, _, hda, _⟩, _⟩ := D
    have q1 := (N₂' _ (.head _)).1
    have q2 := (N₂' _ (.tail _ (.head _))).1
    dsimp only at q1 q2
    rw [q1] at q2
    cases q2
    rw [d0] at hda
    cases hda
  refine gen_toks (Nat.succ_pos _) fun tk₃ ht3 => ?_
  clear ht2
  dsimp only
  refine storeX_C F₂ N₂' rfl (.head (by simp; exact hne)) d0 ?_
  clear F₂ N₂' d0
  intro h₃ n1 F₃ N₃ d1
  dsimp only at F₃ N₃ ⊢
  walk_at "go"
  refine wpAny_with_toks (n := 1) (Nat.succ_pos _) ?_
  refine compList isS (fun a b => b = a) hh (by decide) (by decide) rfl (by decide) rfl ?_ (fun _ => rfl)
  walk_at "go"
  have hws : ws.length ≤ 10 := Nat.le_trans hI.length hsm.2.1
  refine slice_list F₃ N₃ (hlg.at fun o e => F₃.keep _ _ e) (.int _ _) .none ?_ (hsz := by simp [sizeLine]; (exact Nat.le_of_lt (Nat.lt_of_le_of_lt hws (by decide))))
  rw [show slicePick (Value.int k tk0 :: ws).toArray (some 1) none none = ws.toArray from slicePick_from' _ 1]
  clear F₃ N₃
  intro h₄ F₄ N₄
  dsimp only at F₄ N₄ ⊢
  refine ⟨_, ws.toArray, rfl, N₄.isList (List.mem_cons_self ..), by simp [sizeLine]; (exact Nat.le_of_lt (Nat.lt_of_le_of_lt hws (by decide))), ?tests, ?elt, ?rest⟩
  case tests =>
    intro C v s₃ m₃ E' hv hn hm hk3'
    refine wpAny_tests_one ?_
    have hkp : ∀ b o, s.heap.get? b = some o → s₃.heap.get? b = some o := fun b o e => hk3' _ _ (F₄.keep _ _ e)
    walk1
    walk1
    refine name_B X T hkp rfl rfl (by decide) rfl rfl rfl rfl (by decide) ?_
    walk1
    walk1
    refine wpAny_Name (wpAny_loadName_local rfl rfl hn hm ?_) rfl
    walk1
    refine name_B X T hkp rfl rfl (by decide) rfl rfl rfl rfl (by decide) ?_
    walk1
    rcases hI.mem hsm (by simpa using hv) with ⟨x, tkx, rfl, hx⟩ | ⟨ac, j, tkj, d, ws', n', rfl, hac, hd, hsd⟩
    · refine IsiPair.str_str ?_
      walk1
      exact ⟨rfl, _, _, rfl, fun _ _ e => e⟩
    · refine IsiPair.list_str (o := listOf (Value.int j tkj :: ws').toArray n') (hkp _ _ hac) rfl ?_
      walk1
      exact ⟨rfl, _, _, rfl, fun _ _ e => e⟩
  case elt =>
    intro C v s₃ m₃ E' hv hpv hn hm hk3
    exact wpAny_Name (wpAny_loadName_local rfl rfl hn hm ⟨rfl, _, _, rfl, fun _ _ e => e⟩) rfl
  case rest =>
    intro D' h₅ tk₅ ys hD hlD hP hk5 htk5
    have hys := paired_eq hP
    obtain ⟨zs, hz1, hz2, hz3, hz4⟩ := hI.own_strs hsm.1
    have F₅ := Fr_kept (M := []) F₄ (by simp) (by simp) (fun b o _ e => hk5 b o e)
    have N₅ := News_kept (M := []) N₄ (by simp) (fun b o _ e => hk5 b o e)
    clear F₄ N₄
    walk1
    refine wpAny_with_toks (n := 1) htk5 (join_list hlD (by rw [hys]; exact hz1) ?_ (fun t4 tk4 h4 => ?_))
    · have hc := hsm.2.1
      rw [show (Str.ofString "").length = 0 from by decide +kernel]; omega
    have hj : Txt.join (Str.ofString "") zs = txt t.own := by
      rw [eq_of_beq (join_closes (sep := Str.ofString "") (ys := zs) rfl)]
      refine str_ext ?_
      rw [lst_join, show lst (Str.ofString "") = [] from by decide +kernel, join_empty, hz2]
    rw [hj]
    dsimp only at h4 ⊢
    refine storeX_L F₅ N₅ ?_
    intro h₆ F₆ N₆
    clear F₅ N₅
    dsimp only at F₆ N₆ ⊢
    walk_at "go"
    clear hk5 hlD hz1
    refine wpAny_with_toks (n := 1) (Nat.succ_pos _) ?_
    refine wpAny_ListComp_free (fun _ => true) (fun v y => ∀ c u, v = .str ⟨#[c]⟩ u → ∃ tk, y = .str (txt (esc k c)) tk) rfl (by decide) rfl (by decide) rfl ?_ (fun _ => rfl)
    refine nameX_L F₆ rfl ?_
    refine wpAny_pyIter_str fun o St W hst => ?_
    dsimp only at W hst ⊢
    have hown : (txt t.own).cps.size ≤ 50 := by
      show (txt t.own).length ≤ 50
      rw [len_txt]
      have := hsm.2.1
      have e : t.own.length = (zs.map (·.length)).sum := by
        rw [← hz2, List.length_flatten, List.map_map]
        rfl
      omega
    refine ⟨h₆.objs.size, [h₆.objs.size], [h₆.objs.size], (txt t.own).cps.size, SignAt (txt t.own), St, rfl, W _ hh, Nat.le_trans hown (by decide), hst, ?_, ⟨?_, ?_⟩, ?_⟩
    · intro b hb
      show b < (h₆.push o).objs.size
      rw [Heap.size_push, List.mem_singleton.mp hb]
      exact Nat.lt_succ_self _
    · intro C i v s₃ m₃ E' hC hP hn hm hk' htk'
      exact wpAny_pure ⟨rfl, _, _, rfl, fun _ _ e => e⟩
    · intro C i v s₃ m₃ E' hC hP _ hn hm hk' htk'
      have hkp : ∀ b o, h₆.get? b = some o → s₃.heap.get? b = some o := fun b o' e => hk' b o' (old_not_new e) (Heap.get?_push_of_some _ e)
      obtain ⟨c, u, hc, rfl⟩ := hP
      walk1
      walk1
      refine wpAny_Name (wpAny_loadName_cell rfl rfl rfl ⟨n1, hkp _ _ (N₆ _ (.tail _ (.head _))).1, d1⟩ ?_) rfl
      have hdk : s₃.heap.get? dk = some ok := hkp _ _ (N₆ _ (.tail _ (.tail _ (.head _)))).1
      obtain ⟨kvs, hdo, htab⟩ := D
      have hmp : s₃.heap.MapOf (PySem.strKind PR w) dk (valueAt kvs) := (Heap.dictOf_iff.mpr ⟨ok, hdk, hdo⟩).mapOf
      refine getMethod_builtin hmp.typeIs PySem.F.plainAttrs_dict PySem.F.slot_dict_get PySem.F.type_dict_get hmp.noDict ?_
      walk1
      walk1
      refine wpAny_Name (wpAny_loadName_local rfl rfl hn hm ?_) rfl
      walk1
      refine wpAny_Name (wpAny_loadName_local rfl rfl hn hm ?_) rfl
      walk1
      refine call_meetsIn PySem.F.slot_dict_get hmp.typeIs PySem.F.entry_dict_get (PySem.F.args_dict_get_3 _ _ _) (meets_dict_get_default (PySem.strKind PR w) dk (strKind_is PR w _ u) hlk _) ⟨_, hmp, ?_⟩
      have hcin : c ∈ ownChars := Its.own_in hsm.1 c (by
        have e := List.mem_of_getElem? (l := t.own) (i := i) (a := c) (by simpa [txt] using hc)
        exact e)
      refine ⟨?_, _, _, rfl, fun _ _ e => e⟩
      intro c' u' e
      cases e
      rcases htab c hcin with ⟨tk, e⟩ | ⟨e, e'⟩
      · exact ⟨tk, by rw [show (⟨#[c]⟩ : Str) = txt [c] from rfl, e]; rfl⟩
      · exact ⟨u, by rw [show (⟨#[c]⟩ : Str) = txt [c] from rfl, e, e']; rfl⟩
    · intro D' h' tk ys' vs hnew hlD hplD hlen hP hF hk' ht'
      walk1
      have hft : vs.filter (fun _ => true) = vs := List.filter_eq_self.mpr fun _ _ => rfl
      have hys := own_paired (k := k) (l := t.own) hF (by rw [hft]; simpa [txt] using hlen) (by rw [hft]; intro j v e; obtain ⟨c, u, h1, h2⟩ := hP j v e; exact ⟨c, u, by simpa [txt] using h1, h2⟩)
      refine wpAny_with_toks (n := 1) ht' (join_list hlD hys ?_ (fun t7 tk7 h7 => ?_))
      · have := esc_sum k t.own
        have e : t.own.length ≤ 50 := by rw [← len_txt]; exact hown
        rw [show (Str.ofString "").length = 0 from by decide +kernel]; omega
      have hj2 : Txt.join (Str.ofString "") (t.own.map fun c => txt (esc k c)) = txt (escL k t.own) := by
        rw [eq_of_beq (join_closes (sep := Str.ofString "") (ys := _) rfl)]
        refine str_ext ?_
        rw [lst_join, show lst (Str.ofString "") = [] from by decide +kernel, join_empty, List.map_map]
        show _ = t.own.flatMap (esc k)
        rw [List.flatMap_def]
        rfl
      rw [hj2]
      exact h _ _ _ (fun b o' e => hk' b o' (old_not_new (F₆.keep _ _ e)) (Heap.get?_push_of_some _ (F₆.keep _ _ e))) h7
end Mine

end T_W9
section T_W10
set_option autoImplicit false
set_option linter.all false
open PySem PySem.W PyProof.Rows PySem.Calls
set_option Elab.async false
set_option maxRecDepth 100000
set_option maxHeartbeats 8000000
namespace Mine
theorem off_W10 : True := by w_top off; trivial
section
variable {M : Model} {A : Around} {R : GenEnd} {Y : Protocol} {n : Nat} {s₀ : Shared} {c : Code} {fs : List Frame} {s : Shared} {env : Env}
  {K : Flow → Sem Fin} {H : Value → Sem Fin} {gd : Bool → Bool} {lv : List Value → List Value}

theorem seg_noE {α : Type} {m : Sem α} {K : α → Sem Fin} {H : Value → Sem Fin} {gd lv}
    (h : wpAny M (A.over c fs) m (fun a s' => Seg M A R Y n s₀ c (K a) fs s') NoE s) :
    Seg M A R Y n s₀ c (m.wrap K H gd lv) fs s := seg_wrap (wp_noE h)

theorem segb_noE {α β : Type} {m : Sem α} {K : α → Sem β} {K' : β → Sem Fin} {H' : Value → Sem Fin} {gd lv}
    (h : wpAny M (A.over c fs) m (fun a s' => Seg M A R Y n s₀ c ((K a).wrap K' H' gd lv) fs s') NoE s) : Seg M A R Y n s₀ c ((m >>= K).wrap K' H' gd lv) fs s :=
  seg_bind_wrap (wp_noE h)

theorem seg_If {test : Expr} {body orelse : List Stmt} {pos : Pos}
    (h : wpAny M (A.over c fs) (isTrue test env (eval test env)) (fun b s' => if b = true then Seg M A R Y n s₀ c ((execs body env).wrap K H gd lv) fs s' else Seg M A R Y n s₀ c ((execs orelse env).wrap K H gd lv) fs s') NoE s) :
    Seg M A R Y n s₀ c ((exec (.If test body orelse pos) env).wrap K H gd lv) fs s := by
  rw [exec_If]
  refine segb_noE (wpAny_standAt (segb_noE (wpAny_mono h (fun b s' hb => ?_) fun _ _ e => e)))
  cases b <;> exact hb

theorem seg_For {target iter : Expr} {body : List Stmt} {pos : Pos}
    (h : wpAny M (A.over c fs) (eval iter env) (fun x s₁ => wpAny M (A.over c fs) (pyIter x) (fun it s₂ => ∀ p, Seg M A R Y n s₀ (.forLoop target it body [] env) (M.den (.forLoop target it body [] env))
      (.ret (fun r => ((match r with | .ok f => (.pure f : Sem Flow) | .error e => .raise e).onRaise fun (x : Value) => do
        if (← field x 1) == Value.none then unsupported "frame.own-activation:exception-without-traceback"
        setFlight x env.frame).wrap K H gd lv) none (gd false) (lv []) c p [] :: fs) s₂) NoE s₁) NoE s)
    (hs : ∀ x, foldedSetIterable iter env x = pure x) :
    Seg M A R Y n s₀ c ((exec (.For target iter body [] pos) env).wrap K H gd lv) fs s := by
  rw [exec_For]
  refine segb_noE (wpAny_standAt (segb_noE (wpAny_mono h (fun x s₁ h₁ => ?_) fun _ _ e => e)))
  refine segb_noE (wpAny_of_eq (hs x) (segb_noE (wpAny_standAt (segb_noE (wpAny_holding (wpAny_mono h₁ (fun it s₂ h₂ => ?_) fun _ _ e => e))))))
  exact seg_call h₂

theorem seg_ind {C : Code} (J : Nat → Nat → Shared → Shared → Prop)
    (turn : ∀ k n s₀ s, J k n s₀ s → (∀ k' n' s₀' s', k' < k → J k' n' s₀' s' → Seg M A R Y n' s₀' C (M.den C) fs s') → Seg M A R Y n s₀ C (M.den C) fs s)
    (k n : Nat) (s₀ s : Shared) (h : J k n s₀ s) : Seg M A R Y n s₀ C (M.den C) fs s := by
  induction k using Nat.strongRecOn generalizing n s₀ s with
  | _ k ih => exact turn k n s₀ s h fun k' n' s₀' s' hk hj => ih k' hk n' s₀' s' hj
end
section
variable {prog : Program} {w : World} {A : Around} {R : GenEnd} {Y : Protocol} {n : Nat} {s₀ : Shared} {fs : List Frame} {s : Shared} {env : Env}
theorem seg_forLoop {target : Expr} {it : Value} {body : List Stmt}
    (h : wpAny (model prog w) (A.over (.forLoop target it body [] env) fs) (pyNext it) (fun r s₁ => match r with
        | none => Seg (model prog w) A R Y n s₀ (.block [] env) (leafOf (.ok .next)) fs s₁
        | some v => wpAny (model prog w) (A.over (.forLoop target it body [] env) fs) (letOwnedTupleGo target it v) (fun _ s₂ => wpAny (model prog w) (A.over (.forLoop target it body [] env) fs) (assign target env v) (fun _ s₃ =>
            ∀ H', Seg (model prog w) A R Y n s₀ (.forLoop target it body [] env) ((execs body env).wrap (fun f => match f with
              | .next | .cont => .pure (.again (.forLoop target it body [] env))
              | .brk => .pure (.done .next)
              | .ret v => .pure (.done (.ret v))) H' id id) fs s₃) NoE s₂) NoE s₁) NoE s) :
    Seg (model prog w) A R Y n s₀ (.forLoop target it body [] env) ((model prog w).den (.forLoop target it body [] env)) fs s := by
  show Seg _ A R Y n s₀ _ ((forTurn target it body [] env).onRaise (fun x => do noteFrame x env; theTreesLotGoes x)) fs s
  unfold forTurn
  rw [Sem.onRaise_eq_wrap]
  refine segb_noE (wpAny_standAt (segb_noE (wpAny_onRaise (wpAny_mono h (fun r s₁ h₁ => ?_) fun _ _ e => e.elim))))
  cases r with
  | none => exact seg_again rfl h₁
  | some v =>
    dsimp only
    refine segb_noE (wpAny_mono h₁ (fun _ s₂ h₂ => segb_noE (wpAny_mono h₂ (fun _ s₃ h₃ => ?_) fun _ _ e => e)) fun _ _ e => e)
    rw [Sem.bind_eq_wrap', Sem.wrap_wrap]
    rw [Sem.wrap_congr (execs body env) _ _ (K' := fun f => match f with
            | .next | .cont => .pure (.again (.forLoop target it body [] env))
            | .brk => .pure (.done .next)
            | .ret v => .pure (.done (.ret v))) (H' := _) (fun f => by cases f <;> rfl) (fun e => rfl)]
    exact h₃ _
end
section
variable {prog : Program} {w : World} {A : Around} {E : Value → Shared → Prop} {s : Shared}
theorem next_genQ {a : Addr} {g n : Nat} {gs : GenState} {P : Nat → Shared → Shared → Prop} {Y : Protocol} {Q : Option Value → Shared → Prop} (hh : A.handled = none)
    (hl : s.heap.NoLimit) (hroom : A.depth < recursionLimit)
    (hg : s.heap.IsGen a g) (hgs : s.gens[g]? = some gs)
    (hgo : gs.Goes (model prog w) A.in1 (fun n s₀ r s₁ => r = .ok (.ret .none) ∧ P n s₀ s₁) Y n (.send .none) (s.setGen g .running))
    (hY : ∀ v s₁ gs', gs'.bare = true → Y (n - 1) (s.setGen g .running) v s₁ (fun r' s'' => match n with
        | 0 => False
        | m + 1 => gs'.Goes (model prog w) A.in1 (fun n s₀ r s₁ => r = .ok (.ret .none) ∧ P n s₀ s₁) Y m r' s'') → Q (some v) (s₁.setGen g gs'))
    (hP : ∀ s₁, P n (s.setGen g .running) s₁ → ∀ h', (∀ b o, s₁.heap.get? b = some o → h'.get? b = some o) → Q none { s₁.setGen g .finished with heap := h' }) :
    wpAny (model prog w) A (pyNext (.ref a)) Q E s := by
  unfold pyNext
  refine wpAny_bind (wpAny_attempt (wpAny_callSpecial?_slot (name := Str.ofString "__next__") hg.typeIs slot_gen_next
    (wpAny_call_entry slot_gen_next hg.typeIs entry_gen_next ?_ (args_gen_next _))))
  show wpAny _ A.in1 (Builtin.Generator.genWake (.ref a) (.send .none)) _ _ s
  unfold Builtin.Generator.genWake
  refine wpAny_bind (wpAny_holding (wpAny_genNumber hg (wpAny_bind (wpAny_genState hgs ?_))))
  cases gs with
  | running => exact hgo.elim
  | finished => exact hgo.elim
  | _ =>
    refine wpAny_bind (wpAny_roomToWake hl hroom ?_)
    show wpAny _ A.in1 (.resume g (.send .none) [] _) _ _ s
    refine wpAny_resumeQ hgs hgo (fun x s₁ hx => ?_) (fun v s₁ gs' hb hv => ?_)
    · obtain ⟨rfl, hp⟩ := hx
      show wpAny _ A.in1 (newExc (.type "StopIteration") [] >>= _) _ _ _
      refine wpAny_bind ?_
      simp only [newExc, newTuple]
      refine wpAny_bind (wpAny_newObj_type ?_ (by size_fits))
      refine wpAny_bind (m := firstArgMember _ _) (wpAny_of_eq (a := Value.none) (by first | rfl | (simp only [firstArgMember]; rfl)) ?_)
      refine wpAny_newObj_type ?_ (by size_fits)
      simp only [raiseNew]
      refine wpAny_bind (wpAny_bind (wpAny_handled ?_))
      first | rw [show A.in1.handled = none from hh] | rw [hh]
      refine wpAny_throw ?_
      refine wpAny_bind (wpAny_isInstance (T := "StopIteration") (b := true) ⟨_, Heap.get?_push_size _ rfl, rfl⟩ isSubtype_stop ?_)
      exact wpAny_pure (hP s₁ hp _ fun b o hb => Heap.get?_push_of_some _ (Heap.get?_push_of_some _ hb))
    · exact wpAny_pure ⟨v, rfl, wpAny_pure (hY v s₁ gs' hb hv)⟩
end

/-- what the generator may have changed: its own names (L), and what is from B on -/
def Since (L B : Nat) (s₀ s : Shared) : Prop := ∃ h' tk, s = { s₀ with heap := h', toks := tk } ∧ ∀ b o, b ≠ L → b < B → s₀.heap.get? b = some o → h'.get? b = some o
/-- what the reader of it must leave -/
def Left (g : Heap) (L B : Nat) (h h' : Heap) : Prop := (∀ b o, L ≤ b → h.get? b = some o → h'.get? b = some o) ∧ ∀ b o, g.get? b = some o → h'.get? b = some o
def Gives (h : Heap) (v : Value) (p : Nat × List Nat) : Prop := ∃ T t1 t2, v = .ref T ∧ h.IsTuple T #[.int p.1 t1, .str (txt p.2) t2]
abbrev RR (L B : Nat) : GenEnd := fun n s₀ r s₁ => r = .ok (.ret .none) ∧ (n = 0 ∧ Since L B s₀ s₁)
abbrev YY (g : Heap) (L B : Nat) (tot : List (Nat × List Nat)) : Protocol := fun m s₀ v s kap =>
  (∃ p, tot[tot.length - 1 - m]? = some p ∧ Gives s.heap v p) ∧ Since L B s₀ s ∧ ∀ s'' : Shared, Left g L B s.heap s''.heap → kap (.send .none) s''
def GAt (w : World) (A : Around) (g : Heap) (L B a gno : Nat) (tot : List (Nat × List Nat)) (j : Nat) (s : Shared) : Prop :=
  s.heap.IsGen a gno ∧ ∃ gs, s.gens[gno]? = some gs ∧ gs.bare = true ∧ ∀ s'' : Shared, Left g L B s.heap s''.heap →
    gs.Goes (model PR w) A.in1 (RR L B) (YY g L B tot) (tot.length - j) (.send .none) s''
theorem Left.refl {g h : Heap} {L B : Nat} (hg : ∀ b o, g.get? b = some o → h.get? b = some o) : Left g L B h h := ⟨fun _ _ _ e => e, hg⟩

theorem GAt.next {w : World} {A : Around} {E : Value → Shared → Prop} {s : Shared} {g : Heap} {L B a gno : Nat} {tot : List (Nat × List Nat)} {j : Nat} {Q : Option Value → Shared → Prop} (x : GAt w A g L B a gno tot j s)
    (hh : A.handled = none) (G : Gd w g) (hg : ∀ b o, g.get? b = some o → s.heap.get? b = some o) (hgL : g.objs.size ≤ L) (hgB : g.objs.size ≤ B) (haL : a ≠ L) (haB : a < B) (hroom : A.depth < recursionLimit) (hj : j ≤ tot.length)
    (hb : ∀ y ∈ s.gens, y.bare = true)
    (hQ : ∀ v p h' tk gens', tot[j]? = some p → Gives h' v p → (∀ b o, b ≠ L → b < B → s.heap.get? b = some o → h'.get? b = some o) → (∀ y ∈ gens', y.bare = true) → GAt w A g L B a gno tot (j + 1) { s with heap := h', toks := tk, gens := gens' } → Q (some v) { s with heap := h', toks := tk, gens := gens' })
    (hD : j = tot.length → ∀ h' tk gens', (∀ b o, b ≠ L → b < B → s.heap.get? b = some o → h'.get? b = some o) → (∀ y ∈ gens', y.bare = true) → Q none { s with heap := h', toks := tk, gens := gens' }) :
    wpAny (model PR w) A (pyNext (.ref a)) Q E s := by
  obtain ⟨hgen, gs, hgs, hbare, hgo⟩ := x
  obtain ⟨mean, mg, mb, T⟩ := G.T
  have hbset : ∀ (q : GenState), q.bare = true → ∀ z : GenState, z.bare = true → ∀ y ∈ ((s.gens.setIfInBounds gno z).setIfInBounds gno q), y.bare = true := by
    intro q hq z hz y hy
    rcases Array.mem_or_eq_of_mem_setIfInBounds hy with hy | rfl
    · rcases Array.mem_or_eq_of_mem_setIfInBounds hy with hy | rfl
      · exact hb y hy
      · exact hz
    · exact hq
  refine next_genQ (P := fun n s₀ s₁ => n = 0 ∧ Since L B s₀ s₁) hh (T.nolimit.keeps hg) hroom hgen hgs (hgo _ (Left.refl hg)) (fun v s₁ gs' hb' hv => ?_) (fun s₁ hp h' hk => ?_)
  · obtain ⟨⟨p, hp, hG⟩, ⟨h₁, tk₁, rfl, hk₁⟩, hkap⟩ := hv
    have hlt : j < tot.length := by
      rcases Nat.lt_or_ge j tot.length with h | h
      · exact h
      · have e : tot.length - j = 0 := by omega
        rw [e] at hkap
        exact (hkap { s with heap := h₁ } (Left.refl fun b o e => hk₁ b o (Nat.ne_of_lt (Nat.lt_of_lt_of_le (Heap.lt_size e) hgL)) (Nat.lt_of_lt_of_le (Heap.lt_size e) hgB) (hg b o e))).elim
    obtain ⟨m, hm⟩ : ∃ m, tot.length - j = m + 1 := ⟨tot.length - j - 1, by omega⟩
    rw [hm] at hkap
    have hidx : tot.length - 1 - (tot.length - j - 1) = j := by omega
    rw [hidx] at hp
    refine hQ v p h₁ tk₁ _ hp hG hk₁ (hbset _ hb' _ rfl) ⟨let ⟨o, nm, qn, ho, r⟩ := hgen; ⟨o, nm, qn, hk₁ a o haL haB ho, r⟩, gs', setGen_self (gs := .running) (setGen_self hgs), hb', fun s'' hl => ?_⟩
    have e : tot.length - (j + 1) = m := by omega
    rw [e]
    exact hkap s'' hl
  · obtain ⟨h0, h₁, tk₁, rfl, hk₁⟩ := hp
    exact hD (by omega) h' tk₁ _ (fun b o h1 h2 e => hk b o (hk₁ b o h1 h2 e)) (hbset _ rfl _ rfl)
end Mine

end T_W10
section T_W11
set_option autoImplicit false
set_option linter.all false
open PySem PySem.W PyProof.Rows PySem.Calls
set_option Elab.async false
set_option maxRecDepth 100000
set_option maxHeartbeats 8000000
namespace Mine
theorem off_W11 : True := by w_top off; trivial
theorem fill11 (w : World) : Challenge.rw_nb0133_01.prog = Challenge.rw_nb0133_01.prog ∧ (hd.heap_39 w.params).length = (hd.heap_39 w.params).length := by
  k_fill
  exact ⟨rfl, rfl⟩
/-- what the generator gives for the signs from place i on -/
def scan : List Nat → Nat → Bool → List (Nat × List Nat)
  | [], _, _ => []
  | c :: l, i, true => (i, [92, c]) :: scan l (i + 1) false
  | c :: l, i, false => if c = 92 then scan l (i + 1) true else (i, [c]) :: scan l (i + 1) false
/-- does the text end behind a bare backslash? -/
def open92 : List Nat → Bool → Bool
  | [], e => e
  | _ :: l, true => open92 l false
  | c :: l, false => if c = 92 then open92 l true else open92 l false

theorem assignPair {w : World} {A : Around} {E : Value → Shared → Prop} {s : Shared} {env : Env} {x y : Str} {px py pt : Pos} {x1 : Nat} {T : Addr} {v1 v2 : Value} {m : Str → Option Value} {Q : Unit → Shared → Prop}
    (hh : A.handled = none) (ht : s.heap.IsTuple T #[v1, v2]) (hx : env.kindOf x = some .local) (hy : env.kindOf y = some .local) (hp : (env.scope.kind == .class || (env.scope.kind == .module && env.locals != env.globals)) = false)
    (hn : s.heap.Ns env.locals m)
    (h : ∀ h' tk, h'.Ns env.locals (fun z => if z = y then some v2 else if z = x then some v1 else m z) → (∀ b o, b ≠ env.locals → s.heap.get? b = some o → h'.get? b = some o) → Q () { s with heap := h', toks := tk }) :
    wpAny (model PR w) A (assign (.Tuple [.Name x px, .Name y py] x1 pt) env (.ref T)) Q E s := by
  refine wpAny_assign_Tuple hh ht rfl rfl fun h₃ hx₃ => ?_
  have old₃ : ∀ b o, s.heap.get? b = some o → h₃.get? b = some o := fun b o e => hx₃ b o (Nat.ne_of_lt (Heap.lt_size e)) e
  show wpAny _ A (do holding [v2] (assign (.Name x px) env v1); do holding [] (assign (.Name y py) env v2); pure ()) _ _ _
  refine wpAny_bind (wpAny_holding (wpAny_assign_Name (wpAny_storeName_local hx (hn.keeps old₃) (fun h₄ hn₄ hs₄ => ?_) hp)))
  refine wpAny_bind (wpAny_holding (wpAny_assign_Name (wpAny_storeName_local hy hn₄ (fun h₅ hn₅ hs₅ => wpAny_pure ?_) hp)))
  exact h _ _ hn₅ fun b o hb e => hs₅.extBut b o hb (hs₄.extBut b o hb (old₃ b o e))

theorem enterG {w : World} {A : Around} {s : Shared} {R : Result → Shared → Prop} {g : Heap}
    {name qual : Str} {params : Arguments} {body : List Stmt} {scope : Scope} {dV kV doc pm cdv ct oc : Value} {an od : Option Addr} {osl : Array (Option Value)} {f : Addr} {args : Args} {binds : List (Str × Value)}
    (G : Gd w g) (hg : ∀ b o, g.get? b = some o → s.heap.get? b = some o) (hgs : g.objs.size ≤ s.heap.objs.size)
    (ho : (hd.heap_39 w.params).lookup f = some ⟨oc, od, .func (fnOf name qual params body scope dV kV doc pm an cdv ct), osl⟩) (hcd : codeIn (hd.heap_39 w.params) cdv qual = true) (hroom : A.depth < recursionLimit)
    (hbind : BindsTo s (fnOf name qual params body scope dV kV doc pm an cdv ct) args binds) (hloc : ∀ y ∈ binds, scope.names.lookup y.1 = some .local)
    (h : ∀ (L : Nat) (h₁ : Heap) (t1 t2 : Tok) tk, L = s.heap.objs.size → Fr g L h₁ (fun y => binds.reverse.lookup y) → (∀ b o, s.heap.get? b = some o → h₁.get? b = some o) → h₁.objs.size = L + 1 →
      R (.ok (.ret (.ref (L + 1)))) { s with heap := h₁.push { cls := .type "generator", data := .fields #[.int s.gens.size 0, .str name t1, .str qual t2] }, gens := s.gens.push (.fresh (.func body (envOf qual scope L f cdv))), toks := tk })
    (hcell : ∀ x ∈ scope.names, x.2 ≠ .cell) (hco : scope.isCoroutine = false) (hgen : scope.isGenerator = true) (hk : scope.kind = .function) : codeAny (model PR w) A (.call (.ref f) args) R s := by
  obtain ⟨mean, mg, mb, T⟩ := G.T
  refine codeAny_call_generator (fd := fnOf name qual params body scope dV kV doc pm an cdv ct) (body := body) hroom (hg _ _ (G.K _ _ ho)) rfl hco hgen rfl (codeRec_of (G.K.keeps hg) hcd) (hbind _ _ _ _ ?_)
  refine wpAny_newFunctionEnv hcell hloc (fun h₁ hns hs => ?_) hk
  have hk₁ : ∀ b o, s.heap.get? b = some o → h₁.get? b = some o := fun b o e => hs.extBut b o (Nat.ne_of_lt (Heap.lt_size e)) (Heap.get?_push_of_some _ e)
  have hsz : h₁.objs.size = s.heap.objs.size + 1 := hs.1.trans (Heap.size_push ..)
  refine ⟨(T.nolimit.keeps hg).keeps hk₁, ?_⟩
  have := h s.heap.objs.size h₁ (s.toks + binds.length) (s.toks + binds.length + 1) (s.toks + binds.length + 1 + 1) rfl ⟨hns, fun b o e => hk₁ b o (hg b o e), hgs⟩ hk₁ hsz
  dsimp only
  rw [hsz]
  exact this

def cut (L : Nat) (h : Heap) : Heap := { h with objs := h.objs.extract 0 L }
theorem cut_size {L : Nat} {h : Heap} : (cut L h).objs.size ≤ L := by
  show (h.objs.extract 0 L).size ≤ L
  rw [Array.size_extract]; omega
theorem cut_get {L b : Nat} {h : Heap} {o : Obj} : (cut L h).get? b = some o ↔ b < L ∧ h.get? b = some o := by
  have e : (cut L h).objs[b]? = if b < L then h.objs[b]? else none := by
    show (h.objs.extract 0 L)[b]? = _
    rw [Array.getElem?_extract]
    by_cases c : b < L
    · by_cases d : b < h.objs.size
      · simp [c, d]; omega
      · rw [if_pos c, if_neg (by omega), Array.getElem?_eq_none (by (exact (Nat.le_of_not_lt d)))]
    · rw [if_neg c, if_neg (by omega)]
  unfold Heap.get?
  rw [e]
  by_cases c : b < L
  · simp [c]
  · simp [c]
theorem open_seg {w : World} {g h : Heap} {L : Nat} {m : Str → Option Value} (G : Gd w g) (hg : ∀ b o, g.get? b = some o → h.get? b = some o) (hgL : g.objs.size ≤ L) (hns : h.Ns L m) :
    ∃ g₂, Gd w g₂ ∧ Fr g₂ L h m ∧ ∀ h' m' news, Fr g₂ L h' m' → News g₂ L h' news → (∀ p ∈ led L [] h, p ∈ news) → ∀ b o, b ≠ L → h.get? b = some o → h'.get? b = some o := by
  refine ⟨cut L h, G.keeps fun b o e => cut_get.mpr ⟨Nat.lt_of_lt_of_le (Heap.lt_size e) hgL, hg b o e⟩, ⟨hns, fun b o e => (cut_get.mp e).2, cut_size⟩, ?_⟩
  intro h' m' news F N hs b o hb e
  by_cases c : b < L
  · exact F.keep b o (cut_get.mpr ⟨c, e⟩)
  · exact (N (b, o) (hs _ (mem_led.mpr ⟨Nat.lt_of_le_of_ne (Nat.not_lt.mp c) (Ne.symm hb), by simp, e⟩))).1
theorem enum_walk (w : World) (e it : Nat) (x : Str) (t : Tok) (hei : e ≠ it) {h : Heap} (he : IsEnum h e it 0 .none) (hit : h.IsStrIter it (strIterType x) x t 0) :
    ∃ (St : Nat → Heap → Prop) (Mid : Nat → Addr → Heap → Prop), St 0 h ∧ ∀ A' : Around, A'.handled = none → WalksT PR w A' e [e, it] [e, it] x.cps.size (fun i vals => ∃ t v, SignAt x i v ∧ vals = #[.int i t, v]) St Mid := by
  have hef : e ∉ [it] := fun hm => hei (List.mem_singleton.mp hm)
  cases ha : x.cps.all (· < 128)
  · have hit' : h.IsStrIter it "str_iterator" x t 0 := by simpa [strIterType, ha] using hit
    exact ⟨_, _, ⟨⟨_, he⟩, hit'⟩, fun A' hA => WalksT.enumerateD (Draws.strWide (A := A'.in1) hA it x t) e hei hef (by simp)⟩
  · have hit' : h.IsStrIter it "str_ascii_iterator" x t 0 := by simpa [strIterType, ha] using hit
    exact ⟨_, _, ⟨⟨_, he⟩, hit'⟩, fun A' hA => WalksT.enumerateD (Draws.strAscii (A := A'.in1) hA it x t) e hei hef (by simp)⟩
theorem scan_idx {tot pre r : List (Nat × List Nat)} {p : Nat × List Nat} (h : tot = pre ++ p :: r) : tot[tot.length - 1 - r.length]? = some p := by
  subst h
  rw [List.length_append, List.length_cons, List.getElem?_append_right (by omega)]
  have : pre.length + (r.length + 1) - 1 - r.length - pre.length = 0 := by omega
  rw [this]; rfl
theorem gen_code {w : World} {A : Around} {s : Shared} {R : Result → Shared → Prop} {g : Heap} {l : List Nat} {tk : Tok}
    (G : Gd w g) (hg : ∀ b o, g.get? b = some o → s.heap.get? b = some o) (hgs : g.objs.size ≤ s.heap.objs.size) (hroom : A.depth < recursionLimit) (hend : open92 l false = false)
    (h : ∀ L B a h' tk' gens', s.heap.objs.size ≤ L → L < a → a < B → (∀ b o, s.heap.get? b = some o → h'.get? b = some o) → (∀ y ∈ s.gens, y.bare = true) → (∀ y ∈ gens', y.bare = true) →
      (∀ A' : Around, A'.handled = none → GAt w A' g L B a s.gens.size (scan l 0 false) 0 { s with heap := h', toks := tk', gens := gens' }) → R (.ok (.ret (.ref a))) { s with heap := h', toks := tk', gens := gens' })
    (hb : ∀ y ∈ s.gens, y.bare = true) :
    codeAny (model PR w) A (.call (.ref 49) ⟨[.str (txt l) tk], []⟩) R s := by
  have X := G.K
  obtain ⟨mean, mg, mb, T⟩ := id G.T
  refine' enterG (binds := [(Str.ofString "addr", .str (txt l) tk)]) G hg hgs ?ho ?hcd (by (with_reducible assumption)) ?hb ?hl ?hbody ?h1 ?h2 ?h3 ?h4
  case ho => rfl
  case hcd => rfl
  case hb => exact BindsTo.of_eq rfl
  case hl => exact locs rfl
  case h1 => decide
  case h2 => rfl
  case h3 => rfl
  case h4 => rfl
  intro L h₁ t1 t2 tk₁ hL F hk hsz
  refine h L (L + 2) (L + 1) _ _ _ (Nat.le_of_eq hL.symm) (Nat.lt_succ_self _) (Nat.lt_succ_self _) (fun b o e => Heap.get?_push_of_some _ (hk b o e)) hb ?_ ?_
  · intro y hy
    rcases Array.mem_push.mp hy with hy | rfl
    · exact hb y hy
    · rfl
  intro A' hh
  refine ⟨⟨_, _, _, by have := Heap.get?_push_size h₁ (o := { cls := .type "generator", data := .fields #[.int s.gens.size 0, .str (Str.ofString "_iter_escaped_chars") t1, .str (Str.ofString "_iter_escaped_chars") t2] }) rfl; rw [hsz] at this; exact this, rfl, rfl, rfl⟩, _, Array.getElem?_push_size, rfl, ?_⟩
  intro s₂ hleft
  refine ⟨rfl, seg_func ?_⟩
  have F₂ : Fr g L s₂.heap (fun y => [(Str.ofString "addr", Value.str (txt l) tk)].reverse.lookup y) := ⟨F.ns.at' fun o e => hleft.1 L o (Nat.le_refl _) (Heap.get?_push_of_some _ e), hleft.2, F.above⟩
  obtain ⟨g₂, G₂, F₃, hup⟩ := open_seg G hleft.2 F₂.above F₂.ns
  clear F₂ F
  clear X T
  have X := G₂.K
  obtain ⟨mean, mg, mb, T⟩ := id G₂.T
  have N₃ := news_led F₃ []
  have hA : A'.in1.handled = none := hh
  refine seg_execs_cons (seg_noE ?_)
  walk_at "go"
  dsimp only
  rename Fr _ _ _ _ => F₄
  rename News _ _ _ _ => N₄
  refine seg_execs_cons (seg_noE ?_)
  walk_at "go"
  dsimp only
  rename Fr _ _ _ _ => F₅
  rename News _ _ _ _ => N₅
  rename Heap => h₅
  refine seg_execs_cons (seg_For ?_ (fun _ => rfl))
  walk_at "go"
  refine call_enumerate_str fun h₆ he hit hsz₆ hk₆ => ?_
  refine wpAny_pyIter_enum he ?_
  dsimp only at he hit hsz₆ hk₆
  have hgen : s₂.heap.get? (L + 1) = some _ := hleft.1 (L + 1) _ (Nat.le_succ _) (by have := Heap.get?_push_size h₁ (o := { cls := .type "generator", data := .fields #[.int s.gens.size 0, .str (Str.ofString "_iter_escaped_chars") t1, .str (Str.ofString "_iter_escaped_chars") t2] }) rfl; rw [hsz] at this; exact this)
  have hgs2 : g.objs.size ≤ L := by (exact (Nat.le_trans hgs (Nat.le_of_eq (Eq.symm hL))))
  have hkg : ∀ b o, g.get? b = some o → h₆.get? b = some o := fun b o e => hk₆ _ _ (hup _ _ _ F₅ N₅ (fun _ q => q) _ _ (Nat.ne_of_lt (Nat.lt_of_lt_of_le (Heap.lt_size e) hgs2)) (hleft.2 _ _ e))
  have hkp6 : ∀ b o, b ≠ L → s₂.heap.get? b = some o → h₆.get? b = some o := fun b o hb e => hk₆ _ _ (hup _ _ _ F₅ N₅ (fun _ q => q) _ _ hb e)
  have hns := F₅.ns.keeps hk₆
  have hbig : (L + 2 : Nat) ≤ h₅.objs.size := Heap.lt_size (hup _ _ _ F₅ N₅ (fun _ q => q) _ _ (Nat.succ_ne_self _) hgen)
  clear hup F₅ N₅ X T G₂ hk₆ hgen hleft
  obtain ⟨St, Mid, hst, W⟩ := enum_walk w _ _ (txt l) tk (Nat.succ_ne_self _) he hit
  intro p
  generalize h₅.objs.size = it at W hbig ⊢
  clear he hit hsz₆
  refine seg_ind (fun k n s₀ s => ∃ i e m, i ≤ l.length ∧ k = l.length - i ∧ (∃ pre, scan l 0 false = pre ++ scan (l.drop i) i e) ∧ n = (scan (l.drop i) i e).length ∧ open92 (l.drop i) e = false ∧ s.heap.Ns L m ∧ m (Str.ofString "escape") = some (.bool e) ∧
    (∀ b o, g.get? b = some o → s.heap.get? b = some o) ∧ St i s.heap ∧ Since L (L + 2) s₀ s) ?_ l.length _ _ _ ⟨0, false, _, Nat.zero_le _, rfl, ⟨[], rfl⟩, rfl, hend, hns, rfl, hkg, hst, _, _, rfl, fun b o hb _ e => hkp6 b o hb e⟩
  rintro k n s₀ s ⟨i, e, m, hi, rfl, ⟨pre, hpre⟩, rfl, hop, hn, hme, hkg, hst, hsin⟩ ih
  refine seg_forLoop ?_
  have hfar : ∀ b, b ∈ [it + 1, it] → b ≠ L := fun b hb q => by
    rcases List.mem_cons.mp hb with e | hb
    · omega
    · have := List.mem_singleton.mp hb; omega
  have hsmall : ∀ b : Nat, b < L + 2 → b ∉ [it + 1, it] := fun b hb2 q => by
    rcases List.mem_cons.mp q with e | q
    · omega
    · have := List.mem_singleton.mp q; omega
  by_cases hlt : i < l.length
  · refine (W _ (by exact hh)).item i s _ _ (by simpa [txt] using hlt) hst fun T vals h1 tk1 hPt hT htup hmid hk1 => ?_
    obtain ⟨t1, v, ⟨c, u, hc, rfl⟩, rfl⟩ := hPt
    have hTw := (W _ hh).apart i T _ hmid
    refine (W _ (by exact hh)).go _ _ _ i T _ _ _ hmid fun h2 hst2 hk2 => ?_
    have hL2 : L ∉ [it + 1, it] := fun q => hfar L q rfl
    refine assignPair (by exact hh) (htup.at fun o e => hk2 T o hTw e) rfl rfl rfl ((hn.at' fun o e => hk1 L o hL2 e).at' fun o e => hk2 L o hL2 e) fun h3 tk3 hn3 hk3 => ?_
    intro H'
    have hst3 : St (i + 1) h3 := (W _ hh).frame _ _ _ hst2 fun b hb o e => hk3 b o (hfar b hb) e
    have kp3 : ∀ b o, b ≠ L → b < L + 2 → s.heap.get? b = some o → h3.get? b = some o := fun b o hb hb2 e => by
      have hbw : b ∉ [it + 1, it] := fun q => by
        rcases List.mem_cons.mp q with e | q
        · omega
        · have := List.mem_singleton.mp q; omega
      exact hk3 b o hb (hk2 b o hbw (hk1 b o hbw e))
    have hkg3 : ∀ b o, g.get? b = some o → h3.get? b = some o := fun b o e => kp3 b o (Nat.ne_of_lt (Nat.lt_of_lt_of_le (Heap.lt_size e) hgs2)) (Nat.lt_of_lt_of_le (Heap.lt_size e) (Nat.le_trans hgs2 (Nat.le_add_right _ _))) (hkg b o e)
    have hdr : l.drop i = c :: l.drop (i + 1) := by
      have hc' : l[i]? = some c := by simpa [txt] using hc
      rw [List.drop_eq_getElem_cons hlt, (List.getElem?_eq_some_iff.mp hc').2]
    rw [hdr] at hpre hop ⊢
    obtain ⟨g₂, G₂, F, hup⟩ := open_seg G hkg3 hgs2 hn3
    have X := G₂.K
    obtain ⟨mean, mg, mb, T⟩ := id G₂.T
    clear hst hst2 hmid hk1 hk2 htup hTw hT
    dsimp only at hk3 ⊢
    cases e with
    | true =>
      replace F := Fr_pin (x := Str.ofString "escape") F (show _ = some (Value.bool true) from hme)
      have N := news_led F []
      rw [scan] at hpre
      rw [open92] at hop
      refine seg_execs_cons (seg_If ?_)
      walk_at "go"
      refine seg_execs_cons (seg_Expr_Yield rfl rfl rfl ?_)
      walk_at "go"
      rw [show Str.ofString "\\" ++ (⟨#[c]⟩ : Str) = txt [92, c] from by rw [show Str.ofString "\\" = ⟨#[92]⟩ from by decide +kernel]; rfl]
      refine newTuple_N F N ?_
      intro h4 F4 N4 kap hkap
      have k4 := hup _ _ _ F4 N4 (fun p hp => .tail _ hp)
      refine ⟨⟨(i, [92, c]), scan_idx hpre, _, _, _, rfl, _, (N4 _ (.head _)).1, rfl, _, rfl⟩, ?_, fun s'' hl => hkap .none s'' ?_⟩
      · obtain ⟨hh0, tk0, rfl, hk0⟩ := hsin
        exact ⟨_, _, rfl, fun b o hb hb2 e => k4 b o hb (kp3 b o hb hb2 (hk0 b o hb hb2 e))⟩
      have hn5 := F4.ns.at' fun o e => hl.1 L o (Nat.le_refl _) e
      have hst5 : St (i + 1) s''.heap := (W _ hh).frame _ _ _ hst3 fun b hb o e => hl.1 b o (by rcases List.mem_cons.mp hb with rfl | hb; omega; rw [List.mem_singleton.mp hb]; (exact (Nat.le_of_add_right_le hbig))) (k4 b o (hfar b hb) e)
      have hkg5 := hl.2
      clear F4 N4 k4 hup hn3 hk3 hst3 kp3 hkg3 X T G₂ hl hkap
      obtain ⟨g₅, G₅, F₅, hup⟩ := open_seg G hkg5 hgs2 hn5
      have X := G₅.K
      obtain ⟨mean, mg, mb, T⟩ := id G₅.T
      have N₅ := news_led F₅ []
      dsimp only
      refine seg_execs_cons (seg_noE ?_)
      walk_at "go"
      dsimp only
      rename Fr _ _ _ _ => F₆
      rename News _ _ _ _ => N₆
      refine seg_execs_nil (seg_execs_nil ?_)
      have k6 := hup _ _ _ F₆ N₆ (fun p hp => hp)
      refine seg_again rfl (ih _ _ _ _ (by omega) ⟨i + 1, false, _, hlt, rfl, ⟨pre ++ [(i, [92, c])], by rw [hpre]; simp⟩, rfl, hop, F₆.ns, rfl, fun b o e => k6 b o (Nat.ne_of_lt (Nat.lt_of_lt_of_le (Heap.lt_size e) hgs2)) (hkg5 b o e), (W _ hh).frame _ _ _ hst5 fun b hb o e => k6 b o (hfar b hb) e, _, _, rfl, fun b o hb hb2 e => k6 b o hb e⟩)
    | false =>
      replace F := Fr_pin (x := Str.ofString "escape") F (show _ = some (Value.bool false) from hme)
      have N := news_led F []
      rw [scan] at hpre ⊢
      rw [open92] at hop
      refine seg_execs_cons (seg_If ?_)
      walk_at "go"
      refine seg_execs_cons (seg_If ?_)
      walk_at "go"
      · rename (_ == _) = true => hc9
        have hc92 : c = 92 := by
          have e := eq_of_beq hc9
          rw [show Str.ofString "\\" = ⟨#[92]⟩ from by decide +kernel] at e
          simpa using e
        rw [if_pos hc92] at hpre hop ⊢
        refine seg_execs_cons (seg_noE ?_)
        walk_at "go"
        dsimp only
        rename Fr _ _ _ _ => F₆
        rename News _ _ _ _ => N₆
        refine seg_execs_nil (seg_execs_nil (seg_execs_nil ?_))
        have k6 := hup _ _ _ F₆ N₆ (fun p hp => hp)
        refine seg_again rfl (ih _ _ _ _ (by omega) ⟨i + 1, true, _, hlt, rfl, ⟨pre, hpre⟩, rfl, hop, F₆.ns, rfl, fun b o e => k6 b o (Nat.ne_of_lt (Nat.lt_of_lt_of_le (Heap.lt_size e) hgs2)) (hkg3 b o e), (W _ hh).frame _ _ _ hst3 fun b hb o e => k6 b o (hfar b hb) e, ?_⟩)
        obtain ⟨hh0, tk0, rfl, hk0⟩ := hsin
        exact ⟨_, _, rfl, fun b o hb hb2 e => k6 b o hb (kp3 b o hb hb2 (hk0 b o hb hb2 e))⟩
      · rename (_ == _) = false => hc9
        have hc92 : ¬ c = 92 := by
          rintro rfl
          exact absurd (show (⟨#[92]⟩ == Str.ofString "\\") = true by decide +kernel) (by rw [hc9]; decide)
        rw [if_neg hc92] at hpre hop ⊢
        refine seg_execs_cons (seg_Expr_Yield rfl rfl rfl ?_)
        walk_at "go"
        refine newTuple_N F N ?_
        intro h4 F4 N4 kap hkap
        have k4 := hup _ _ _ F4 N4 (fun p hp => .tail _ hp)
        refine ⟨⟨(i, [c]), scan_idx hpre, _, _, _, rfl, _, (N4 _ (.head _)).1, rfl, _, rfl⟩, ?_, fun s'' hl => hkap .none s'' ?_⟩
        · obtain ⟨hh0, tk0, rfl, hk0⟩ := hsin
          exact ⟨_, _, rfl, fun b o hb hb2 e => k4 b o hb (kp3 b o hb hb2 (hk0 b o hb hb2 e))⟩
        have hn5 := F4.ns.at' fun o e => hl.1 L o (Nat.le_refl _) e
        have hst5 : St (i + 1) s''.heap := (W _ hh).frame _ _ _ hst3 fun b hb o e => hl.1 b o (by rcases List.mem_cons.mp hb with rfl | hb; omega; rw [List.mem_singleton.mp hb]; (exact (Nat.le_of_add_right_le hbig))) (k4 b o (hfar b hb) e)
        dsimp only
        refine seg_execs_nil (seg_execs_nil (seg_execs_nil ?_))
        exact seg_again rfl (ih _ _ _ _ (by omega) ⟨i + 1, false, _, hlt, rfl, ⟨pre ++ [(i, [c])], by rw [hpre]; simp⟩, rfl, hop, hn5, rfl, hl.2, hst5, _, _, rfl, fun b o hb hb2 e => e⟩)
  · have hin : i = l.length := by omega
    refine (W _ (by exact hh)).done s _ _ (by simpa [txt, ← hin] using hst) fun h1 tk1 hk1 => ?_
    refine seg_leaf _ ?_
    have hd0 : l.drop i = [] := List.drop_eq_nil_of_le (by (exact (Nat.le_of_not_lt hlt)))
    rw [hd0] at hop ⊢
    rw [open92] at hop
    subst hop
    have hL2 : L ∉ [it + 1, it] := fun q => hfar L q rfl
    have kp1 : ∀ (b : Nat) o, b < L + 2 → s.heap.get? b = some o → h1.get? b = some o := fun b o hb2 e => hk1 b o (hsmall b hb2) e
    obtain ⟨g₅, G₅, F₅, hup⟩ := open_seg G (fun b o e => kp1 b o (Nat.lt_of_lt_of_le (Heap.lt_size e) (Nat.le_trans hgs2 (Nat.le_add_right _ _))) (hkg b o e)) hgs2 (hn.at' fun o e => hk1 L o hL2 e)
    have X := G₅.K
    obtain ⟨mean, mg, mb, T⟩ := id G₅.T
    replace F₅ := Fr_pin (x := Str.ofString "escape") F₅ hme
    have N₅ := news_led F₅ []
    show Seg _ _ _ _ _ _ _ ((execs _ _).wrap _ _ _ _) _ _
    refine seg_execs_cons (seg_If ?_)
    walk_at "go"
    refine seg_execs_nil ?_
    dsimp only
    refine seg_execs_nil ?_
    refine seg_end (.ok (.ret .none)) ⟨rfl, rfl, ?_⟩
    obtain ⟨hh0, tk0, rfl, hk0⟩ := hsin
    exact ⟨_, _, rfl, fun b o hb hb2 e => kp1 b o hb2 (hk0 b o hb hb2 e)⟩
end Mine

end T_W11
section T_Pl7
set_option autoImplicit false
set_option linter.all false
open PySem PySem.W PyProof.Rows PySem.Calls
set_option Elab.async false
namespace Mine
/-- the signs from place a to place b -/
def mid (l : List Nat) (a b : Nat) : List Nat := (l.drop a).take (b - a)
def stripGo (l : List Nat) : List (Nat × List Nat) → Nat → Option Nat → List (List Nat) → Nat × List (List Nat)
  | [], st, _, acc => (st, acc)
  | p :: r, st, none, acc => if p.2 = [34] then stripGo l r st (some p.1) acc else stripGo l r st none acc
  | p :: r, st, some q, acc => if p.2 = [34] then stripGo l r (p.1 + 1) none (if st = q then acc else acc ++ [mid l st q]) else stripGo l r st (some q) acc
def stripP (l : List Nat) : List Nat :=
  if 34 ∈ l then (stripGo l (scan l 0 false) 0 none []).2.flatten ++ l.drop (stripGo l (scan l 0 false) 0 none []).1 else l

theorem scan_bound : ∀ (l : List Nat) (i : Nat) (e : Bool), ∀ p ∈ scan l i e, i ≤ p.1 ∧ p.1 < i + l.length
  | [], _, _, p, h => by simp [scan] at h
  | c :: l, i, true, p, h => by
    rw [scan] at h
    rcases List.mem_cons.mp h with rfl | h
    · simp
    · have := scan_bound l (i + 1) false p h
      rw [List.length_cons]; omega
  | c :: l, i, false, p, h => by
    rw [scan] at h
    rw [List.length_cons]
    split at h
    · have := scan_bound l (i + 1) true p h
      omega
    · rcases List.mem_cons.mp h with rfl | h
      · simp
      · have := scan_bound l (i + 1) false p h
        omega
theorem scan_sorted : ∀ (l : List Nat) (i : Nat) (e : Bool), (scan l i e).Pairwise fun a b => a.1 < b.1
  | [], _, _ => .nil
  | c :: l, i, true => by
    rw [scan]
    exact .cons (fun p hp => by have := scan_bound l (i + 1) false p hp; show i < p.1; (exact (Nat.lt_of_succ_le (this).1))) (scan_sorted l (i + 1) false)
  | c :: l, i, false => by
    rw [scan]
    split
    · exact scan_sorted l (i + 1) true
    · exact .cons (fun p hp => by have := scan_bound l (i + 1) false p hp; show i < p.1; (exact (Nat.lt_of_succ_le (this).1))) (scan_sorted l (i + 1) false)
theorem scan_len : ∀ (l : List Nat) (i : Nat) (e : Bool), (scan l i e).length ≤ l.length
  | [], _, _ => Nat.le_refl _
  | c :: l, i, true => by rw [scan]; have := scan_len l (i + 1) false; simp; (with_reducible assumption)
  | c :: l, i, false => by
    rw [scan]
    split
    · have := scan_len l (i + 1) true; simp; (exact Nat.le_add_right_of_le this)
    · have := scan_len l (i + 1) false; simp; (with_reducible assumption)
theorem scan_append (r : List Nat) : ∀ (x : List Nat) (i : Nat) (e : Bool), open92 x e = false → scan (x ++ r) i e = scan x i e ++ scan r (i + x.length) false
  | [], i, e, h => by rw [open92] at h; subst h; simp [scan]
  | c :: x, i, true, h => by
    rw [open92] at h
    rw [List.cons_append, scan, scan, scan_append r x (i + 1) false h, List.cons_append, List.length_cons, show i + 1 + x.length = i + (x.length + 1) from by omega]
  | c :: x, i, false, h => by
    rw [open92] at h
    rw [List.cons_append, scan, scan]
    split
    · rename_i hc
      rw [if_pos hc] at h
      rw [scan_append r x (i + 1) true h, List.length_cons, show i + 1 + x.length = i + (x.length + 1) from by omega]
    · rename_i hc
      rw [if_neg hc] at h
      rw [scan_append r x (i + 1) false h, List.cons_append, List.length_cons, show i + 1 + x.length = i + (x.length + 1) from by omega]
theorem scan_no : ∀ (x : List Nat) (i : Nat) (e : Bool), 34 ∉ x → ∀ p ∈ scan x i e, p.2 ≠ [34]
  | [], _, _, _, p, h => by simp [scan] at h
  | c :: l, i, true, hx, p, h => by
    rw [scan] at h
    rcases List.mem_cons.mp h with rfl | h
    · simp
    · exact scan_no l (i + 1) false (fun q => hx (.tail _ q)) p h
  | c :: l, i, false, hx, p, h => by
    rw [scan] at h
    split at h
    · exact scan_no l (i + 1) true (fun q => hx (.tail _ q)) p h
    · rcases List.mem_cons.mp h with rfl | h
      · intro q
        have : c = 34 := by simpa using q
        exact hx (this ▸ .head _)
      · exact scan_no l (i + 1) false (fun q => hx (.tail _ q)) p h
theorem go_skip (l : List Nat) (r : List (Nat × List Nat)) (st : Nat) (op : Option Nat) (acc : List (List Nat)) : ∀ ps : List (Nat × List Nat), (∀ p ∈ ps, p.2 ≠ [34]) → stripGo l (ps ++ r) st op acc = stripGo l r st op acc
  | [], _ => rfl
  | p :: ps, h => by
    have ih := go_skip l r st op acc ps fun q hq => h q (.tail _ hq)
    have hp := h p (.head _)
    rw [List.cons_append]
    cases op with
    | none => rw [stripGo, if_neg hp, ih]
    | some q => rw [stripGo, if_neg hp, ih]
theorem open92_append (r : List Nat) : ∀ (x : List Nat) (e : Bool), open92 x e = false → open92 (x ++ r) e = open92 r false
  | [], e, h => by rw [open92] at h; subst h; rfl
  | c :: x, true, h => by rw [open92] at h; rw [List.cons_append, open92, open92_append r x false h]
  | c :: x, false, h => by
    rw [open92] at h
    rw [List.cons_append, open92]
    split
    · rename_i hc; rw [if_pos hc] at h; exact open92_append r x true h
    · rename_i hc; rw [if_neg hc] at h; exact open92_append r x false h
theorem open92_esc1 (k c : Nat) (r : List Nat) (e : Bool) : open92 (esc k c ++ r) e = open92 (c :: r) e := by
  unfold esc
  by_cases h1 : c = 38
  · subst h1; rw [if_pos rfl]; cases e <;> rfl
  rw [if_neg h1]
  by_cases h2 : c = 60 ∧ k ≠ 1
  · obtain ⟨h2, h2'⟩ := h2; subst h2; rw [if_pos ⟨rfl, h2'⟩]; cases e <;> rfl
  rw [if_neg h2]
  by_cases h3 : c = 62 ∧ (k = 0 ∨ k = 1)
  · obtain ⟨h2, h2'⟩ := h3; subst h2; rw [if_pos ⟨rfl, h2'⟩]; cases e <;> rfl
  rw [if_neg h3]
  by_cases h4 : c = 34
  · subst h4; rw [if_pos rfl]; cases e <;> rfl
  rw [if_neg h4]
  by_cases h5 : c = 13 ∧ k = 0
  · obtain ⟨h2, h2'⟩ := h5; subst h2; rw [if_pos ⟨rfl, h2'⟩]; cases e <;> rfl
  rw [if_neg h5]
  by_cases h6 : c = 10 ∧ k = 0
  · obtain ⟨h2, h2'⟩ := h6; subst h2; rw [if_pos ⟨rfl, h2'⟩]; cases e <;> rfl
  rw [if_neg h6]
  by_cases h7 : c = 9 ∧ k = 0
  · obtain ⟨h2, h2'⟩ := h7; subst h2; rw [if_pos ⟨rfl, h2'⟩]; cases e <;> rfl
  rw [if_neg h7]
  by_cases h8 : c = 9 ∧ k = 2
  · obtain ⟨h2, h2'⟩ := h8; subst h2; rw [if_pos ⟨rfl, h2'⟩]; cases e <;> rfl
  rw [if_neg h8]
  by_cases h9 : c = 10 ∧ k = 2
  · obtain ⟨h2, h2'⟩ := h9; subst h2; rw [if_pos ⟨rfl, h2'⟩]; cases e <;> rfl
  rw [if_neg h9]
  by_cases h10 : c = 13 ∧ k = 2
  · obtain ⟨h2, h2'⟩ := h10; subst h2; rw [if_pos ⟨rfl, h2'⟩]; cases e <;> rfl
  rw [if_neg h10]
  rfl
theorem open92_esc (k : Nat) : ∀ (l : List Nat) (e : Bool), open92 (escL k l) e = open92 l e
  | [], e => rfl
  | c :: l, e => by
    show open92 (esc k c ++ escL k l) e = _
    rw [open92_esc1]
    cases e with
    | true => rw [open92, open92, open92_esc k l]
    | false => rw [open92, open92, open92_esc k l, open92_esc k l]
theorem open92_piece {x : List Nat} (h : x ∈ pieces) : open92 x false = false := by
  have : ∀ x ∈ pieces, open92 x false = false := by decide
  exact this x h
theorem Its.open_row : ∀ {t : Its}, t.ok → ∀ k, open92 (t.row k) false = false
  | .nil, _, _ => rfl
  | .str x r, h, k => by
    rw [Its.row, open92_append _ _ _ (by rw [open92_esc]; exact open92_piece h.1)]
    exact open_row h.2 k
  | .sub j d r, h, k => by
    rw [Its.row, open92, if_neg (by decide), open92_append _ _ _ (by rw [open92_esc]; exact open_row h.2.1 j), open92, if_neg (by decide)]
    exact open_row h.2.2 k
theorem Its.open_own : ∀ {t : Its}, t.ok → ∀ k, open92 (escL k t.own) false = false
  | .nil, _, _ => rfl
  | .str x r, h, k => by
    rw [Its.own, open92_esc, open92_append _ _ _ (open92_piece h.1)]
    have := open_own h.2 k
    rwa [open92_esc] at this
  | .sub j d r, h, k => open_own (t := r) h.2.2 k
theorem esc34 (k c : Nat) : 34 ∉ esc k c := by
  unfold esc
  repeat' split
  all_goals first | decide | skip
  rename ¬ c = 34 => hq
  exact fun e => hq (List.mem_singleton.mp e).symm
theorem escL34 (k : Nat) : ∀ l : List Nat, 34 ∉ escL k l
  | [] => by simp
  | c :: l => by
    show 34 ∉ esc k c ++ escL k l
    rw [List.mem_append]
    rintro (h | h)
    · exact esc34 k c h
    · exact escL34 k l h
theorem mid_self (l : List Nat) (a : Nat) : mid l a a = [] := by simp [mid]
theorem mid_grow (pre x r : List Nat) (st : Nat) (h : st ≤ pre.length) : mid (pre ++ x ++ r) st (pre ++ x).length = mid (pre ++ x ++ r) st pre.length ++ x := by
  unfold mid
  have e1 : (pre ++ x ++ r).drop st = pre.drop st ++ (x ++ r) := by rw [List.append_assoc, List.drop_append_of_le_length h]
  rw [e1]
  have hl : (pre.drop st).length = pre.length - st := List.length_drop
  rw [List.take_append_of_le_length (i := pre.length - st) (by (exact (Nat.le_of_eq (Eq.symm hl)))), List.take_of_length_le (i := pre.length - st) (by (exact (Nat.le_of_eq hl))), ← List.append_assoc,
    List.take_append_of_le_length (by rw [List.length_append, List.length_append]; omega), List.take_of_length_le (by rw [List.length_append, List.length_append]; omega)]
/-- a row is stripped of what lies in quotation marks -/
theorem go_row (k : Nat) : ∀ (t : Its) (pre r l : List Nat) (st : Nat) (acc : List (List Nat)), t.ok → l = pre ++ t.row k ++ r → st ≤ pre.length →
    ∃ st' acc', stripGo l (scan (t.row k ++ r) pre.length false) st none acc = stripGo l (scan r (pre ++ t.row k).length false) st' none acc' ∧ st' ≤ (pre ++ t.row k).length ∧
      acc'.flatten ++ mid l st' (pre ++ t.row k).length = acc.flatten ++ mid l st pre.length ++ escL k t.own
  | .nil, pre, r, l, st, acc, _, hl, hst => ⟨st, acc, by simp [Its.row], by simpa [Its.row] using hst, by simp [Its.row, Its.own]⟩
  | .str x t, pre, r, l, st, acc, ho, hl, hst => by
    rw [Its.row] at hl ⊢
    have ho1 : open92 (escL k (lst x)) false = false := by rw [open92_esc]; exact open92_piece ho.1
    obtain ⟨st', acc', h1, h2, h3⟩ := go_row k t (pre ++ escL k (lst x)) r l st acc ho.2 (by rw [hl]; simp) (by rw [List.length_append]; omega)
    refine ⟨st', acc', ?_, ?_, ?_⟩
    · rw [List.append_assoc, scan_append _ _ _ _ ho1, go_skip _ _ _ _ _ _ (scan_no _ _ _ (escL34 k _)), ← List.length_append, h1]
      simp
    · rw [← List.append_assoc]; exact h2
    · rw [← List.append_assoc, h3, hl, ← List.append_assoc, List.append_assoc (pre ++ escL k (lst x)), mid_grow _ _ _ _ hst, Its.own]
      show _ = _ ++ (lst x ++ t.own).flatMap (esc k)
      rw [List.flatMap_append]
      simp
  | .sub j d t, pre, r, l, st, acc, ho, hl, hst => by
    rw [Its.row] at hl ⊢
    have ho1 : open92 (escL k (d.row j)) false = false := by rw [open92_esc]; exact Its.open_row ho.2.1 j
    obtain ⟨st', acc', h1, h2, h3⟩ := go_row k t (pre ++ 34 :: (escL k (d.row j) ++ [34])) r l (pre ++ 34 :: (escL k (d.row j) ++ [34])).length (if st = pre.length then acc else acc ++ [mid l st pre.length]) ho.2.2 (by rw [hl]; simp) (Nat.le_refl _)
    refine ⟨st', acc', ?_, ?_, ?_⟩
    · rw [List.cons_append, scan, if_neg (by decide), stripGo, if_pos rfl, List.append_assoc, scan_append _ _ _ _ ho1, go_skip _ _ _ _ _ _ (scan_no _ _ _ (escL34 k _)), List.cons_append, scan, if_neg (by decide), stripGo, if_pos rfl]
      have e : pre.length + 1 + (escL k (d.row j)).length + 1 = (pre ++ 34 :: (escL k (d.row j) ++ [34])).length := by simp; omega
      show stripGo l _ (pre.length + 1 + (escL k (d.row j)).length + 1) none _ = _
      rw [e, h1]
      simp
    · have : pre ++ 34 :: (escL k (d.row j) ++ 34 :: t.row k) = pre ++ 34 :: (escL k (d.row j) ++ [34]) ++ t.row k := by simp
      rw [this]; exact h2
    · have : pre ++ 34 :: (escL k (d.row j) ++ 34 :: t.row k) = pre ++ 34 :: (escL k (d.row j) ++ [34]) ++ t.row k := by simp
      rw [this, h3, mid_self, List.append_nil, Its.own]
      congr 1
      split
      · rename_i e; rw [← e]; simp [mid]
      · simp
theorem Its.row_no : ∀ {t : Its} {k : Nat}, 34 ∉ t.row k → t.row k = escL k t.own
  | .nil, _, _ => rfl
  | .str x r, k, h => by
    rw [Its.row, List.mem_append] at h
    rw [Its.row, row_no (t := r) (fun q => h (.inr q)), Its.own]
    show _ = (lst x ++ r.own).flatMap (esc k)
    rw [List.flatMap_append]
  | .sub j d r, k, h => by rw [Its.row] at h; exact absurd (List.mem_cons_self ..) h
theorem strip_row {t : Its} (h : t.ok) (k : Nat) : stripP (t.row k) = escL k t.own := by
  unfold stripP
  split
  · obtain ⟨st, acc, h1, h2, h3⟩ := go_row k t [] [] (t.row k) 0 [] h (by simp) (Nat.zero_le _)
    simp only [List.append_nil, List.length_nil, List.nil_append, List.flatten_nil] at h1 h2 h3
    rw [h1]
    show acc.flatten ++ (t.row k).drop st = _
    rw [show (t.row k).drop st = mid (t.row k) st (t.row k).length from by
      unfold mid
      rw [List.take_of_length_le (by rw [List.length_drop]; (with_reducible exact Nat.le_refl _))], h3]
    simp [mid]
  · rename_i hn
    exact Its.row_no hn
/-- the bare brackets of a text -/
def brks (ps : List (Nat × List Nat)) : List Nat := (ps.map fun p => if p.2 = [40] ∨ p.2 = [41] then p.2 else []).flatten
theorem scan_shift : ∀ (l : List Nat) (i j : Nat) (e : Bool), (scan l i e).map (·.2) = (scan l j e).map (·.2)
  | [], _, _, _ => rfl
  | c :: l, i, j, true => by rw [scan, scan, List.map_cons, List.map_cons, scan_shift l (i + 1) (j + 1)]
  | c :: l, i, j, false => by
    rw [scan, scan]
    split
    · exact scan_shift l (i + 1) (j + 1) true
    · rw [List.map_cons, List.map_cons, scan_shift l (i + 1) (j + 1)]
theorem brks_eq {ps qs : List (Nat × List Nat)} (h : ps.map (·.2) = qs.map (·.2)) : brks ps = brks qs := by
  have : ∀ ps : List (Nat × List Nat), brks ps = ((ps.map (·.2)).map fun c => if c = [40] ∨ c = [41] then c else []).flatten := fun ps => by
    rw [List.map_map]; rfl
  rw [this, this, h]
theorem piece_brks {x : List Nat} (h : x ∈ pieces) {k : Nat} (hk : k < 3) : brks (scan (escL k x) 0 false) = if x = [40] ∨ x = [41] then x else [] := by
  have : ∀ k < 3, ∀ x ∈ pieces, brks (scan (escL k x) 0 false) = if x = [40] ∨ x = [41] then x else [] := by decide
  exact this k hk x h
theorem own_brks {k : Nat} (hk : k < 3) : ∀ {t : Its}, t.ok → brks (scan (escL k t.own) 0 false) = t.brs
  | .nil, _ => rfl
  | .str x r, h => by
    have e : escL k (Its.str x r).own = escL k (lst x) ++ escL k r.own := by
      rw [Its.own]; show (lst x ++ r.own).flatMap (esc k) = _; rw [List.flatMap_append]
    rw [e, scan_append _ _ _ _ (by rw [open92_esc]; exact open92_piece h.1), Its.brs, ← piece_brks h.1 hk, ← own_brks hk h.2]
    unfold brks
    rw [List.map_append, List.flatten_append]
    congr 1
    exact brks_eq (scan_shift _ _ _ _)
  | .sub j d r, h => own_brks hk (t := r) h.2.2
end Mine

end T_Pl7
section T_W12
set_option autoImplicit false
set_option linter.all false
open PySem PySem.W PyProof.Rows PySem.Calls
set_option Elab.async false
set_option maxRecDepth 100000
set_option maxHeartbeats 8000000
namespace Mine
theorem off_W12 : True := by w_top off; trivial
theorem fill12 (w : World) : Challenge.rw_nb0133_01.prog = Challenge.rw_nb0133_01.prog ∧ (hd.heap_39 w.params).length = (hd.heap_39 w.params).length := by
  k_fill
  exact ⟨rfl, rfl⟩
theorem Left.trans {g h h' h'' : Heap} {L B : Nat} (x : Left g L B h h') (y : Left g L B h' h'') : Left g L B h h'' := ⟨fun b o hb e => y.1 b o hb (x.1 b o hb e), y.2⟩
theorem GAt.frame {w : World} {A : Around} {g : Heap} {L B a gno : Nat} {tot : List (Nat × List Nat)} {j : Nat} {s s' : Shared} (x : GAt w A g L B a gno tot j s) (ha : L ≤ a) (hl : Left g L B s.heap s'.heap) (hg : s'.gens = s.gens) :
    GAt w A g L B a gno tot j s' := by
  obtain ⟨⟨o, nm, qn, ho, r⟩, gs, h1, h2, h3⟩ := x
  exact ⟨⟨o, nm, qn, hl.1 a o ha ho, r⟩, gs, by rw [hg]; exact h1, h2, fun s'' h => h3 s'' (hl.trans h)⟩
theorem go_gen {w : World} {A : Around} {E : Value → Shared → Prop} {s : Shared} {elts : List Expr} {x1 : Nat} {pt : Pos} {a gno : Nat} {v : Value} {Q : Unit → Shared → Prop} (hg : s.heap.IsGen a gno) (h : Q () s) :
    wpAny (model PR w) A (letOwnedTupleGo (.Tuple elts x1 pt) (.ref a) v) Q E s := by
  obtain ⟨⟨c, d, dt, sl⟩, nm, qn, ho, hc, hd, hs⟩ := hg
  dsimp only at hc hd hs
  subst hc hd hs
  cases v with
  | ref b =>
    unfold letOwnedTupleGo
    refine wpAny_bind (wpAny_load ho ?_)
    show wpAny _ A (if (["enumerate", "zip", "dict_itemiterator", "dict_reverseitemiterator", "odict_iterator", "itertools.zip_longest", "itertools.pairwise"].contains "generator" && _) = true then _ else _) Q E s
    rw [if_neg (by simp)]
    exact wpAny_pure h
  | _ => exact wpAny_pure h

def StepEnd (L : Nat) (h' : Heap) (gs : Array GenState) (I : Shared → Prop) (s₃ : Shared) : Prop := (∀ (b : Nat) o, L ≤ b → h'.get? b = some o → s₃.heap.get? b = some o) ∧ s₃.gens = gs ∧ I s₃
theorem loopG {w : World} {A : Around} {s : Shared} {R : Result → Shared → Prop} {env : Env} {x y : Str} {px py pt : Pos} {x1 : Nat} {body : List Stmt} {g : Heap} {L B a gno : Nat} {tot : List (Nat × List Nat)}
    (hh : A.handled = none) (G : Gd w g) (hgL : g.objs.size ≤ L) (hLa : L < a) (haB : a < B) (hroom : A.depth < recursionLimit)
    (hx : env.kindOf x = some .local) (hy : env.kindOf y = some .local) (hp : (env.scope.kind == .class || (env.scope.kind == .module && env.locals != env.globals)) = false) (hlo : env.locals < L)
    (Inv : Nat → Shared → Prop) (hat : GAt w A g L B a gno tot 0 s) (h0 : Inv 0 s)
    (facts : ∀ j s₁, Inv j s₁ → (∀ b o, g.get? b = some o → s₁.heap.get? b = some o) ∧ (∀ q ∈ s₁.gens, q.bare = true) ∧ ∃ m, s₁.heap.Ns env.locals m)
    (stab : ∀ j (s₁ : Shared) h' tk gens', Inv j s₁ → (∀ (b : Nat) o, b ≠ L → b < B → s₁.heap.get? b = some o → h'.get? b = some o) → (∀ q ∈ gens', q.bare = true) → Inv j { s₁ with heap := h', toks := tk, gens := gens' })
    (step : ∀ j p t1 t2 (s₁ : Shared) m h' tk, tot[j]? = some p → Inv j s₁ → s₁.heap.Ns env.locals m → h'.Ns env.locals (fun z => if z = y then some (.str (txt p.2) t2) else if z = x then some (.int p.1 t1) else m z) →
      (∀ (b : Nat) o, b ≠ env.locals → s₁.heap.get? b = some o → h'.get? b = some o) →
      wpAny (model PR w) A (execs body env) (fun f s₃ => match f with
        | .next | .cont => StepEnd L h' s₁.gens (Inv (j + 1)) s₃
        | .brk => R (.ok .next) s₃
        | .ret v => R (.ok (.ret v)) s₃) NoE { s₁ with heap := h', toks := tk })
    (done : ∀ s₁, Inv tot.length s₁ → R (.ok .next) s₁) :
    codeAny (model PR w) A (.forLoop (.Tuple [.Name x px, .Name y py] x1 pt) (.ref a) body [] env) R s := by
  refine codeAny_forLoop_any (fun k s' => ∃ j, j ≤ tot.length ∧ k = tot.length + 1 - j ∧ GAt w A g L B a gno tot j s' ∧ Inv j s') ?_ (tot.length + 1) ⟨0, Nat.zero_le _, rfl, hat, h0⟩
  rintro k s' ⟨j, hj, rfl, hg', hI⟩
  obtain ⟨f1, f2, _⟩ := facts j s' hI
  refine hg'.next hh G f1 hgL (by (exact Nat.le_of_lt (Nat.lt_of_le_of_lt hgL (Nat.lt_trans hLa haB)))) (by (exact Nat.ne_of_gt (hLa))) haB hroom hj f2 (fun v p h' tk gens' hp' hG hk hb hnx => ?_) fun hjt h' tk gens' hk hb => ?_
  · have hI1 := stab j s' h' tk gens' hI hk hb
    refine go_gen hnx.1 ?_
    obtain ⟨T, t1, t2, rfl, hT⟩ := hG
    obtain ⟨f3, f4, m, hm⟩ := facts j _ hI1
    refine assignPair hh hT hx hy hp hm fun h3 tk3 hn3 hk3 => ?_
    refine wp_noE (wpAny_mono (step j p t1 t2 _ m h3 tk3 hp' hI1 hm hn3 hk3) (fun f s₃ h₃ => ?_) fun _ _ e => e)
    have fin : (∀ (b : Nat) o, L ≤ b → h3.get? b = some o → s₃.heap.get? b = some o) ∧ s₃.gens = gens' ∧ Inv (j + 1) s₃ → ∃ k', k' < tot.length + 1 - j ∧ ∃ j', j' ≤ tot.length ∧ k' = tot.length + 1 - j' ∧ GAt w A g L B a gno tot j' s₃ ∧ Inv j' s₃ := by
      rintro ⟨e1, e2, e3⟩
      have hlt : j < tot.length := (List.getElem?_eq_some_iff.mp hp').1
      refine ⟨tot.length + 1 - (j + 1), by omega, j + 1, hlt, rfl, hnx.frame (Nat.le_of_lt hLa) ⟨fun b o hb e => e1 b o hb (hk3 b o (by have : (env.locals : Nat) < L := hlo; exact Nat.ne_of_gt (Nat.lt_of_lt_of_le this hb)) e), (facts _ _ e3).1⟩ e2, e3⟩
    cases f with
    | next => exact fin h₃
    | cont => exact fin h₃
    | brk => exact h₃
    | ret v => exact h₃
  · refine wpAny_execs_nil ?_
    subst hjt
    exact done _ (stab _ s' h' tk gens' hI hk hb)

theorem Ns_unique {h : Heap} {a : Addr} {m m' : Str → Option Value} (x : h.Ns a m) (y : h.Ns a m') : m = m' := by
  obtain ⟨o, es, ep, ho, hd, _, hf⟩ := x
  obtain ⟨o', es', ep', ho', hd', _, hf'⟩ := y
  rw [ho] at ho'; cases ho'
  rw [hd] at hd'; cases hd'
  funext z
  rw [← hf, ← hf']
theorem slice_mid (l : List Nat) (a b : Nat) (h1 : a ≤ b) (h2 : b ≤ l.length) : Txt.slice (txt l) (some (a : Int)) (some (b : Int)) = txt (mid l a b) := by
  rw [eq_of_beq (slice_closesL (x := txt l) (i := a) (j := b) (by (exact Int.natCast_nonneg _)) (by omega) (by rw [len_txt]; omega))]
  show txt ((l.drop _).take _) = txt ((l.drop _).take _)
  congr 2
  omega
inductive OpIs : Value → Option Nat → Prop
  | none : OpIs .none none
  | some (q : Nat) (t : Tok) : OpIs (.int q t) (some q)
theorem strsAre_length {vs : List Value} {xs : List Str} (h : StrsAre vs xs) : vs.length = xs.length := by
  induction h with
  | nil => rfl
  | cons _ _ _ ih => rw [List.length_cons, List.length_cons, ih]
def SRes (R : Result → Shared → Prop) (s : Shared) (v : Value) : Prop := ∀ h' tk' gens', (∀ b o, s.heap.get? b = some o → h'.get? b = some o) → (∀ q ∈ gens', q.bare = true) → R (.ok (.ret v)) { s with heap := h', toks := tk', gens := gens' }

inductive InvStrip (s : Shared) (l : List Nat) (tk : Tok) (L : Nat) (D : Nat) (tot : List (Nat × List Nat)) (j : Nat) (s₁ : Shared) : Prop
  | mk (h6 : Heap) (tk6 : Nat) (gens6 : Array GenState) (m : Str → Option Value) (st : Nat) (op : Option Nat) (acc : List (List Nat)) (vs : List Value) (n b : Nat) (opv : Value) (tst : Tok) (f1 : s₁ = { s with heap := h6, toks := tk6, gens := gens6 }) (f2 : (∀ q ∈ gens6, q.bare = true)) (f3 : Fr s.heap L h6 m) (f4 : m (Str.ofString "addr") = some (.str (txt l) tk)) (f5 : m (Str.ofString "start") = some (.int ((st : Nat) : Int) tst)) (f6 : m (Str.ofString "open_pos") = some opv) (f7 : OpIs opv op) (f8 : m (Str.ofString "result") = some (.ref D)) (f9 : h6.get? D = some (listOf (List.toArray vs) n)) (f10 : StrsAre vs (acc.map txt)) (f11 : stripGo l (tot.drop j) st op acc = stripGo l tot 0 none []) (f12 : (∀ p ∈ tot.drop j, (b : Nat) ≤ p.1)) (f13 : b ≤ l.length) (f14 : (∀ q, op = some q → q < b ∧ st ≤ q)) (f15 : acc.flatten.length ≤ st) (f16 : st ≤ b) (f17 : acc.length ≤ j) : InvStrip s l tk L D tot j s₁
theorem strip_code {w : World} {A : Around} {s : Shared} {R : Result → Shared → Prop} {l : List Nat} {tk : Tok}
    (G : Gd w s.heap) (hroom : A.depth + 4 < recursionLimit) (hh : A.handled = none) (hend : open92 l false = false) (hlen : l.length ≤ 100000) (hb : ∀ q ∈ s.gens, q.bare = true)
    (h : ∀ t, SRes R s (.str (txt (stripP l)) t)) :
    codeAny (model PR w) A (.call (.ref 56) ⟨[.str (txt l) tk], []⟩) R s := by
  have X := G.K
  obtain ⟨mean, mg, mb, T⟩ := id G.T
  refine' enterF (binds := [(Str.ofString "addr", .str (txt l) tk)]) G (fun _ _ e => e) (Nat.le_refl _) ?ho ?hcd (by (exact (Nat.lt_of_le_of_lt (Nat.le_add_right _ _) hroom))) ?hb ?hl ?hbody ?h1 ?h2 ?h3 ?h4
  case ho => rfl
  case hcd => rfl
  case hb => exact BindsTo.of_eq rfl
  case hl => exact locs rfl
  case h1 => decide
  case h2 => rfl
  case h3 => rfl
  case h4 => rfl
  intro L h₁ hL F hk
  have N := news_led F []
  walk_at "go"
  · rename (Builtin.Str.occurrences _ _ _ _ _).isEmpty = true => hoc
    have hno : 34 ∉ l := by
      have h1 := StrLaws.found_one (txt l) 34
      rw [of34] at hoc
      rw [hoc] at h1
      simpa using h1.symm
    have e : stripP l = l := by unfold stripP; rw [if_neg hno]
    have := h tk h₁ (s.toks + [(Str.ofString "addr", Value.str (txt l) tk)].length + 1) s.gens hk hb
    rw [e] at this
    exact this
  rename (Builtin.Str.occurrences _ _ _ _ _).isEmpty = false => hoc
  have hyes : 34 ∈ l := by
    have h1 := StrLaws.found_one (txt l) 34
    rw [of34] at hoc
    rw [hoc] at h1
    simpa using h1.symm
  rename Fr _ _ _ _ => F₂
  rename News _ _ _ _ => N₂
  rename Heap => h₂
  have hl2 : L < h₂.objs.size := F₂.ns.lt
  refine newList_N F₂ N₂ ?_
  generalize hD : h₂.objs.size = D at *
  intro h₃ F₃ N₃
  dsimp only at F₃ N₃ ⊢
  refine stN F₃ N₃ ?_
  clear F₂ N₂ F₃ N₃
  intro h₄ F₄ N₄
  dsimp only at F₄ N₄ ⊢
  walk1
  refine wpAny_For ?_ (fun _ => rfl)
  walk_at "go"
  have hDs := (N₄ _ (List.mem_cons_self ..)).1
  have hD4 : (D : Nat) < h₄.objs.size := Heap.lt_size hDs
  have hLs : s.heap.objs.size ≤ L := F₄.above
  refine wpAny_call (gen_code (g := s.heap) G (fun b o e => F₄.keep b o e) (by show s.heap.objs.size ≤ h₄.objs.size; (exact Nat.le_of_lt (Nat.lt_of_le_of_lt (Nat.le_of_eq (Eq.symm hL)) (Nat.lt_trans hl2 hD4)))) (by show A.depth + 1 < _; exact roomC hroom (by decide)) hend (fun L' B a h₅ tk₅ gens₅ hL' hLa haB hk₅ hb0 hb₅ hat => ?_) hb)
  refine wpAny_pyIter_gen (hat A hh).1 ?_
  dsimp only at hL' hk₅ hat ⊢
  have hDL : D < L' := Nat.lt_of_lt_of_le hD4 hL'
  have hsor := scan_sorted l 0 false
  have hbnd := scan_bound l 0 false
  have hsl := scan_len l 0 false
  have hP : stripP l = (stripGo l (scan l 0 false) 0 none []).2.flatten ++ l.drop (stripGo l (scan l 0 false) 0 none []).1 := by unfold stripP; rw [if_pos hyes]
  generalize scan l 0 false = tot at *
  refine loopG (g := s.heap) (tot := tot) hh G (by (exact Nat.le_of_lt (Nat.lt_of_le_of_lt (Nat.le_of_eq (Eq.symm hL)) (Nat.lt_trans hl2 hDL)))) hLa haB (by show A.depth + 1 < _; exact roomC hroom (by decide)) rfl rfl rfl (by show L < L'; (exact (Nat.lt_trans hl2 hDL)))
    (InvStrip s l tk L D tot)
    (hat _ hh) ?start ?facts ?stab ?step ?done
  case start =>
    exact ⟨h₅, tk₅, gens₅, _, 0, none, [], [], 0, 0, .none, _, rfl, hb₅, ⟨F₄.ns.keeps hk₅, fun b o e => hk₅ _ _ (F₄.keep b o e), F₄.above⟩, rfl, rfl, rfl, .none, rfl, hk₅ _ _ hDs, .nil, rfl, fun _ _ => Nat.zero_le _, Nat.zero_le _, (by intro q e; cases e), Nat.le_refl _, Nat.le_refl _, Nat.le_refl _⟩
  case facts =>
    rintro j s₁ ⟨h6, tk6, gens6, m, st, op, acc, vs, n, b, opv, tst, rfl, e2, e3, _⟩
    exact ⟨fun b o e => e3.keep b o e, e2, m, e3.ns⟩
  case stab =>
    rintro j s₁ h' tk' gens' ⟨h6, tk6, gens6, m, st, op, acc, vs, n, b, opv, tst, rfl, e2, e3, e4, e5, e6, e7, e8, e9, e10, e11, e12, e13, e14, e15, e16, e17⟩ hkp hb'
    exact ⟨h', tk', gens', m, st, op, acc, vs, n, b, opv, tst, rfl, hb', ⟨e3.ns.at' fun o e => hkp L o (by (exact Nat.ne_of_lt ((Nat.lt_trans hl2 hDL)))) (by (exact (Nat.lt_trans hl2 (Nat.lt_trans hDL (Nat.lt_trans hLa haB))))) e, fun b o e => hkp b o (Nat.ne_of_lt (Nat.lt_of_lt_of_le (Heap.lt_size e) (by (exact Nat.le_of_lt (Nat.lt_of_le_of_lt (Nat.le_of_eq (Eq.symm hL)) (Nat.lt_trans hl2 hDL)))))) (Nat.lt_of_lt_of_le (Heap.lt_size e) (by (exact Nat.le_of_lt (Nat.lt_of_le_of_lt (Nat.le_of_eq (Eq.symm hL)) (Nat.lt_trans hl2 (Nat.lt_trans hDL (Nat.lt_trans hLa haB))))))) (e3.keep b o e), e3.above⟩, e4, e5, e6, e7, e8, hkp D _ (by (exact Nat.ne_of_lt (hDL))) (by (exact (Nat.lt_trans hDL (Nat.lt_trans hLa haB)))) e9, e10, e11, e12, e13, e14, e15, e16, e17⟩
  case done =>
    rintro s₁ ⟨h6, tk6, gens6, m, st, op, acc, vs, n, b, opv, tst, rfl, e2, e3, e4, e5, e6, e7, e8, e9, e10, e11, e12, e13, e14, e15, e16, e17⟩
    rw [List.drop_length, stripGo] at e11
    rw [← e11] at hP
    dsimp only at hP ⊢
    replace e3 := Fr_pin (x := Str.ofString "result") (Fr_pin (x := Str.ofString "start") (Fr_pin (x := Str.ofString "open_pos") (Fr_pin (x := Str.ofString "addr") e3 e4) e6) e5) e8
    have N := news_cons e9 (by show D ≠ L; (exact Nat.ne_of_gt (hl2))) (none_above e3.above (by show L < D; (with_reducible assumption))) (news_led e3 [D])
    have hvl : vs.length ≤ 100000 := by rw [strsAre_length e10, List.length_map]; (exact (Nat.le_trans e17 (Nat.le_trans hsl hlen)))
    walk_at "go"
    refine PyProof.Rows.len_str (by rw [len_txt]; omega) ?_
    rw [len_txt]
    have hjoin : ∀ zs : List (List Nat), Txt.join (Str.ofString "") (zs.map txt) = txt zs.flatten := fun zs => by
      rw [eq_of_beq (join_closes (sep := Str.ofString "") (ys := zs.map txt) rfl)]
      refine str_ext ?_
      rw [lst_join, show lst (Str.ofString "") = [] from by decide +kernel, join_empty, List.map_map, show (lst ∘ txt) = id from rfl, List.map_id]
    have hsum : ∀ zs : List (List Nat), ((zs.map txt).map (·.length)).sum = zs.flatten.length := fun zs => by
      rw [List.map_map, List.length_flatten]; rfl
    walk_at "go"
    · rename Fr _ _ _ _ => F8
      rename News _ _ _ _ => N8
      rename Int.ofNat _ < _ => hlt
      have hlt' : st < l.length := Int.ofNat_lt.mp hlt
      rw [slice_from l st (by (exact Nat.le_of_lt hlt'))]
      refine append_K F8 N8 (Upd.head (led_ne (by simp))) ?_ (hsz := by simp only [List.size_toArray, sizeLine]; (exact Nat.le_of_lt (Nat.lt_of_le_of_lt hvl (by decide))))
      intro h9 F9 N9
      clear F8 N8
      walk_at "go"
      refine join_list (items := (vs ++ [_]).toArray) (ys := (acc ++ [l.drop st]).map txt) ⟨_, by have := (N9 _ (.head _)).1; simpa using this, rfl, _, rfl⟩ (by rw [List.map_append]; exact strsAre_append e10 (.cons _ _ .nil)) ?_ (fun t' k => ?_)
      · rw [hsum, show (Str.ofString "").length = 0 from by decide +kernel, List.flatten_append, List.length_append, List.flatten_singleton, List.length_drop]; omega
      rw [hjoin, List.flatten_append, List.flatten_singleton, ← hP]
      exact h t' h9 k gens6 (fun b o e => F9.keep b o e) e2
    · rename ¬ _ => hlt
      have hlt' : ¬ st < l.length := fun e => hlt (Int.ofNat_lt.mpr e)
      refine join_list (items := vs.toArray) (ys := acc.map txt) ⟨_, e9, rfl, _, rfl⟩ e10 ?_ (fun t' k => ?_)
      · rw [hsum, show (Str.ofString "").length = 0 from by decide +kernel]; omega
      rw [List.drop_of_length_le (by (exact (Nat.le_of_not_lt hlt'))), List.append_nil] at hP
      rw [hjoin, ← hP]
      exact h t' h6 k gens6 (fun b o e => e3.keep b o e) e2
  case step =>
    rintro j p t1 t2 s₁ m1 h7 tk7 hp ⟨h6, tk6, gens6, m, st, op, acc, vs, n, b, opv, tst, rfl, e2, e3, e4, e5, e6, e7, e8, e9, e10, e11, e12, e13, e14, e15, e16, e17⟩ hm1 hn7 hk7
    have hmm := Ns_unique e3.ns hm1
    subst hmm
    clear hm1
    have hD7 : h7.get? D = some (listOf vs.toArray n) := hk7 D _ (by show D ≠ L; (exact Nat.ne_of_gt (hl2))) e9
    have F : Fr s.heap L h7 _ := ⟨hn7, fun b o e => hk7 b o (Nat.ne_of_lt (Nat.lt_of_lt_of_le (Heap.lt_size e) hLs)) (e3.keep b o e), e3.above⟩
    replace F := Fr_pin (x := Str.ofString "result") (Fr_pin (x := Str.ofString "start") (Fr_pin (x := Str.ofString "open_pos") (Fr_pin (x := Str.ofString "addr") F e4) e6) e5) e8
    have N := news_cons hD7 (by show D ≠ L; (exact Nat.ne_of_gt (hl2))) (none_above F.above (by show L < D; (with_reducible assumption))) (news_led F [D])
    have hdr : tot.drop j = p :: tot.drop (j + 1) := by
      rw [List.drop_eq_getElem_cons (List.getElem?_eq_some_iff.mp hp).1, (List.getElem?_eq_some_iff.mp hp).2]
    have hsj := List.Pairwise.sublist (List.drop_sublist j tot) hsor
    rw [hdr] at e11 e12 hsj
    have hnx : ∀ p' ∈ tot.drop (j + 1), p.1 + 1 ≤ p'.1 := fun p' hp' => (List.pairwise_cons.mp hsj).1 p' hp'
    have hpl : p.1 < l.length := by have := (hbnd p (List.mem_of_getElem? hp)).2; omega
    have hbp : b ≤ p.1 := e12 p (.head _)
    have hjl : j < tot.length := (List.getElem?_eq_some_iff.mp hp).1
    dsimp only at hk7 ⊢
    clear hn7 e3 e4 e5 e6 e8
    cases e7 with
    | none =>
      rw [stripGo] at e11
      walk_at "go"
      · rename (_ == _) = true => hc9
        have hc : p.2 = [34] := by
          rw [beq_txt (txt p.2) [34] (by decide +kernel)] at hc9
          simpa using hc9
        rw [if_pos hc] at e11
        rename Fr _ _ _ _ => F8
        rename News _ _ _ _ => N8
        refine ⟨fun b o hb e => kept_up N8 (fun p hp => .tail _ hp) (by simp; (exact Nat.ne_of_gt ((Nat.lt_of_lt_of_le hDL hb)))) (by (exact (Nat.lt_trans hl2 (Nat.lt_of_lt_of_le hDL hb)))) e, rfl, _, _, _, _, st, some p.1, acc, vs, n, p.1 + 1, _, _, rfl, e2, F8, rfl, rfl, rfl, .some _ _, rfl, (N8 _ (.head _)).1, e10, e11, hnx, hpl, fun q e => ?_, e15, by (exact Nat.le_add_right_of_le (Nat.le_trans e16 hbp)), by (exact Nat.le_add_right_of_le e17)⟩
        cases e
        exact ⟨Nat.lt_succ_self _, by (exact (Nat.le_trans e16 hbp))⟩
      · rename (_ == _) = false => hc9
        have hc : ¬ p.2 = [34] := by
          rw [beq_txt (txt p.2) [34] (by decide +kernel)] at hc9
          simpa using hc9
        rw [if_neg hc] at e11
        exact ⟨fun b o hb e => e, rfl, _, _, _, _, st, none, acc, vs, n, p.1 + 1, _, _, rfl, e2, F, rfl, rfl, rfl, .none, rfl, hD7, e10, e11, hnx, hpl, (by intro q e; cases e), e15, by (exact Nat.le_add_right_of_le (Nat.le_trans e16 hbp)), by (exact Nat.le_add_right_of_le e17)⟩
    | some q tq =>
      rw [stripGo] at e11
      obtain ⟨hqb, hsq⟩ := e14 q rfl
      walk_at "go"
      · rename (_ == _) = true => hc9
        have hc : p.2 = [34] := by
          rw [beq_txt (txt p.2) [34] (by decide +kernel)] at hc9
          simpa using hc9
        rw [if_pos hc] at e11
        rename Int.ofNat _ ≠ _ => hne
        have hne' : st ≠ q := fun e => hne (by rw [e])
        rw [if_neg hne'] at e11
        rename Fr _ _ _ _ => F8
        rename News _ _ _ _ => N8
        rw [slice_mid l st q hsq (by (exact Nat.le_of_lt (Nat.lt_of_lt_of_le hqb e13)))]
        have hvl : vs.length ≤ j := by rw [strsAre_length e10, List.length_map]; exact e17
        refine append_K F8 N8 (Upd.head (led_ne (by simp))) ?_ (hsz := by simp only [List.size_toArray, sizeLine]; (exact Nat.le_of_lt (Nat.lt_of_le_of_lt hvl (Nat.lt_trans hjl (Nat.lt_of_le_of_lt hsl (Nat.lt_of_le_of_lt hlen (by decide)))))))
        intro h9 F9 N9
        clear F8 N8
        walk_at "go"
        rename Fr _ _ _ _ => F8
        rename News _ _ _ _ => N8
        refine ⟨fun b o hb e => kept_up N8 (fun p hp => .tail _ hp) (by simp; (exact Nat.ne_of_gt ((Nat.lt_of_lt_of_le hDL hb)))) (by (exact (Nat.lt_trans hl2 (Nat.lt_of_lt_of_le hDL hb)))) e, rfl, _, _, _, _, p.1 + 1, none, acc ++ [mid l st q], vs ++ [_], n + 1, p.1 + 1, _, _, rfl, e2, F8, rfl, rfl, rfl, .none, rfl, by have := (N8 _ (.head _)).1; simpa using this, by rw [List.map_append]; exact strsAre_append e10 (.cons _ _ .nil), e11, hnx, hpl, (by intro q e; cases e), ?_, Nat.le_refl _, by rw [List.length_append, List.length_singleton]; (exact Nat.succ_le_succ e17)⟩
        rw [List.flatten_append, List.length_append, List.flatten_singleton]
        have : (mid l st q).length ≤ q - st := by unfold mid; rw [List.length_take]; omega
        omega
      · rename (_ == _) = true => hc9
        have hc : p.2 = [34] := by
          rw [beq_txt (txt p.2) [34] (by decide +kernel)] at hc9
          simpa using hc9
        rw [if_pos hc] at e11
        rename Int.ofNat _ = _ => hne
        have hne' : st = q := Int.ofNat.inj hne
        rw [if_pos hne'] at e11
        rename Fr _ _ _ _ => F8
        rename News _ _ _ _ => N8
        exact ⟨fun b o hb e => kept_up N8 (fun p hp => .tail _ hp) (by simp; (exact Nat.ne_of_gt ((Nat.lt_of_lt_of_le hDL hb)))) (by (exact (Nat.lt_trans hl2 (Nat.lt_of_lt_of_le hDL hb)))) e, rfl, _, _, _, _, p.1 + 1, none, acc, vs, n, p.1 + 1, _, _, rfl, e2, F8, rfl, rfl, rfl, .none, rfl, (N8 _ (.head _)).1, e10, e11, hnx, hpl, (by intro q e; cases e), by (exact Nat.le_add_right_of_le (Nat.le_trans e15 (Nat.le_trans e16 hbp))), Nat.le_refl _, by (exact Nat.le_add_right_of_le e17)⟩
      · rename (_ == _) = false => hc9
        have hc : ¬ p.2 = [34] := by
          rw [beq_txt (txt p.2) [34] (by decide +kernel)] at hc9
          simpa using hc9
        rw [if_neg hc] at e11
        exact ⟨fun b o hb e => e, rfl, _, _, _, _, st, some q, acc, vs, n, p.1 + 1, _, _, rfl, e2, F, rfl, rfl, rfl, .some _ _, rfl, hD7, e10, e11, hnx, hpl, (by intro q' e; cases e; omega), e15, by (exact Nat.le_add_right_of_le (Nat.le_trans e16 hbp)), by (exact Nat.le_add_right_of_le e17)⟩
end Mine

end T_W12
section T_W13
set_option autoImplicit false
set_option linter.all false
open PySem PySem.W PyProof.Rows PySem.Calls
set_option Elab.async false
set_option maxRecDepth 100000
set_option maxHeartbeats 8000000
namespace Mine
theorem off_W13 : True := by w_top off; trivial
theorem fill13 (w : World) : Challenge.rw_nb0133_01.prog = Challenge.rw_nb0133_01.prog ∧ (hd.heap_39 w.params).length = (hd.heap_39 w.params).length := by
  k_fill
  exact ⟨rfl, rfl⟩
theorem brks_cons (p : Nat × List Nat) (r : List (Nat × List Nat)) : brks (p :: r) = (if p.2 = [40] ∨ p.2 = [41] then p.2 else []) ++ brks r := rfl
theorem bal_40 (r : List Nat) (n : Nat) : bal (40 :: r) n = bal r (n + 1) := by simp [bal]
theorem bal_41_zero (r : List Nat) : bal (41 :: r) 0 = false := by simp [bal]
theorem bal_41_succ (r : List Nat) (n : Nat) : bal (41 :: r) (n + 1) = bal r n := by simp [bal]
inductive InvCheck (s : Shared) (L : Nat) (tot : List (Nat × List Nat)) (j : Nat) (s₁ : Shared) : Prop
  | mk (h6 : Heap) (tk6 : Nat) (gens6 : Array GenState) (m : Str → Option Value) (c : Nat) (tc : Tok) (f1 : s₁ = { s with heap := h6, toks := tk6, gens := gens6 }) (f2 : (∀ q ∈ gens6, q.bare = true)) (f3 : Fr s.heap L h6 m) (f4 : m (Str.ofString "opens") = some (.int ((c : Nat) : Int) tc)) (f5 : bal (brks (tot.drop j)) c = bal (brks tot) 0) (f6 : c ≤ j) : InvCheck s L tot j s₁
theorem check_code {w : World} {A : Around} {s : Shared} {R : Result → Shared → Prop} {l : List Nat} {tk : Tok}
    (G : Gd w s.heap) (hroom : A.depth + 8 < recursionLimit) (hh : A.handled = none) (hend : open92 l false = false) (hend2 : open92 (stripP l) false = false) (hlen : l.length ≤ 100000) (hlen2 : (stripP l).length ≤ 100000) (hb : ∀ q ∈ s.gens, q.bare = true)
    (h : SRes R s (.bool (bal (brks (scan (stripP l) 0 false)) 0))) :
    codeAny (model PR w) A (.call (.ref 63) ⟨[.str (txt l) tk], []⟩) R s := by
  have X := G.K
  obtain ⟨mean, mg, mb, T⟩ := id G.T
  refine' enterF (binds := [(Str.ofString "addr", .str (txt l) tk)]) G (fun _ _ e => e) (Nat.le_refl _) ?ho ?hcd (by (exact (Nat.lt_of_le_of_lt (Nat.le_add_right _ _) hroom))) ?hb ?hl ?hbody ?h1 ?h2 ?h3 ?h4
  case ho => rfl
  case hcd => rfl
  case hb => exact BindsTo.of_eq rfl
  case hl => exact locs rfl
  case h1 => decide
  case h2 => rfl
  case h3 => rfl
  case h4 => rfl
  intro L h₁ hL F hk
  have N := news_led F []
  walk_at "go"
  refine wpAny_call (strip_code (G.keeps fun b o e => F.keep b o e) (by show A.depth + 5 < _; exact roomC hroom (by decide)) hh hend hlen hb (fun t h₂ tk₂ gens₂ hk₂ hb₂ => ?_))
  dsimp only at hk₂ ⊢
  have F₂ : Fr s.heap L h₂ _ := ⟨F.ns.keeps hk₂, fun b o e => hk₂ _ _ (F.keep b o e), F.above⟩
  have N₂ := news_led F₂ []
  refine stN F₂ N₂ ?_
  clear F N F₂ N₂
  intro h₃ F₃ N₃
  dsimp only at F₃ N₃ ⊢
  walk_at "go"
  refine wpAny_For ?_ (fun _ => rfl)
  walk_at "go"
  rename Fr _ _ _ _ => F₄
  rename News _ _ _ _ => N₄
  rename Heap => h₄
  have hL4 : L < h₄.objs.size := F₄.ns.lt
  have hLs : s.heap.objs.size ≤ L := F₄.above
  refine wpAny_call (gen_code (g := s.heap) G (fun b o e => F₄.keep b o e) (by show s.heap.objs.size ≤ h₄.objs.size; (exact Nat.le_of_lt (Nat.lt_of_le_of_lt (Nat.le_of_eq (Eq.symm hL)) hL4))) (by show A.depth + 1 < _; exact roomC hroom (by decide)) hend2 (fun L' B a h₅ tk₅ gens₅ hL' hLa haB hk₅ hb0 hb₅ hat => ?_) hb₂)
  refine wpAny_pyIter_gen (hat A hh).1 ?_
  dsimp only at hL' hk₅ hat ⊢
  have hLL : L < L' := Nat.lt_of_lt_of_le hL4 hL'
  have hsl := scan_len (stripP l) 0 false
  generalize scan (stripP l) 0 false = tot at *
  refine loopG (g := s.heap) (tot := tot) hh G (by (exact Nat.le_of_lt (Nat.lt_of_le_of_lt (Nat.le_of_eq (Eq.symm hL)) hLL))) hLa haB (by show A.depth + 1 < _; exact roomC hroom (by decide)) rfl rfl rfl (by show L < L'; (with_reducible assumption))
    (InvCheck s L tot)
    (hat _ hh) ?start ?facts ?stab ?step ?done
  case start =>
    exact ⟨h₅, tk₅, gens₅, _, 0, _, rfl, hb₅, ⟨F₄.ns.keeps hk₅, fun b o e => hk₅ _ _ (F₄.keep b o e), F₄.above⟩, rfl, rfl, Nat.le_refl _⟩
  case facts =>
    rintro j s₁ ⟨h6, tk6, gens6, m, c, tc, rfl, e2, e3, _⟩
    exact ⟨fun b o e => e3.keep b o e, e2, m, e3.ns⟩
  case stab =>
    rintro j s₁ h' tk' gens' ⟨h6, tk6, gens6, m, c, tc, rfl, e2, e3, e4, e5, e6⟩ hkp hb'
    exact ⟨h', tk', gens', m, c, tc, rfl, hb', ⟨e3.ns.at' fun o e => hkp L o (by (exact Nat.ne_of_lt (hLL))) (by (exact (Nat.lt_trans hLL (Nat.lt_trans hLa haB)))) e, fun b o e => hkp b o (Nat.ne_of_lt (Nat.lt_of_lt_of_le (Heap.lt_size e) (by (exact Nat.le_of_lt (Nat.lt_of_le_of_lt (Nat.le_of_eq (Eq.symm hL)) hLL))))) (Nat.lt_of_lt_of_le (Heap.lt_size e) (by (exact Nat.le_of_lt (Nat.lt_of_le_of_lt (Nat.le_of_eq (Eq.symm hL)) (Nat.lt_trans hLL (Nat.lt_trans hLa haB)))))) (e3.keep b o e), e3.above⟩, e4, e5, e6⟩
  case done =>
    rintro s₁ ⟨h6, tk6, gens6, m, c, tc, rfl, e2, e3, e4, e5, e6⟩
    rw [List.drop_length] at e5
    dsimp only
    replace e3 := Fr_pin (x := Str.ofString "opens") e3 e4
    have N := news_led e3 []
    walk_at "go"
    have e7 : bal (brks tot) 0 = ((c : Int) == 0) := by
      rw [← e5]
      show (c == 0) = _
      cases c with
      | zero => rfl
      | succ c => rw [show ((c + 1 : Nat) == 0) = false from rfl]; symm; rw [beq_eq_false_iff_ne]; omega
    have := h h6 (tk6 + 1) gens6 (fun b o e => e3.keep b o e) e2
    rw [e7] at this
    exact this
  case step =>
    rintro j p t1 t2 s₁ m1 h7 tk7 hp ⟨h6, tk6, gens6, m, c, tc, rfl, e2, e3, e4, e5, e6⟩ hm1 hn7 hk7
    have hmm := Ns_unique e3.ns hm1
    subst hmm
    clear hm1
    have F : Fr s.heap L h7 _ := ⟨hn7, fun b o e => hk7 b o (Nat.ne_of_lt (Nat.lt_of_lt_of_le (Heap.lt_size e) hLs)) (e3.keep b o e), e3.above⟩
    replace F := Fr_pin (x := Str.ofString "opens") F e4
    have N := news_led F []
    have hdr : tot.drop j = p :: tot.drop (j + 1) := by
      rw [List.drop_eq_getElem_cons (List.getElem?_eq_some_iff.mp hp).1, (List.getElem?_eq_some_iff.mp hp).2]
    rw [hdr, brks_cons] at e5
    have hjl : j < tot.length := (List.getElem?_eq_some_iff.mp hp).1
    dsimp only at hk7 ⊢
    clear hn7 e3 e4
    walk_at "go"
    · rename (_ == _) = true => hc9
      have hc : p.2 = [40] := by
        rw [beq_txt (txt p.2) [40] (by decide +kernel)] at hc9
        simpa using hc9
      rw [hc, if_pos (.inl rfl), List.singleton_append, bal_40] at e5
      rename Fr _ _ _ _ => F8
      rename News _ _ _ _ => N8
      exact ⟨fun b o hb e => kept_up N8 (fun p hp => hp) (by simp) (by (exact (Nat.lt_of_lt_of_le hLL hb))) e, rfl, _, _, _, _, c + 1, _, rfl, e2, F8, rfl, e5, by (exact Nat.succ_le_succ e6)⟩
    · rename Int.ofNat _ - 1 < 0 => hneg
      rename (_ == _) = true => hc9
      have hc : p.2 = [41] := by
        rw [beq_txt (txt p.2) [41] (by decide +kernel)] at hc9
        simpa using hc9
      have hc0 : c = 0 := by
        have : (c : Int) - 1 < 0 := hneg
        omega
      rw [hc, if_pos (.inr rfl), List.singleton_append, hc0, bal_41_zero] at e5
      rename Fr _ _ _ _ => F8
      have := h _ (tk7 + 1 + 1 + 1 + 1 + 1 + 1) gens6 (fun b o e => F8.keep b o e) e2
      rw [← e5] at this
      dsimp only
      exact this
    · rename ¬ (Int.ofNat _ - 1 < 0) => hneg
      rename (_ == _) = true => hc9
      have hc : p.2 = [41] := by
        rw [beq_txt (txt p.2) [41] (by decide +kernel)] at hc9
        simpa using hc9
      have hc0 : ¬ (c : Int) - 1 < 0 := hneg
      obtain ⟨c', rfl⟩ : ∃ c', c = c' + 1 := ⟨c - 1, by omega⟩
      rw [hc, if_pos (.inr rfl), List.singleton_append, bal_41_succ] at e5
      rename Fr _ _ _ _ => F8
      rename News _ _ _ _ => N8
      exact ⟨fun b o hb e => kept_up N8 (fun p hp => hp) (by simp) (by (exact (Nat.lt_of_lt_of_le hLL hb))) e, rfl, _, _, _, _, c', _, rfl, e2, F8, by
        show some (Value.int (((c' + 1 : Nat) : Int) - 1) _) = some (Value.int (c' : Int) _)
        rw [show ((c' + 1 : Nat) : Int) - 1 = (c' : Int) from by omega], e5, by (exact Nat.le_add_right_of_le (Nat.le_of_lt (Nat.lt_of_succ_le e6)))⟩
    · rename (txt p.2 == Str.ofString "(") = false => hc9
      rename (txt p.2 == Str.ofString ")") = false => hc8
      have hca : ¬ p.2 = [40] := by
        rw [beq_txt (txt p.2) [40] (by decide +kernel)] at hc9
        simpa using hc9
      have hcb : ¬ p.2 = [41] := by
        rw [beq_txt (txt p.2) [41] (by decide +kernel)] at hc8
        simpa using hc8
      rw [if_neg (by rintro (e | e); exact hca e; exact hcb e), List.nil_append] at e5
      exact ⟨fun b o hb e => e, rfl, _, _, _, _, c, _, rfl, e2, F, rfl, e5, by (exact Nat.le_add_right_of_le e6)⟩
end Mine

end T_W13
end G3
section T_Pl8
set_option autoImplicit false
set_option linter.all false
open PySem PySem.W PyProof.Rows PySem.Calls
set_option Elab.async false
namespace Mine
def Its.app : Its → Its → Its
  | .nil, u => u
  | .str x r, u => .str x (r.app u)
  | .sub k d r, u => .sub k d (r.app u)
theorem Its.count_app : ∀ t u : Its, (t.app u).count = t.count + u.count
  | .nil, u => by simp [Its.app, Its.count]
  | .str x r, u => by simp only [Its.app, Its.count, count_app r u]; omega
  | .sub k d r, u => by simp only [Its.app, Its.count, count_app r u]; omega
theorem Its.depth_app : ∀ t u : Its, (t.app u).depth = max t.depth u.depth
  | .nil, u => by simp [Its.app, Its.depth]
  | .str x r, u => by simp only [Its.app, Its.depth, depth_app r u]
  | .sub k d r, u => by simp only [Its.app, Its.depth, depth_app r u]; exact (Nat.max_assoc _ _ _).symm
theorem Its.ok_app : ∀ {t u : Its}, t.ok → u.ok → (t.app u).ok
  | .nil, _, _, h => h
  | .str x r, u, h, h' => ⟨h.1, ok_app h.2 h'⟩
  | .sub k d r, u, h, h' => ⟨h.1, h.2.1, ok_app h.2.2 h'⟩
theorem ItemsAt.app {lk : Addr → Option Obj} {u : Its} {us : List Value} (hu : ItemsAt lk u us) : ∀ {t : Its} {vs : List Value}, ItemsAt lk t vs → ItemsAt lk (t.app u) (vs ++ us)
  | .nil, _, e => by rw [e]; exact hu
  | .str x r, _, ⟨tk, vs', e, hr⟩ => ⟨tk, vs' ++ us, by rw [e]; rfl, ItemsAt.app hu hr⟩
  | .sub k d r, _, ⟨a, tk, ws, n, vs', e, o, hd, hr⟩ => ⟨a, tk, ws, n, vs' ++ us, by rw [e]; rfl, o, hd, ItemsAt.app hu hr⟩
/-- the nodes that stand, the innermost first; each holds the one before it as its last item -/
def StkAt (lk : Addr → Option Obj) (h : Heap) : List Value → List (Nat × Nat × Its) → Prop
  | _, [] => True
  | ch, p :: rest => (∃ tk vs n, h.get? p.1 = some (listOf (Value.int p.2.1 tk :: (vs ++ ch)).toArray n) ∧ ItemsAt lk p.2.2 vs) ∧ StkAt lk h [.ref p.1] rest
def Fits : List (Nat × Nat × Its) → Prop
  | [] => True
  | p :: rest => p.2.1 < 3 ∧ p.2.2.ok ∧ rest.length + p.2.2.depth ≤ 3 ∧ Fits rest
def cnt : List (Nat × Nat × Its) → Nat
  | [] => 0
  | p :: rest => p.2.2.count + 1 + cnt rest
theorem StkAt.mono {lk lk' : Addr → Option Obj} {h h' : Heap} (hl : ∀ a o, lk a = some o → lk' a = some o) : ∀ {stk : List (Nat × Nat × Its)} {ch : List Value}, (∀ p ∈ stk, ∀ o, h.get? p.1 = some o → h'.get? p.1 = some o) → StkAt lk h ch stk → StkAt lk' h' ch stk
  | [], _, _, _ => trivial
  | p :: rest, ch, hk, ⟨⟨tk, vs, n, e, hI⟩, hr⟩ => ⟨⟨tk, vs, n, hk p (.head _) _ e, hI.mono hl⟩, hr.mono hl fun q hq => hk q (.tail _ hq)⟩
/-- the innermost is closed -/
theorem StkAt.pop {lk lk' : Addr → Option Obj} {h : Heap} {p q : Nat × Nat × Its} {rest : List (Nat × Nat × Its)} (hl : ∀ a o, lk a = some o → lk' a = some o) (hp : ∀ o, h.get? p.1 = some o → lk' p.1 = some o)
    (x : StkAt lk h [] (p :: q :: rest)) : StkAt lk' h [] ((q.1, q.2.1, q.2.2.app (.sub p.2.1 p.2.2 .nil)) :: rest) := by
  obtain ⟨⟨tk, vs, n, e, hI⟩, ⟨tk', vs', n', e', hI'⟩, hr⟩ := x
  refine ⟨⟨tk', vs' ++ [.ref p.1], n', by rw [List.append_nil]; exact e', ?_⟩, hr.mono hl fun _ _ _ e => e⟩
  rw [List.append_nil] at e
  exact ItemsAt.app (show ItemsAt lk' (.sub p.2.1 p.2.2 .nil) [.ref p.1] from ⟨p.1, tk, vs, n, [], rfl, hp _ e, hI.mono hl, rfl⟩) (hI'.mono hl)
theorem Fits.pop {p q : Nat × Nat × Its} {rest : List (Nat × Nat × Its)} (x : Fits (p :: q :: rest)) : Fits ((q.1, q.2.1, q.2.2.app (.sub p.2.1 p.2.2 .nil)) :: rest) := by
  obtain ⟨h1, h2, h3, h4, h5, h6, h7⟩ := x
  refine ⟨h4, Its.ok_app h5 ⟨h1, h2, trivial⟩, ?_, h7⟩
  show rest.length + (Its.app _ _).depth ≤ 3
  rw [Its.depth_app]
  simp only [List.length_cons] at h3
  simp only [Its.depth]
  omega
theorem cnt_pop (p q : Nat × Nat × Its) (rest : List (Nat × Nat × Its)) : cnt ((q.1, q.2.1, q.2.2.app (.sub p.2.1 p.2.2 .nil)) :: rest) = cnt (p :: q :: rest) := by
  simp only [cnt, Its.count_app, Its.count]
  omega
theorem stk_root {h : Heap} {lkT : Addr → Option Obj} : ∀ (n : Nat) (stk : List (Nat × Nat × Its)) (lk : Addr → Option Obj), (∀ a o, lk a = some o → lkT a = some o) → (∀ p ∈ stk, ∀ o, h.get? p.1 = some o → lkT p.1 = some o) → stk.length = n + 1 → StkAt lk h [] stk → Fits stk → cnt stk ≤ 11 →
    ∀ r, (stk.map (·.1)).getLast? = some r → ∃ k t, k < 3 ∧ t.small ∧ NodeAt lkT (.ref r) k t
  | 0, [p], lk, hl, hT, _, ⟨⟨tk, vs, n, e, hI⟩, _⟩, ⟨f1, f2, f3, _⟩, hc, r, hr => by
    simp at hr
    subst hr
    rw [List.append_nil] at e
    simp only [cnt] at hc
    exact ⟨p.2.1, p.2.2, f1, ⟨f2, by omega, by simpa using f3⟩, p.1, tk, vs, n, rfl, hT p (.head _) _ e, hI.mono hl⟩
  | n + 1, p :: q :: rest, lk, hl, hT, hn, x, f, hc, r, hr => by
    refine stk_root n _ lkT (fun _ _ e => e) (fun p' hp' o e => ?_) (by simpa using hn) (x.pop hl fun o e => hT p (.head _) o e) f.pop (by rw [cnt_pop]; (with_reducible assumption)) r ?_
    · rcases List.mem_cons.mp hp' with rfl | hp'
      · exact hT q (.tail _ (.head _)) o e
      · exact hT p' (.tail _ (.tail _ hp')) o e
    · simpa using hr
  | n + 1, [], _, _, _, hn, _, _, _, _, _ => by simp at hn
  | n + 1, [p], _, _, _, hn, _, _, _, _, _ => by simp at hn
  | 0, [], _, _, _, hn, _, _, _, _, _ => by simp at hn
  | 0, _ :: _ :: _, _, _, _, hn, _, _, _, _, _ => by simp at hn
end Mine

end T_Pl8
section G4
open PySem PySem.W PyProof.Rows PySem.Calls
local macro_rules | `(tactic| walk_at "go") => `(tactic| repeat' ((fail_if_success (show (IsRangeIter _ _ _ _ _ ∧ _))); (fail_if_success (show (Heap.IsListIter _ _ _ _ ∧ _))); (fail_if_success (with_reducible show wpAny _ _ (PySem.call (Value.ref _) _ _) _ _ _)); (fail_if_success (with_reducible show wpAny _ _ (PySem.call (Value.builtin "list.append") _ _) _ _ _)); (fail_if_success (with_reducible show wpAny _ _ (PySem.call (Value.builtin "isinstance") [Value.ref _, _]) _ _ _)); (fail_if_success (with_reducible show wpAny _ _ (newTuple _) _ _ _)); (fail_if_success (with_reducible show wpAny _ _ (PySem.call (Value.type "enumerate") _ _) _ _ _)); (fail_if_success (with_reducible show Seg _ _ _ _ _ _ _ _ _ _)); (fail_if_success (with_reducible show wpAny _ _ (PySem.call (Value.builtin "list.pop") _ _) _ _ _)); (fail_if_success (with_reducible show wpAny _ _ (PySem.call (Value.builtin "sum") _ _) _ _ _)); (fail_if_success (with_reducible show wpAny _ _ (PySem.call (Value.builtin "len") _ _) _ _ _)); (fail_if_success (with_reducible show wpAny _ _ (newList _) _ _ _)); (fail_if_success (with_reducible show wpAny _ _ (compareOp _ (Value.ref _) _) _ _ _)); (fail_if_success (with_reducible show wpAny _ _ (PySem.call (Value.builtin "str.split") _ _) _ _ _)); (fail_if_success (with_reducible show wpAny _ _ (PySem.call (Value.builtin "str.join") _ _) _ _ _)); (fail_if_success (with_reducible show wpAny _ _ (PySem.call (Value.builtin "str.replace") _ _) _ _ _)); (fail_if_success (with_reducible show wpAny _ _ (exec (Stmt.For _ _ _ _ _) _) _ _ _)); (fail_if_success (with_reducible show wpAny _ _ (exec (Stmt.While _ _ _ _) _) _ _ _)); (fail_if_success (with_reducible show wpAny _ _ (eval (Expr.ListComp _ _ _ _) _) _ _ _)); (fail_if_success (with_reducible show wpAny _ _ (compareOp _ _ (Value.ref _)) _ _ _)); (fail_if_success (with_reducible show wpAny _ _ (subscriptTail _ _ (Value.ref _) _) _ _ _)); walk1))
section T_W14
set_option autoImplicit false
set_option linter.all false
open PySem PySem.W PyProof.Rows PySem.Calls
set_option Elab.async false
set_option maxRecDepth 100000
set_option maxHeartbeats 8000000
namespace Mine
theorem off_W14 : True := by w_top off; trivial
theorem fill14 (w : World) : Challenge.rw_nb0133_01.prog = Challenge.rw_nb0133_01.prog ∧ (hd.heap_39 w.params).length = (hd.heap_39 w.params).length := by
  k_fill
  exact ⟨rfl, rfl⟩
theorem ints_shaped (ms : List Int) : SeqAt.shaped (.list (ms.map .int)) = true := by
  have h1 : ∀ ms : List Int, PyData.canLayAll0 (ms.map .int) = true := fun ms => by
    induction ms with
    | nil => simp [PyData.canLayAll0]
    | cons n ms ih => simp only [List.map_cons, PyData.canLayAll0, PyData.canLay0, ih, Bool.and_self]
  have h2 : ∀ ms : List Int, PyData.depthAll (ms.map .int) = 0 := fun ms => by
    induction ms with
    | nil => simp [PyData.depthAll]
    | cons n ms ih => simp only [List.map_cons, PyData.depthAll, PyData.depth, ih]; rfl
  unfold SeqAt.shaped
  rw [Bool.and_eq_true]
  exact ⟨by simp only [PyData.canLay0, h1], decide_eq_true (by simp only [PyData.depth, h2]; (decide))⟩
theorem StkAt.live {lk : Addr → Option Obj} {h : Heap} : ∀ {stk : List (Nat × Nat × Its)} {ch : List Value}, StkAt lk h ch stk → ∀ p ∈ stk, ∃ o, h.get? p.1 = some o
  | [], _, _, p, hp => by cases hp
  | q :: rest, ch, ⟨⟨tk, vs, n, e, hI⟩, hr⟩, p, hp => by
    rcases List.mem_cons.mp hp with rfl | hp
    · exact ⟨_, e⟩
    · exact hr.live p hp
theorem fmod3 (a : Int) : ∃ k : Nat, a.fmod 3 = (k : Int) ∧ k < 3 := by
  rw [Int.fmod_eq_emod_of_nonneg a (by decide)]
  exact ⟨(a % 3).toNat, (Int.toNat_of_nonneg (Int.emod_nonneg a (by decide))).symm, (Int.toNat_lt (Int.emod_nonneg a (by decide))).mpr (Int.emod_lt_of_pos a (by decide))⟩
theorem fmod12 (a : Int) : ∃ k : Nat, a.fmod 12 = (k : Int) ∧ k < 12 := by
  rw [Int.fmod_eq_emod_of_nonneg a (by decide)]
  exact ⟨(a % 12).toNat, (Int.toNat_of_nonneg (Int.emod_nonneg a (by decide))).symm, (Int.toNat_lt (Int.emod_nonneg a (by decide))).mpr (Int.emod_lt_of_pos a (by decide))⟩
inductive InvTree (s : Shared) (L : Nat) (pc : Nat) (ps : List Value) (r : Nat) (a0 : Nat) (D : Nat) (it : Nat) (i : Nat) (s₁ : Shared) : Prop
  | mk (h5 : Heap) (tk5 : Nat) (m : Str → Option Value) (n : Nat) (stk : List (Nat × Nat × Its)) (f1 : s₁ = { s with heap := h5, toks := tk5 }) (f2 : Fr s.heap L h5 m) (f3 : m (Str.ofString "pieces") = some (.ref pc)) (f4 : m (Str.ofString "standing") = some (.ref D)) (f5 : m (Str.ofString "tree") = some (.ref a0)) (f6 : h5.get? pc = some (listOf ps.toArray 0)) (f7 : h5.get? D = some (listOf ((stk.map (fun p => Value.ref p.1)).reverse).toArray n)) (f8 : StkAt (lkP (fun x => L < x ∧ x ∉ it :: D :: stk.map (·.1)) h5) h5 [] stk) (f9 : ((r : Nat) :: pc :: it :: D :: stk.map (·.1)).Nodup) (f10 : (∀ x ∈ stk.map (·.1), L < x)) (f11 : Fits stk) (f12 : cnt stk ≤ i + 1) (f13 : stk ≠ []) (f14 : (stk.map (·.1)).getLast? = some a0) : InvTree s L pc ps r a0 D it i s₁
theorem tree_code {w : World} {A : Around} {s : Shared} {R : Result → Shared → Prop} {sc : Addr} {vs : List Value} {ns : List Int}
    (G : Gd w s.heap) (hroom : A.depth + 4 < recursionLimit) (hun : A.units + 100 < cLine) (hh : A.handled = none) (hl : s.heap.IsList sc vs.toArray) (hi : IntsAre vs ns) (hlen : vs.length ≤ 1000) (ht : 0 < s.toks)
    (h : ∀ v k t h' tk', k < 3 → t.small → NodeAt (lkP (fun a => s.heap.objs.size ≤ a) h') v k t → (∀ b o, s.heap.get? b = some o → h'.get? b = some o) → R (.ok (.ret v)) { s with heap := h', toks := tk' }) :
    codeAny (model PR w) A (.call (.ref 70) ⟨[.ref sc], []⟩) R s := by
  have X := G.K
  obtain ⟨mean, mg, mb, T⟩ := id G.T
  refine' enterF (binds := [(Str.ofString "script", .ref sc)]) G (fun _ _ e => e) (Nat.le_refl _) ?ho ?hcd (by (exact (Nat.lt_of_le_of_lt (Nat.le_add_right _ _) hroom))) ?hb ?hl ?hbody ?h1 ?h2 ?h3 ?h4
  case ho => rfl
  case hcd => rfl
  case hb => exact BindsTo.of_eq rfl
  case hl => exact locs rfl
  case h1 => decide
  case h2 => rfl
  case h3 => rfl
  case h4 => rfl
  intro L h₁ hL F hk
  have N := news_led F []
  walk_at "go"
  refine newList_N F N ?_
  have hl1 : L < h₁.objs.size := F.ns.lt
  generalize hPc : h₁.objs.size = pc at *
  intro h₂ F₂ N₂
  dsimp only at F₂ N₂ ⊢
  refine stN F₂ N₂ ?_
  clear F N F₂ N₂
  intro h₃ F₃ N₃
  dsimp only at F₃ N₃ ⊢
  walk_at "go"
  refine slice_list F₃ N₃ (hl.at fun o e => F₃.keep _ _ e) .none (.int _ _) ?_ (hsz := by simp [sizeLine]; (exact Nat.le_of_lt (Nat.lt_of_le_of_lt hlen (by decide))))
  rw [show slicePick vs.toArray none (some 10) none = (vs.take 10).toArray from slicePick_upto' _ 10]
  have hi10 := hi.take 10
  have hl10 : (vs.take 10).length ≤ 10 := by rw [List.length_take]; omega
  generalize vs.take 10 = us at *
  generalize ns.take 10 = ms at *
  have hl3 : (pc : Nat) < h₃.objs.size := Heap.lt_size (N₃ _ (List.mem_cons_self ..)).1
  generalize hR0 : h₃.objs.size + 1 = r0 at *
  clear F₃
  have hLr0 : L < r0 := by (exact (Nat.lt_trans hl1 (Nat.lt_trans hl3 (Nat.lt_of_succ_le (Nat.le_of_eq hR0)))))
  intro h₄ F₄ N₄
  dsimp only at F₄ N₄ ⊢
  refine stN F₄ N₄ ?_
  clear F₄ N₄ N₃
  intro h₅ F₅ N₅
  dsimp only at F₅ N₅ ⊢
  have hpc := (N₅ _ (.tail _ (.head _))).1
  obtain ⟨ps, hps, hp12⟩ : ∃ ps : List Value, h₅.get? pc = some (listOf ps.toArray 0) ∧ ∀ j : Nat, j < 12 → ∃ x t, ps[j]? = some (.str x t) ∧ lst x ∈ pieces := by
    refine ⟨_, hpc, ?_⟩
    intro j hj
    match j, hj with
    | 0, _ => exact ⟨_, _, rfl, by decide +kernel⟩
    | 1, _ => exact ⟨_, _, rfl, by decide +kernel⟩
    | 2, _ => exact ⟨_, _, rfl, by decide +kernel⟩
    | 3, _ => exact ⟨_, _, rfl, by decide +kernel⟩
    | 4, _ => exact ⟨_, _, rfl, by decide +kernel⟩
    | 5, _ => exact ⟨_, _, rfl, by decide +kernel⟩
    | 6, _ => exact ⟨_, _, rfl, by decide +kernel⟩
    | 7, _ => exact ⟨_, _, rfl, by decide +kernel⟩
    | 8, _ => exact ⟨_, _, rfl, by decide +kernel⟩
    | 9, _ => exact ⟨_, _, rfl, by decide +kernel⟩
    | 10, _ => exact ⟨_, _, rfl, by decide +kernel⟩
    | 11, _ => exact ⟨_, _, rfl, by decide +kernel⟩
  have hr0 := (N₅ _ (.head _)).1
  clear N₅ hpc
  refine wpAny_execs_cons ?_
  refine wpAny_mono (Q := fun f s' => f = .next ∧ ∃ (h6 : Heap) (tk6 : Nat) (m : Str → Option Value) (r : Nat) (ws : List Value) (ms : List Int), s' = { s with heap := h6, toks := tk6 } ∧ Fr s.heap L h6 m ∧ m (Str.ofString "rows") = some (.ref r) ∧ m (Str.ofString "pieces") = some (.ref pc) ∧ h6.get? pc = some (listOf ps.toArray 0) ∧
    h6.get? r = some (listOf (List.toArray ws) 0) ∧ IntsAre ws ms ∧ ws.length ≤ 10 ∧ L < r ∧ r ≠ pc) ?_ (fun f s' hf => ?_) (fun _ _ e => e)
  · have N := news_led F₅ []
    walk_at "go"
    refine newList_N F₅ N ?_
    intro h6 F6 N6
    dsimp only at F6 N6 ⊢
    have hr6 : h6.get? r0 = some (listOf us.toArray 0) := (N6 _ (.tail _ (mem_led.mpr ⟨hLr0, by simp, hr0⟩))).1
    have hps6 : h6.get? pc = some (listOf ps.toArray 0) := (N6 _ (.tail _ (mem_led.mpr ⟨hl1, by simp, hps⟩))).1
    refine SeqAt.compareEq_shaped (.list hr6 rfl rfl (ints_readAll h6 hi10)) (.list (N6 _ (.head _)).1 rfl rfl .nil) ?_ (by decide) (by show A.units + 67 < _; exact roomC hun (by decide)) ?_
    · exact ints_shaped ms
    have L6 : (r0 : Nat) < h6.objs.size := Heap.lt_size hr6
    cases hi10 with
    | nil =>
      rw [show PyData.eqv (.list (List.map PyData.int [])) (.list []) = true from by decide]
      walk1
      rw [if_pos rfl]
      walk_at "go"
      refine newList_N F6 N6 ?_
      intro h7 F7 N7
      dsimp only at F7 N7 ⊢
      refine stN F7 N7 ?_
      intro h8 F8 N8
      dsimp only at F8 N8 ⊢
      refine wpAny_execs_nil ⟨rfl, h8, _, _, h6.objs.size, _, [2, 4, 10, 6, 1, 18, 6], rfl, F8, rfl, rfl, ?_, (N8 _ (.head _)).1, ?_, by simp, by (exact (Nat.lt_trans hLr0 L6)), by (exact Nat.ne_of_gt ((Nat.lt_trans hl3 (Nat.lt_trans (Nat.lt_of_succ_le (Nat.le_of_eq hR0)) L6))))⟩
      · exact (N8 _ (.tail _ (.tail _ (mem_led.mpr ⟨hl1, by simp, hps⟩)))).1
      · exact .cons _ _ (.cons _ _ (.cons _ _ (.cons _ _ (.cons _ _ (.cons _ _ (.cons _ _ .nil))))))
    | cons n t hi10 =>
      rename_i us' ms'
      rw [show PyData.eqv (.list (List.map PyData.int (n :: ms'))) (.list []) = false from by simp [PyData.eqv, PyData.eqvAll]]
      walk1
      rw [if_neg (by decide)]
      exact wpAny_execs_nil ⟨rfl, h6, _, _, r0, _, _, rfl, F6, rfl, rfl, hps6, hr6, .cons _ _ hi10, hl10, hLr0, by (exact Nat.ne_of_gt ((Nat.lt_trans hl3 (Nat.lt_of_succ_le (Nat.le_of_eq hR0)))))⟩
  obtain ⟨rfl, h6, tk6, m, r, ws, ms, rfl, F6, e1, e2, e3, e4, e5, e6, e7, hrpc⟩ := hf
  dsimp only
  replace F6 := Fr_pin (x := Str.ofString "rows") (Fr_pin (x := Str.ofString "pieces") F6 e2) e1
  have N6 := news_led F6 []
  walk_at "go"
  obtain ⟨xs, hxs⟩ := e5.allInts.items
  refine sum_intListG hh (xs := xs) (by rw [← hxs]; exact ⟨_, e4, rfl, _, rfl⟩) fun h7 tk7 t7 hk7 => ?_
  generalize preSum (numAt xs) xs.size = su
  have F7 := Fr_kept (M := []) F6 (by simp) (by simp) (fun b o _ e => hk7 b o e)
  have N7 := News_kept (M := []) N6 (by simp) (fun b o _ e => hk7 b o e)
  clear F6 N6
  dsimp only at F7 N7 hk7 ⊢
  walk_at "go"
  obtain ⟨k0, hk0, hk3⟩ := fmod3 su
  rw [hk0]
  have hp7 := hk7 _ _ e3
  have hr7 := hk7 _ _ e4
  refine newList_N F7 N7 ?_
  have sp : (pc : Nat) < h7.objs.size := Heap.lt_size hp7
  have sr : (r : Nat) < h7.objs.size := Heap.lt_size hr7
  clear N7 hk7
  generalize ha0 : h7.objs.size = a0 at *
  intro h8 F8 N8
  dsimp only at F8 N8 ⊢
  refine stN F8 N8 ?_
  clear F7 F8 N8
  intro h9 F9 N9
  dsimp only at F9 N9 ⊢
  walk_at "go"
  have sa : (a0 : Nat) < h9.objs.size := Heap.lt_size (N9 _ (.head _)).1
  refine newList_N F9 N9 ?_
  generalize hDe : h9.objs.size = D at *
  intro h10 F10 N10
  dsimp only at F10 N10 ⊢
  refine stN F10 N10 ?_
  clear F9 N9 F10 N10
  intro h11 F11 N11
  dsimp only at F11 N11 ⊢
  walk1
  refine forList hh (fun _ => rfl) (fun _ _ => rfl) ?_
  walk1
  have g1 := (N11 _ (.head _)).1
  have g2 := (N11 _ (.tail _ (.head _))).1
  have g3 := (N11 _ (.tail _ (.tail _ (mem_led.mpr ⟨e7, by simp, e4⟩)))).1
  have g4 := (N11 _ (.tail _ (.tail _ (mem_led.mpr ⟨hl1, by simp, e3⟩)))).1
  have sD : (D : Nat) < h11.objs.size := Heap.lt_size g1
  have hpcL : L < pc := hl1
  clear N11 F₅ hps hr0 hi10 hl10 hr7 hp7 e3 e4 hxs hk
  dsimp only at g1 g2 g3 g4 ⊢
  have hrL : (L : Nat) < r := e7
  have hr1 : (r : Nat) < a0 := sr
  have hp1 : (pc : Nat) < a0 := sp
  generalize hIt : h11.objs.size = it at *
  refine ⟨r, ws.toArray, (InvTree s L pc ps r a0 D it), rfl, ⟨_, g3, rfl, _, rfl⟩, ?stab, ?start, ?turn, ?done⟩
  case stab =>
    rintro i s₂ h' tk' ⟨h5, tk5, m, n, stk, rfl, e2, e3, e4, e5', e6', e7', e8, e9, e10, e11, e12, e13, e14⟩ htk hk'
    have hnd := e9
    simp only [List.nodup_cons, List.mem_cons, not_or] at hnd
    refine ⟨h', tk', m, n, stk, rfl, ?_, e3, e4, e5', hk' _ _ (by (exact Nat.ne_of_lt ((Nat.lt_trans sp (Nat.lt_trans sa sD))))) e6', hk' _ _ (by (exact Nat.ne_of_lt (sD))) e7', ?_, e9, e10, e11, e12, e13, e14⟩
    · refine Fr_kept (M := [it]) e2 (by simp; (exact Nat.ne_of_lt ((Nat.lt_trans hl1 (Nat.lt_trans sp (Nat.lt_trans sa sD)))))) ?_ ?_
      · intro b hb; rw [List.mem_singleton.mp hb]; exact none_above e2.above (by (exact (Nat.lt_trans hl1 (Nat.lt_trans sp (Nat.lt_trans sa sD)))))
      · intro b o hb e; exact hk' b o (by simpa using hb) e
    · exact e8.mono (lkP_mono fun b o hb e => ⟨hb, hk' b o (fun q => hb.2 (by rw [q]; exact .head _)) e⟩) (fun p hp o e => hk' _ _ (fun q => hnd.2.2.1.2 (by rw [← q]; exact List.mem_map_of_mem hp)) e)
  case start =>
    refine ⟨h11, _, _, 0, [(a0, k0, .nil)], rfl, F11, rfl, rfl, rfl, g4, g1, ⟨⟨_, [], 0, g2, rfl⟩, trivial⟩, ?_, ?_, ⟨hk3, trivial, by simp [Its.depth], trivial⟩, by simp [cnt, Its.count], by simp, rfl⟩
    · simp only [List.map_cons, List.map_nil, List.nodup_cons, List.mem_cons, List.not_mem_nil, or_false, not_or, not_false_eq_true, List.nodup_nil, and_true]
      refine ⟨⟨?_, ?_, ?_, ?_⟩, ⟨?_, ?_, ?_⟩, ⟨?_, ?_⟩, ?_⟩ <;> (first | with_reducible assumption | exact Nat.ne_of_lt ((Nat.lt_trans sr (Nat.lt_trans sa sD))) | exact Nat.ne_of_lt ((Nat.lt_trans sr sa)) | exact Nat.ne_of_lt (sr) | exact Nat.ne_of_lt ((Nat.lt_trans sp (Nat.lt_trans sa sD))) | exact Nat.ne_of_lt ((Nat.lt_trans sp sa)) | exact Nat.ne_of_lt (sp) | exact Nat.ne_of_gt (sD) | exact Nat.ne_of_gt ((Nat.lt_trans sa sD)) | exact Nat.ne_of_gt (sa))
    · intro x hx
      simp at hx
      (exact (Nat.lt_trans hl1 (Nat.lt_of_lt_of_le sp (Nat.le_of_eq (Eq.symm hx)))))
  case done =>
    rintro s₂ ⟨h5, tk5, m, n, stk, rfl, e2, e3, e4, e5', e6', e7', e8, e9, e10, e11, e12, e13, e14⟩
    rw [List.size_toArray] at e12
    replace e2 := Fr_pin (x := Str.ofString "tree") e2 e5'
    have hsL : s.heap.objs.size ≤ L := e2.above
    obtain ⟨kk, tt, q1, q2, q3⟩ := stk_root (h := h5) (lkT := lkP (fun a => s.heap.objs.size ≤ a) h5) (stk.length - 1) stk _ (lkP_mono fun a o hx e => ⟨Nat.le_trans hsL (Nat.le_of_lt hx.1), e⟩)
      (fun p hp o e => lkP_some.mpr ⟨Nat.le_trans hsL (Nat.le_of_lt (e10 p.1 (List.mem_map_of_mem hp))), e⟩) (by
      have : stk.length ≠ 0 := fun q => e13 (List.length_eq_zero_iff.mp q)
      omega) e8 e11 (by omega) a0 e14
    walk_at "go"
    exact h _ kk tt h5 tk5 q1 q2 q3 fun b o e => e2.keep b o e
  case turn =>
    rintro i v s₂ hv ⟨h5, tk5, m, n, stk, rfl, e2, e3, e4, e5', e6', e7', e8, e9, e10, e11, e12, e13, e14⟩ hit hls
    obtain ⟨nv, tv, rfl, _⟩ := e5.at i v (by simpa using hv)
    have hiw : i < 10 := by
      have := (Array.getElem?_eq_some_iff.mp hv).1
      rw [List.size_toArray] at this
      (exact (Nat.lt_of_lt_of_le this e6))
    cases stk with
    | nil => exact absurd rfl e13
    | cons p rest =>
      replace e2 := Fr_pin (x := Str.ofString "pieces") (Fr_pin (x := Str.ofString "standing") (Fr_pin (x := Str.ofString "tree") e2 e5') e4) e3
      have hnd := e9
      simp only [List.map_cons, List.nodup_cons, List.mem_cons, not_or] at hnd
      obtain ⟨⟨q1, q2, q3, q4, q5⟩, ⟨q6, q7, q8, q9⟩, ⟨q10, q11, q12⟩, ⟨q13, q14⟩, q15, q16⟩ := hnd
      have mpc : (pc : Nat) ∉ [p.1, D] := by simp only [List.mem_cons, List.not_mem_nil, or_false, not_or]; exact ⟨q8, q7⟩
      have mr : (r : Nat) ∉ [p.1, D] := by simp only [List.mem_cons, List.not_mem_nil, or_false, not_or]; exact ⟨q4, q3⟩
      have mit : (it : Nat) ∉ [p.1, D] := by simp only [List.mem_cons, List.not_mem_nil, or_false, not_or]; exact ⟨q11, q10⟩
      have mrest : ∀ q ∈ rest, q.1 ∉ [p.1, D] := fun q hq => by
        simp only [List.mem_cons, List.not_mem_nil, or_false, not_or]
        exact ⟨fun z => q15 (by rw [← z]; exact List.mem_map_of_mem hq), fun z => q14 (by rw [← z]; exact List.mem_map_of_mem hq)⟩
      have hDp : (fun a b : Nat => a ≠ b) D p.1 := q13
      clear q1 q2 q3 q4 q5 q6 q7 q8 q9 q10 q11 q12 q13 q14 q15 q16
      obtain ⟨⟨tkp, vsp, np, hp, hIp⟩, hrs⟩ := e8
      have hpL : L < p.1 := e10 p.1 (by simp)
      have hvl : vsp.length ≤ 10 := by have := hIp.length; simp only [cnt] at e12; omega
      have hrl : rest.length ≤ 3 := by have := e11.2.2.1; omega
      rw [List.map_cons, List.reverse_cons] at e7'
      rw [List.append_nil] at hp
      have hitL : (L : Nat) < it := by (exact (Nat.lt_trans hl1 (Nat.lt_trans sp (Nat.lt_trans sa sD))))
      have N := news_cons hp (by show p.1 ≠ L; (exact Nat.ne_of_gt (hpL))) (none_above e2.above (by show L < p.1; (with_reducible assumption))) (news_cons e7' (by show D ≠ L; (exact Nat.ne_of_gt ((Nat.lt_trans hl1 (Nat.lt_trans sp sa))))) (none_above e2.above (by show L < D; (exact (Nat.lt_trans hl1 (Nat.lt_trans sp sa))))) (news_led e2 [p.1, D]))
      refine wpAny_assign_Name ?_
      refine stN e2 N ?_
      intro h6 F6 N6
      dsimp only at F6 N6 ⊢
      have k6 : ∀ (b : Nat) o, L < b → b ∉ [p.1, D] → h5.get? b = some o → h6.get? b = some o := fun b o h1 h2 e => kept_up (M := [p.1, D]) N6 (fun p hp => .tail _ (.tail _ hp)) h2 h1 e
      have hne1 : ∀ q ∈ (D, listOf ((rest.map (fun p => Value.ref p.1)).reverse ++ [Value.ref p.1]).toArray n) :: led L [p.1, D] h5, q.1 ≠ p.1 := fun q hq => by
        rcases List.mem_cons.mp hq with rfl | hq
        · exact hDp
        · exact led_ne (by simp) q hq
      walk_at "go"
      · refine PyProof.Rows.len_list ⟨_, (N6 _ (.tail _ (.head _))).1, rfl, _, rfl⟩ (by simp [List.length_append, List.length_reverse, List.length_map]; omega) ?_
        refine gen_toks (Nat.succ_pos _) fun tka htka => ?_
        dsimp only
        walk_at "go"
        · rename _ < (4 : Int) => hlen4
          have hr2 : rest.length ≤ 2 := by
            have : (((rest.map (fun p => Value.ref p.1)).reverse ++ [Value.ref p.1]).toArray.size : Int) < 4 := hlen4
            simp only [List.size_toArray, List.length_append, List.length_reverse, List.length_map, List.length_singleton] at this
            clear hlen4 e12 hvl hrl
            omega
          obtain ⟨k3, hk3', hk33⟩ := fmod3 (nv.fdiv 4)
          rw [hk3']
          have b1 : (p.1 : Nat) < h6.objs.size := Heap.lt_size (N6 _ (.head _)).1
          have b2 : (D : Nat) < h6.objs.size := Heap.lt_size (N6 _ (.tail _ (.head _))).1
          have b3 : (pc : Nat) < h6.objs.size := Heap.lt_size (k6 pc _ hpcL mpc e6')
          have b4 : (it : Nat) < h6.objs.size := by obtain ⟨o, q, _⟩ := hit; exact Heap.lt_size (k6 it _ hitL mit q)
          have b5 : (r : Nat) < h6.objs.size := by obtain ⟨o, q, _⟩ := hls; exact Heap.lt_size (k6 r _ hrL mr q)
          have b6 : ∀ q ∈ rest, (q.1 : Nat) < h6.objs.size := fun q hq => by
            obtain ⟨o, z⟩ := hrs.live q hq
            exact Heap.lt_size (k6 _ _ (e10 q.1 (by rw [List.map_cons]; exact .tail _ (List.mem_map_of_mem hq))) (mrest q hq) z)
          have b7 : ∀ (x : Nat) o, L < x → x ∉ [p.1, D] → h5.get? x = some o → x < h6.objs.size := fun x o h1 h2 e => Heap.lt_size (k6 x o h1 h2 e)
          refine newList_N F6 N6 ?_
          generalize hB : h6.objs.size = b at *
          intro h7 F7 N7
          dsimp only at F7 N7 ⊢
          refine stN F7 N7 ?_
          clear F7 N7
          intro h8 F8 N8
          dsimp only at F8 N8 ⊢
          walk_at "go"
          refine item_last (vs := (rest.map (fun p => Value.ref p.1)).reverse) ⟨_, (N8 _ (.tail _ (.tail _ (.head _)))).1, rfl, _, rfl⟩ (by rw [List.length_reverse, List.length_map]; (exact Nat.le_of_lt (Nat.lt_of_le_of_lt hrl (by decide)))) ?_ (by with_unfolding_all rfl) (by intro _; with_unfolding_all rfl)
          refine gen_toks (Nat.succ_pos _) fun tkz htkz => ?_
          dsimp only
          walk_at "go"
          refine append_K F8 N8 (Upd.tail (Nat.ne_of_gt b1) (Upd.head hne1)) ?_ (hsz := by simp only [List.size_toArray, List.length_cons, sizeLine]; (exact (Nat.lt_of_le_of_lt hvl (by decide))))
          clear F8 N8
          intro h9 F9 N9
          dsimp only at F9 N9 ⊢
          walk_at "go"
          refine append_K F9 N9 (Upd.tail (Nat.ne_of_gt b2) (Upd.tail (Ne.symm hDp) (Upd.head (led_ne (by simp))))) ?_ (hsz := by simp only [List.size_toArray, List.length_append, List.length_reverse, List.length_map, List.length_singleton, sizeLine]; (exact (Nat.lt_of_le_of_lt hrl (by decide))))
          clear F9 N9
          intro h10 F10 N10
          dsimp only at F10 N10 ⊢
          walk_at "go"
          have k9 : ∀ (x : Nat) o, L < x → x ∉ [p.1, D] → h5.get? x = some o → h10.get? x = some o := fun x o h1 h2 e => kept_up (M := [p.1, D]) N10 (fun p hp => .tail _ (.tail _ (.tail _ hp))) h2 h1 e
          have hlk : ∀ a o, lkP (fun x => L < x ∧ x ∉ it :: D :: (p :: rest).map (·.1)) h5 a = some o → lkP (fun z => L < z ∧ z ∉ it :: D :: ((b, k3, Its.nil) :: p :: rest).map (·.1)) h10 a = some o := by
            refine lkP_mono fun x o hx e => ?_
            have hxm : x ∉ [p.1, D] := fun q => hx.2 (by rcases List.mem_cons.mp q with q | q; rw [q]; simp; rw [List.mem_singleton.mp q]; simp)
            have hxb : x ≠ b := Nat.ne_of_lt (b7 x o hx.1 hxm e)
            refine ⟨⟨hx.1, ?_⟩, k9 x o hx.1 hxm e⟩
            have := hx.2
            simp only [List.map_cons, List.mem_cons, not_or] at this ⊢
            exact ⟨this.1, this.2.1, hxb, this.2.2⟩
          refine ⟨hit.at fun o e => k9 it o hitL mit e, hls.at fun o e => k9 r o hrL mr e, h10, _, _, n + 1, (b, k3, .nil) :: p :: rest, rfl, F10, rfl, rfl, rfl, k9 pc _ hpcL mpc e6', ?_, ⟨⟨_, [], 0, (N10 _ (.head _)).1, rfl⟩, ⟨tkp, vsp, np + 1, ?_, hIp.mono hlk⟩, ?_⟩, ?_, ?_, ⟨hk33, trivial, by simp [Its.depth]; exact hr2, e11⟩, ?_, by simp, ?_⟩
          · have := (N10 _ (.tail _ (.tail _ (.head _)))).1
            simpa using this
          · have := (N10 _ (.tail _ (.head _))).1
            simpa using this
          · exact hrs.mono hlk fun q hq o e => k9 _ _ (e10 q.1 (by rw [List.map_cons]; exact .tail _ (List.mem_map_of_mem hq))) (mrest q hq) e
          · simp only [List.map_cons, List.nodup_cons, List.mem_cons, not_or] at e9 ⊢
            refine ⟨⟨e9.1.1, e9.1.2.1, e9.1.2.2.1, Nat.ne_of_lt b5, e9.1.2.2.2⟩, ⟨e9.2.1.1, e9.2.1.2.1, Nat.ne_of_lt b3, e9.2.1.2.2⟩, ⟨e9.2.2.1.1, Nat.ne_of_lt b4, e9.2.2.1.2⟩, ⟨Nat.ne_of_lt b2, e9.2.2.2.1⟩, ⟨Nat.ne_of_gt b1, fun q => ?_⟩, e9.2.2.2.2⟩
            obtain ⟨q', hq', z⟩ := List.mem_map.mp q
            exact absurd (b6 q' hq') (by rw [z]; exact Nat.lt_irrefl _)
          · intro x hx
            rw [List.map_cons] at hx
            rcases List.mem_cons.mp hx with rfl | hx
            · exact Nat.lt_trans hpL b1
            · exact e10 x hx
          · simp only [cnt, Its.count] at e12 ⊢
            clear hlen4
            omega
          · rw [List.map_cons, List.map_cons, List.getLast?_cons_cons, ← List.map_cons]; exact e14
        · rename nv.fmod 4 = 0 => z0
          rename nv.fmod 4 = 1 => z1
          rw [z0] at z1
          cases z1
        · skip
          refine item_last (vs := (rest.map (fun p => Value.ref p.1)).reverse) ⟨_, (N6 _ (.tail _ (.head _))).1, rfl, _, rfl⟩ (by rw [List.length_reverse, List.length_map]; (exact Nat.le_of_lt (Nat.lt_of_le_of_lt hrl (by decide)))) ?_ (by with_unfolding_all rfl) (by intro _; with_unfolding_all rfl)
          refine gen_toks (Nat.succ_pos _) fun tkz htkz => ?_
          dsimp only
          walk_at "go"
          obtain ⟨k12, hk12, hk12'⟩ := fmod12 (nv.fdiv 4)
          rw [hk12]
          obtain ⟨x, tx, hx, hxp⟩ := hp12 k12 hk12'
          refine item_listL (l := ps) ⟨_, k6 pc _ hpcL mpc e6', rfl, _, rfl⟩ (Int.natCast_nonneg _) (Int.lt_of_lt_of_le (Int.ofNat_lt.mpr hk12') (by decide)) (by simpa using hx) ?_
          refine gen_toks (Nat.succ_pos _) fun tky htky => ?_
          dsimp only
          walk_at "go"
          refine append_K F6 N6 (Upd.head hne1) ?_ (hsz := by simp only [List.size_toArray, List.length_cons, sizeLine]; (exact (Nat.lt_of_le_of_lt hvl (by decide))))
          intro h9 F9 N9
          walk_at "go"
          have k9 : ∀ (b : Nat) o, L < b → b ∉ [p.1, D] → h5.get? b = some o → h9.get? b = some o := fun b o h1 h2 e => kept_up (M := [p.1, D]) N9 (fun p hp => .tail _ (.tail _ hp)) h2 h1 e
          have hlk : ∀ a o, lkP (fun x => L < x ∧ x ∉ it :: D :: (p :: rest).map (·.1)) h5 a = some o → lkP (fun z => L < z ∧ z ∉ it :: D :: ((p.1, p.2.1, p.2.2.app (.str x .nil)) :: rest).map (·.1)) h9 a = some o :=
            lkP_mono fun b o hb e => ⟨hb, k9 b o hb.1 (fun q => hb.2 (by rcases List.mem_cons.mp q with q | q; rw [q]; simp; rw [List.mem_singleton.mp q]; simp)) e⟩
          refine ⟨hit.at fun o e => k9 it o hitL mit e, hls.at fun o e => k9 r o hrL mr e, h9, _, _, n, (p.1, p.2.1, p.2.2.app (.str x .nil)) :: rest, rfl, F9, rfl, rfl, rfl, k9 pc _ hpcL mpc e6', ?_, ⟨⟨tkp, vsp ++ [.str x tx], np + 1, ?_, ?_⟩, ?_⟩, e9, e10, ⟨e11.1, Its.ok_app e11.2.1 ⟨hxp, trivial⟩, ?_, e11.2.2.2⟩, ?_, by simp, e14⟩
          · have := (N9 _ (.tail _ (.head _))).1
            simpa using this
          · have := (N9 _ (.head _)).1
            simpa using this
          · exact ItemsAt.app (show ItemsAt _ (.str x .nil) [.str x tx] from ⟨tx, [], rfl, rfl⟩) (hIp.mono hlk)
          · exact hrs.mono hlk fun q hq o e => k9 _ _ (e10 q.1 (by rw [List.map_cons]; exact .tail _ (List.mem_map_of_mem hq))) (mrest q hq) e
          · show rest.length + (Its.app _ _).depth ≤ 3
            rw [Its.depth_app]
            have := e11.2.2.1
            simp only [Its.depth]
            omega
          · simp only [cnt, Its.count_app, Its.count] at e12 ⊢
            omega
      · refine PyProof.Rows.len_list ⟨_, (N6 _ (.tail _ (.head _))).1, rfl, _, rfl⟩ (by simp [List.length_append, List.length_reverse, List.length_map]; omega) ?_
        refine gen_toks (Nat.succ_pos _) fun tka htka => ?_
        dsimp only
        walk_at "go"
        · rename _ > (1 : Int) => hlen1
          have hr1' : rest ≠ [] := by
            rintro rfl
            have : (((([] : List (Nat × Nat × Its)).map (fun p => Value.ref p.1)).reverse ++ [Value.ref p.1]).toArray.size : Int) > 1 := hlen1
            simp at this
          obtain ⟨q0, rest', rfl⟩ := List.exists_cons_of_ne_nil hr1'
          refine kl_pop F6 N6 (kl_last_snoc _ (Value.ref p.1)) (Upd.tail (Ne.symm hDp) (Upd.head (led_ne (by simp)))) (by simp only [List.toList_toArray, List.length_append, List.length_reverse, List.length_map, List.length_singleton, sizeLine]; (exact (Nat.lt_of_le_of_lt hrl (by decide)))) ?_
          intro h9 F9 N9
          walk_at "go"
          have k9 : ∀ (b : Nat) o, L < b → b ∉ [p.1, D] → h5.get? b = some o → h9.get? b = some o := fun b o h1 h2 e => kept_up (M := [p.1, D]) N9 (fun p hp => .tail _ (.tail _ hp)) h2 h1 e
          have hnd := e9
          simp only [List.map_cons, List.nodup_cons, List.mem_cons, not_or] at hnd
          have hlk : ∀ a o, lkP (fun x => L < x ∧ x ∉ it :: D :: (p :: q0 :: rest').map (·.1)) h5 a = some o → lkP (fun z => L < z ∧ z ∉ it :: D :: ((q0.1, q0.2.1, q0.2.2.app (.sub p.2.1 p.2.2 .nil)) :: rest').map (·.1)) h9 a = some o := by
            refine lkP_mono fun x o hx e => ?_
            have hxm : x ∉ [p.1, D] := fun q => hx.2 (by rcases List.mem_cons.mp q with q | q; rw [q]; simp; rw [List.mem_singleton.mp q]; simp)
            refine ⟨⟨hx.1, ?_⟩, k9 x o hx.1 hxm e⟩
            have := hx.2
            simp only [List.map_cons, List.mem_cons, not_or] at this ⊢
            exact ⟨this.1, this.2.1, this.2.2.2⟩
          have hstk : StkAt (lkP (fun z => L < z ∧ z ∉ it :: D :: ((q0.1, q0.2.1, q0.2.2.app (.sub p.2.1 p.2.2 .nil)) :: rest').map (·.1)) h9) h9 [] (p :: q0 :: rest') := ⟨⟨tkp, vsp, np, by rw [List.append_nil]; exact (N9 _ (.head _)).1, hIp.mono hlk⟩, hrs.mono hlk fun q hq o e => k9 _ _ (e10 q.1 (by rw [List.map_cons]; exact .tail _ (List.mem_map_of_mem hq))) (mrest q hq) e⟩
          refine ⟨hit.at fun o e => k9 it o hitL mit e, hls.at fun o e => k9 r o hrL mr e, h9, _, _, n + 1, (q0.1, q0.2.1, q0.2.2.app (.sub p.2.1 p.2.2 .nil)) :: rest', rfl, F9, rfl, rfl, rfl, k9 pc _ hpcL mpc e6', ?_, hstk.pop (fun _ _ e => e) (fun o e => lkP_some.mpr ⟨⟨hpL, ?_⟩, e⟩), ?_, fun x hx => e10 x (by rw [List.map_cons]; exact .tail _ hx), e11.pop, by rw [cnt_pop]; exact Nat.le_succ_of_le e12, by simp, ?_⟩
          · have := (N9 _ (.tail _ (.head _))).1
            simpa using this
          · simp only [List.map_cons, List.mem_cons, not_or]
            exact ⟨Ne.symm hnd.2.2.1.2.1, Ne.symm hnd.2.2.2.1.1, hnd.2.2.2.2.1.1, hnd.2.2.2.2.1.2⟩
          · simp only [List.map_cons, List.nodup_cons, List.mem_cons, not_or]
            exact ⟨⟨hnd.1.1, hnd.1.2.1, hnd.1.2.2.1, hnd.1.2.2.2.2⟩, ⟨hnd.2.1.1, hnd.2.1.2.1, hnd.2.1.2.2.2⟩, ⟨hnd.2.2.1.1, hnd.2.2.1.2.2⟩, hnd.2.2.2.1.2, hnd.2.2.2.2.2⟩
          · simpa using e14
        · skip
          refine item_last (vs := (rest.map (fun p => Value.ref p.1)).reverse) ⟨_, (N6 _ (.tail _ (.head _))).1, rfl, _, rfl⟩ (by rw [List.length_reverse, List.length_map]; (exact Nat.le_of_lt (Nat.lt_of_le_of_lt hrl (by decide)))) ?_ (by with_unfolding_all rfl) (by intro _; with_unfolding_all rfl)
          refine gen_toks (Nat.succ_pos _) fun tkz htkz => ?_
          dsimp only
          walk_at "go"
          obtain ⟨k12, hk12, hk12'⟩ := fmod12 (nv.fdiv 4)
          rw [hk12]
          obtain ⟨x, tx, hx, hxp⟩ := hp12 k12 hk12'
          refine item_listL (l := ps) ⟨_, k6 pc _ hpcL mpc e6', rfl, _, rfl⟩ (Int.natCast_nonneg _) (Int.lt_of_lt_of_le (Int.ofNat_lt.mpr hk12') (by decide)) (by simpa using hx) ?_
          refine gen_toks (Nat.succ_pos _) fun tky htky => ?_
          dsimp only
          walk_at "go"
          refine append_K F6 N6 (Upd.head hne1) ?_ (hsz := by simp only [List.size_toArray, List.length_cons, sizeLine]; (exact (Nat.lt_of_le_of_lt hvl (by decide))))
          intro h9 F9 N9
          walk_at "go"
          have k9 : ∀ (b : Nat) o, L < b → b ∉ [p.1, D] → h5.get? b = some o → h9.get? b = some o := fun b o h1 h2 e => kept_up (M := [p.1, D]) N9 (fun p hp => .tail _ (.tail _ hp)) h2 h1 e
          have hlk : ∀ a o, lkP (fun x => L < x ∧ x ∉ it :: D :: (p :: rest).map (·.1)) h5 a = some o → lkP (fun z => L < z ∧ z ∉ it :: D :: ((p.1, p.2.1, p.2.2.app (.str x .nil)) :: rest).map (·.1)) h9 a = some o :=
            lkP_mono fun b o hb e => ⟨hb, k9 b o hb.1 (fun q => hb.2 (by rcases List.mem_cons.mp q with q | q; rw [q]; simp; rw [List.mem_singleton.mp q]; simp)) e⟩
          refine ⟨hit.at fun o e => k9 it o hitL mit e, hls.at fun o e => k9 r o hrL mr e, h9, _, _, n, (p.1, p.2.1, p.2.2.app (.str x .nil)) :: rest, rfl, F9, rfl, rfl, rfl, k9 pc _ hpcL mpc e6', ?_, ⟨⟨tkp, vsp ++ [.str x tx], np + 1, ?_, ?_⟩, ?_⟩, e9, e10, ⟨e11.1, Its.ok_app e11.2.1 ⟨hxp, trivial⟩, ?_, e11.2.2.2⟩, ?_, by simp, e14⟩
          · have := (N9 _ (.tail _ (.head _))).1
            simpa using this
          · have := (N9 _ (.head _)).1
            simpa using this
          · exact ItemsAt.app (show ItemsAt _ (.str x .nil) [.str x tx] from ⟨tx, [], rfl, rfl⟩) (hIp.mono hlk)
          · exact hrs.mono hlk fun q hq o e => k9 _ _ (e10 q.1 (by rw [List.map_cons]; exact .tail _ (List.mem_map_of_mem hq))) (mrest q hq) e
          · show rest.length + (Its.app _ _).depth ≤ 3
            rw [Its.depth_app]
            have := e11.2.2.1
            simp only [Its.depth]
            omega
          · simp only [cnt, Its.count_app, Its.count] at e12 ⊢
            omega
      · skip
        refine item_last (vs := (rest.map (fun p => Value.ref p.1)).reverse) ⟨_, (N6 _ (.tail _ (.head _))).1, rfl, _, rfl⟩ (by rw [List.length_reverse, List.length_map]; (exact Nat.le_of_lt (Nat.lt_of_le_of_lt hrl (by decide)))) ?_ (by with_unfolding_all rfl) (by intro _; with_unfolding_all rfl)
        refine gen_toks (Nat.succ_pos _) fun tkz htkz => ?_
        dsimp only
        walk_at "go"
        obtain ⟨k12, hk12, hk12'⟩ := fmod12 (nv.fdiv 4)
        rw [hk12]
        obtain ⟨x, tx, hx, hxp⟩ := hp12 k12 hk12'
        refine item_listL (l := ps) ⟨_, k6 pc _ hpcL mpc e6', rfl, _, rfl⟩ (Int.natCast_nonneg _) (Int.lt_of_lt_of_le (Int.ofNat_lt.mpr hk12') (by decide)) (by simpa using hx) ?_
        refine gen_toks (Nat.succ_pos _) fun tky htky => ?_
        dsimp only
        walk_at "go"
        refine append_K F6 N6 (Upd.head hne1) ?_ (hsz := by simp only [List.size_toArray, List.length_cons, sizeLine]; (exact (Nat.lt_of_le_of_lt hvl (by decide))))
        intro h9 F9 N9
        walk_at "go"
        have k9 : ∀ (b : Nat) o, L < b → b ∉ [p.1, D] → h5.get? b = some o → h9.get? b = some o := fun b o h1 h2 e => kept_up (M := [p.1, D]) N9 (fun p hp => .tail _ (.tail _ hp)) h2 h1 e
        have hlk : ∀ a o, lkP (fun x => L < x ∧ x ∉ it :: D :: (p :: rest).map (·.1)) h5 a = some o → lkP (fun z => L < z ∧ z ∉ it :: D :: ((p.1, p.2.1, p.2.2.app (.str x .nil)) :: rest).map (·.1)) h9 a = some o :=
          lkP_mono fun b o hb e => ⟨hb, k9 b o hb.1 (fun q => hb.2 (by rcases List.mem_cons.mp q with q | q; rw [q]; simp; rw [List.mem_singleton.mp q]; simp)) e⟩
        refine ⟨hit.at fun o e => k9 it o hitL mit e, hls.at fun o e => k9 r o hrL mr e, h9, _, _, n, (p.1, p.2.1, p.2.2.app (.str x .nil)) :: rest, rfl, F9, rfl, rfl, rfl, k9 pc _ hpcL mpc e6', ?_, ⟨⟨tkp, vsp ++ [.str x tx], np + 1, ?_, ?_⟩, ?_⟩, e9, e10, ⟨e11.1, Its.ok_app e11.2.1 ⟨hxp, trivial⟩, ?_, e11.2.2.2⟩, ?_, by simp, e14⟩
        · have := (N9 _ (.tail _ (.head _))).1
          simpa using this
        · have := (N9 _ (.head _)).1
          simpa using this
        · exact ItemsAt.app (show ItemsAt _ (.str x .nil) [.str x tx] from ⟨tx, [], rfl, rfl⟩) (hIp.mono hlk)
        · exact hrs.mono hlk fun q hq o e => k9 _ _ (e10 q.1 (by rw [List.map_cons]; exact .tail _ (List.mem_map_of_mem hq))) (mrest q hq) e
        · show rest.length + (Its.app _ _).depth ≤ 3
          rw [Its.depth_app]
          have := e11.2.2.1
          simp only [Its.depth]
          omega
        · simp only [cnt, Its.count_app, Its.count] at e12 ⊢
          omega
end Mine

end T_W14
section T_W15
set_option autoImplicit false
set_option linter.all false
open PySem PySem.W PyProof.Rows PySem.Calls
set_option Elab.async false
set_option maxRecDepth 100000
set_option maxHeartbeats 8000000
namespace Mine
theorem off_W15 : True := by w_top off; trivial
theorem go_listIter {w : World} {A : Around} {E : Value → Shared → Prop} {s : Shared} {elts : List Expr} {x1 : Nat} {pt : Pos} {I l : Addr} {i : Nat} {v : Value} {Q : Unit → Shared → Prop} (hg : s.heap.IsListIter I l i) (h : Q () s) :
    wpAny (model PR w) A (letOwnedTupleGo (.Tuple elts x1 pt) (.ref I) v) Q E s := by
  obtain ⟨⟨c, d, dt, sl⟩, ho, hc, hd⟩ := hg
  dsimp only at hc hd
  subst hc hd
  cases v with
  | ref b =>
    unfold letOwnedTupleGo
    refine wpAny_bind (wpAny_load ho ?_)
    show wpAny _ A (if (["enumerate", "zip", "dict_itemiterator", "dict_reverseitemiterator", "odict_iterator", "itertools.zip_longest", "itertools.pairwise"].contains "list_iterator" && _) = true then _ else _) Q E s
    rw [if_neg (by simp)]
    exact wpAny_pure h
  | _ => exact wpAny_pure h

/-- [x for x, y in xs] over a list of pairs -/
theorem compRows {w : World} {A : Around} {s : Shared} {Q : Value → Shared → Prop} {env : Env} {iter : Expr} {x y : Str} {pe px py tp : Pos} {x1 : Nat} {scope : Scope} {pos : Pos} {E : Value → Shared → Prop} {cl : List (Str × Addr)}
    (hh : A.handled = none) (hclos : closureFor scope env = pure cl) (hcell : ∀ y ∈ scope.names, y.2 ≠ .cell) (hkind : scope.kind = .function)
    (hnames : ∀ y ∈ scope.names, y.2 = .local → scope.names.lookup y.1 = some .local) (hx : scope.names.lookup x = some .local) (hy : scope.names.lookup y = some .local) (hxy : x ≠ y) (hdb : (x == ("__debug__" : Str)) = false)
    (h : wpAny (model PR w) A (eval iter env) (fun xv s₁ => ∃ (l : Nat) (items xs : List Value), xv = .ref l ∧ s₁.heap.IsList l items.toArray ∧ items.length ≤ 1000 ∧ xs.length = items.length ∧
      (∀ (i : Nat) v, items[i]? = some v → ∃ T v1 v2, v = .ref T ∧ s₁.heap.IsTuple T #[v1, v2] ∧ xs[i]? = some v1) ∧
      (∀ (D : Nat) h' tk n, s₁.heap.get? D = none → h'.get? D = some (listOf xs.toArray n) → (∀ b o, s₁.heap.get? b = some o → h'.get? b = some o) → Q (.ref D) { s₁ with heap := h', toks := tk })) E s)
    (hs : ∀ x, foldedSetIterable iter env x = pure x) :
    wpAny (model PR w) A (eval (.ListComp (.Name x pe) [⟨.Tuple [.Name x px, .Name y py] x1 tp, iter, [], 0⟩] scope pos) env) Q E s := by
  rw [eval_ListComp]
  refine wpAny_comprehension_free (use := none) rfl hs hclos hkind hnames (wpAny_mono h (fun xv s₁ h₁ => ?_) fun _ _ e => e)
  obtain ⟨l, items, xs, rfl, hl, hlen, hxl, hit, hQ⟩ := h₁
  have hlt : l < s₁.heap.objs.size := by obtain ⟨ol, hol, _⟩ := id hl; exact Heap.lt_size hol
  refine wpAny_pyIter_list hl ?_
  generalize hH1 : s₁.heap.push { cls := .type "list_iterator", data := .fields #[.ref l, .int 0 0] } = H1
  have hI1 : H1.IsListIter s₁.heap.objs.size l 0 := by rw [← hH1]; exact ⟨_, Heap.get?_push_size _ rfl, rfl, rfl⟩
  have hz1 : H1.objs.size = s₁.heap.objs.size + 1 := by rw [← hH1, Heap.size_push]
  have up1 : ∀ b o, s₁.heap.get? b = some o → H1.get? b = some o := fun b o e => by rw [← hH1]; exact Heap.get?_push_of_some _ e
  generalize hI : s₁.heap.objs.size = I at *
  refine wpAny_newObj_type (wpAny_newFunctionEnv hcell (by intro y hy; simp at hy) (fun h₁ hns₁ hsb₁ => ?_) hkind)
  dsimp only at hns₁ hsb₁ ⊢
  generalize hH2 : H1.push { cls := .type "list", dict := none, data := .seq ([] : List Value).toArray } = H2 at hns₁ hsb₁ ⊢
  have hz2 : H2.objs.size = I + 2 := by rw [← hH2, Heap.size_push, hz1]
  have hD2 : H2.get? (I + 1) = some (listOf ([] : List Value).toArray 0) := by have := Heap.get?_push_size H1 (o := { cls := .type "list", dict := none, data := .seq ([] : List Value).toArray }) rfl; rw [hz1, hH2] at this; exact this
  have up2 : ∀ b o, H1.get? b = some o → H2.get? b = some o := fun b o e => by rw [← hH2]; exact Heap.get?_push_of_some _ e
  rw [hz1]
  rw [hz2] at hns₁ hsb₁ ⊢
  have up3 : ∀ (b : Nat) o, b < I + 2 → H2.get? b = some o → h₁.get? b = some o := fun b o hb e => hsb₁.extBut b o (Nat.ne_of_lt hb) (Heap.get?_push_of_some _ e)
  have hl1 : h₁.IsList l items.toArray := hl.at fun o e => up3 l o (by (exact Nat.lt_add_right _ hlt)) (up2 l o (up1 l o e))
  have hD1 : h₁.get? (I + 1) = some (listOf ([] : List Value).toArray 0) := up3 (I + 1) _ (by (with_reducible exact Nat.lt_succ_self _)) hD2
  have hit1 : h₁.IsListIter I l 0 := hI1.at fun o e => up3 I o (by omega) (up2 I o e)
  have lo : ∀ (b : Nat) o, s₁.heap.get? b = some o → b < I := fun b o e => hI ▸ Heap.lt_size e
  have old : ∀ b o, s₁.heap.get? b = some o → h₁.get? b = some o := fun b o e => up3 b o (Nat.lt_of_lt_of_le (lo b o e) (by (with_reducible exact Nat.le_add_right _ _))) (up2 b o (up1 b o e))
  have loop : ∀ s₃ : Shared, s₃ = { s₁ with heap := h₁, toks := s₁.toks + ([] : List (Str × Value)).length } →
      codeAny (model PR w) A (.compLoop (.ListComp (.Name x pe) [⟨.Tuple [.Name x px, .Name y py] x1 tp, iter, [], 0⟩] scope pos) 0 (.ref I) (.ref (I + 1)) (compEnvC scope cl (I + 2) env)) (compPost (model PR w) A E none Q (.ref (I + 1)) (I + 2)) s₃ := by
    rintro s₃ rfl
    refine LCp.codeAny_compLoop_pair (fun k s' => ∃ (i : Nat) (h' : Heap) (tk' : Nat) (m' : Str → Option Value) (n' : Nat), i ≤ items.length ∧ k = items.length + 1 - i ∧ s' = { s₁ with heap := h', toks := tk' } ∧ h'.IsListIter I l i ∧ h'.IsList l items.toArray ∧ h'.Ns (I + 2) m' ∧
      h'.get? (I + 1) = some (listOf (xs.take i).toArray n') ∧ ∀ b o, s₁.heap.get? b = some o → h'.get? b = some o) ?_ (items.length + 1) ⟨0, h₁, _, _, 0, Nat.zero_le _, rfl, rfl, hit1, hl1, hns₁, hD1, old⟩
    rintro k s' ⟨i, h', tk', m', n', hi, rfl, rfl, e1, e2, e3, e4, e5⟩
    have W := Walks.list (prog := PR) (w := w) hh I l (Nat.ne_of_lt hlt) items.toArray
    by_cases hlt' : i < items.length
    · refine W.item i _ _ _ (by simpa using hlt') ⟨e1, e2⟩ fun v h2 tk2 hv hst2 hk2 => ?_
      obtain ⟨T, v1, v2, rfl, hT, hx1⟩ := hit i v (by simpa using hv)
      have kI : ∀ (b : Nat) o, b ≠ I → h'.get? b = some o → h2.get? b = some o := fun b o hb e => hk2 b o (by simpa using hb) e
      have hTI : (T : Nat) < I := by obtain ⟨o, ho, _⟩ := hT; rw [← hI]; exact Heap.lt_size ho
      refine go_listIter hst2.1 ?_
      refine assignPair (env := compEnvC scope cl (I + 2) env) hh (hT.at fun o e => kI T o (Nat.ne_of_lt hTI) (e5 T o e)) (lookup_relabel_local hx) (lookup_relabel_local hy) (by simp [compEnvC, relabel, hkind]) (e3.at' fun o e => kI (I + 2) o (by omega) e) fun h3 tk3 hn3 hk3 => ?_
      refine wpAny_Name (wpAny_loadName_local (by simp [compEnvC, relabel, hkind]) (lookup_relabel_local hx) hn3 (by rw [if_neg hxy, if_pos rfl]) ?_) hdb
      have k3 : ∀ (b : Nat) o, b ≠ I → b ≠ I + 2 → h'.get? b = some o → h3.get? b = some o := fun b o h1 h2 e => hk3 b o h2 (kI b o h1 e)
      have hxi : i < xs.length := by (exact (Nat.lt_of_lt_of_le hlt' (Nat.le_of_eq (Eq.symm hxl))))
      refine append_at (its := (xs.take i).toArray) (n := n') (k3 (I + 1) _ (by (exact Nat.ne_of_gt (Nat.lt_succ_of_le (Nat.le_refl _)))) (by omega) e4) (fun h4 hs4 ho4 => ?_) (hsz := by simp only [List.size_toArray, List.length_take, sizeLine]; omega)
      have k4 : ∀ (b : Nat) o, b ≠ I → b ≠ I + 2 → b ≠ I + 1 → h'.get? b = some o → h4.get? b = some o := fun b o h1 h2 h3 e => hs4.extBut b o h3 (k3 b o h1 h2 e)
      refine ⟨items.length + 1 - (i + 1), by omega, i + 1, h4, _, _, n' + 1, hlt', rfl, rfl, ?_, e2.at fun o e => k4 l o (by (exact Nat.ne_of_lt (hlt))) (by (exact Nat.ne_of_lt (Nat.lt_add_right _ hlt))) (by (exact Nat.ne_of_lt (Nat.lt_succ_of_le (Nat.le_of_lt hlt)))) e, hn3.at' fun o e => hs4.extBut _ o (by show I + 2 ≠ I + 1; omega) e, ?_, fun b o e => k4 b o (Nat.ne_of_lt (lo b o e)) (Nat.ne_of_lt (Nat.lt_of_lt_of_le (lo b o e) (by (with_reducible exact Nat.le_add_right _ _)))) (Nat.ne_of_lt (Nat.lt_of_lt_of_le (lo b o e) (by (with_reducible exact Nat.le_add_right _ _)))) (e5 b o e)⟩
      · exact hst2.1.at fun o e => hs4.extBut I o (Nat.ne_of_lt (Nat.lt_succ_self _)) (hk3 I o (by show I ≠ I + 2; omega) e)
      · rw [ho4, List.take_add_one, hx1]; simp
    · have hin : i = items.length := by omega
      subst hin
      refine W.done _ _ _ ⟨by simpa using e1, e2⟩ fun h2 tk2 hk2 => ?_
      have kI : ∀ (b : Nat) o, b ≠ I → h'.get? b = some o → h2.get? b = some o := fun b o hb e => hk2 b o (by simpa using hb) e
      refine ⟨m', e3.at' fun o e => kI (I + 2) o (by omega) e, fun h3 hs3 => ?_⟩
      rw [List.take_of_length_le (by (exact (Nat.le_of_eq hxl)))] at e4
      refine hQ (I + 1) h3 tk2 n' ?_ (hs3.extBut _ _ (Nat.ne_of_lt (Nat.lt_succ_self _)) (kI _ _ (by (exact Nat.ne_of_gt (Nat.lt_succ_of_le (Nat.le_refl _)))) e4)) fun b o e => hs3.extBut b o (Nat.ne_of_lt (Nat.lt_of_lt_of_le (lo b o e) (by (with_reducible exact Nat.le_add_right _ _)))) (kI b o (Nat.ne_of_lt (lo b o e)) (e5 b o e))
      · exact Heap.get?_none_of_le (by rw [hI]; (with_reducible exact Nat.le_add_right _ _))
  exact codeAny_compStart_list (loop _ rfl) ((Walks.list (prog := PR) (w := w) (A := A) hh I l (Nat.ne_of_lt hlt) items.toArray).self 0 _ _ _ ⟨hit1, hl1⟩ (loop _ rfl))
/-- for x, y in xs, over a list of pairs -/
theorem forPairs {w : World} {A : Around} {s : Shared} {Q : Flow → Shared → Prop} {env : Env} {elts : List Expr} {x1 : Nat} {tp : Pos} {iter : Expr} {body : List Stmt} {pos : Pos} {E : Value → Shared → Prop}
    (hh : A.handled = none) (hs : ∀ x, foldedSetIterable iter env x = pure x)
    (h : wpAny (model PR w) A (eval iter env) (fun xv s₁ => ∃ (l : Addr) (items : Array Value) (Inv : Nat → Shared → Prop), xv = .ref l ∧ s₁.heap.IsList l items ∧
        (∀ i (s₂ : Shared) h' tk, Inv i s₂ → s₂.toks ≤ tk → (∀ b o, b ≠ s₁.heap.objs.size → s₂.heap.get? b = some o → h'.get? b = some o) → Inv i { s₂ with heap := h', toks := tk }) ∧
        Inv 0 s₁ ∧
        (∀ i v s₂, items[i]? = some v → Inv i s₂ → s₂.heap.IsListIter s₁.heap.objs.size l (i + 1) → s₂.heap.IsList l items →
          wpAny (model PR w) A (assign (.Tuple elts x1 tp) env v) (fun _ s₃ => wpAny (model PR w) A (execs body env) (fun f s₄ => match f with
            | .next | .cont => s₄.heap.IsListIter s₁.heap.objs.size l (i + 1) ∧ s₄.heap.IsList l items ∧ Inv (i + 1) s₄
            | .brk => Q .next s₄
            | .ret v => Q (.ret v) s₄) NoE s₃) NoE s₂) ∧
        (∀ s₂, Inv items.size s₂ → Q .next s₂)) E s) :
    wpAny (model PR w) A (exec (.For (.Tuple elts x1 tp) iter body [] pos) env) Q E s := by
  refine wpAny_For (wpAny_mono h (fun xv s₁ h₁ => ?_) fun _ _ e => e) hs
  obtain ⟨l, items, Inv, rfl, hl, stab, h0, step, done⟩ := h₁
  have hne : l ≠ s₁.heap.objs.size := by
    obtain ⟨ol, hol, _⟩ := id hl
    exact Nat.ne_of_lt (Heap.lt_size hol)
  refine wpAny_pyIter_list hl ?_
  have W := Walks.list (prog := PR) (w := w) hh s₁.heap.objs.size l hne items
  have e0 : Inv 0 { s₁ with heap := s₁.heap.push { cls := .type "list_iterator", data := .fields #[.ref l, rawInt 0] } } := stab 0 s₁ _ _ h0 (Nat.le_refl _) fun b o _ e => Heap.get?_push_of_some _ e
  generalize hI : s₁.heap.objs.size = I at *
  refine codeAny_forLoop_any (fun k s' => ∃ i, i ≤ items.size ∧ k = items.size + 1 - i ∧ (s'.heap.IsListIter I l i ∧ s'.heap.IsList l items) ∧ Inv i s') ?_ (items.size + 1) ⟨0, Nat.zero_le _, rfl, ⟨⟨_, by rw [← hI]; exact Heap.get?_push_size _ rfl, rfl, rfl⟩, hl.at fun o e => Heap.get?_push_of_some _ e⟩, e0⟩
  rintro k s' ⟨i, hi, rfl, hst', hInv⟩
  by_cases hlt : i < items.size
  · refine wpAny_with_toks (n := s'.toks) (Nat.le_refl _) (W.item i _ _ _ hlt hst' fun v h₁ tk₁ hP hst₁ hk₁ htk => ?_)
    refine go_listIter hst₁.1 ?_
    refine wp_noE (wpAny_mono (step i v _ hP (stab i s' h₁ tk₁ hInv htk fun b o hb e => hk₁ b o (by simpa using hb) e) hst₁.1 hst₁.2) (fun _ s₂ h₂ => wp_noE (wpAny_mono h₂ (fun f s₃ h₃ => ?_) fun _ _ e => e)) fun _ _ e => e)
    cases f with
    | next => exact ⟨items.size + 1 - (i + 1), by omega, i + 1, hlt, rfl, ⟨h₃.1, h₃.2.1⟩, h₃.2.2⟩
    | cont => exact ⟨items.size + 1 - (i + 1), by omega, i + 1, hlt, rfl, ⟨h₃.1, h₃.2.1⟩, h₃.2.2⟩
    | brk => exact h₃
    | ret v => exact h₃
  · have hin : i = items.size := by omega
    subst hin
    refine wpAny_with_toks (n := s'.toks) (Nat.le_refl _) (W.done _ _ _ hst' fun h₁ tk₁ hk₁ htk => wpAny_execs_nil ?_)
    exact done _ (stab _ s' h₁ tk₁ hInv htk fun b o hb e => hk₁ b o (by simpa using hb) e)
end Mine

end T_W15
section T_Pl9
set_option autoImplicit false
set_option linter.all false
open PySem PySem.W PyProof.Rows PySem.Calls
set_option Elab.async false
namespace Mine
theorem Its.told_ok : ∀ {t : Its}, t.small → ∀ p ∈ t.told, p.1 < 3 ∧ p.2.small
  | .nil, _, p, hp => by cases hp
  | .str x r, h, p, hp => told_ok (Its.small_str h).2 p hp
  | .sub j d r, h, p, hp => by
    obtain ⟨h1, h2, h3, _⟩ := Its.small_sub h
    rw [Its.told, List.mem_append] at hp
    rcases hp with hp | hp
    · exact told_ok h2 p hp
    · rcases List.mem_cons.mp hp with rfl | hp
      · exact ⟨h1, h2⟩
      · exact told_ok h3 p hp
theorem Its.all_ok {t : Its} {k : Nat} (hk : k < 3) (h : t.small) : ∀ p ∈ t.told ++ [(k, t)], p.1 < 3 ∧ p.2.small := fun p hp => by
  rcases List.mem_append.mp hp with hp | hp
  · exact Its.told_ok h p hp
  · rw [List.mem_singleton.mp hp]; exact ⟨hk, h⟩
theorem esc_asc (k c : Nat) (h : c < 128) : ∀ d ∈ esc k c, d < 128 := by
  unfold esc
  repeat' split
  all_goals first | decide | (intro d hd; rw [List.mem_singleton.mp hd]; exact h)
theorem escL_asc (k : Nat) : ∀ l : List Nat, (∀ c ∈ l, c < 128) → ∀ d ∈ escL k l, d < 128
  | [], _, d, hd => by cases hd
  | c :: l, h, d, hd => by
    rw [show escL k (c :: l) = esc k c ++ escL k l from rfl, List.mem_append] at hd
    rcases hd with hd | hd
    · exact esc_asc k c (h c (.head _)) d hd
    · exact escL_asc k l (fun c hc => h c (.tail _ hc)) d hd
theorem Its.row_asc : ∀ {t : Its}, t.ok → ∀ k, ∀ c ∈ t.row k, c < 128
  | .nil, _, _, c, hc => by cases hc
  | .str x r, h, k, c, hc => by
    rw [Its.row, List.mem_append] at hc
    rcases hc with hc | hc
    · exact escL_asc k _ (piece_asc h.1) c hc
    · exact row_asc h.2 k c hc
  | .sub j d r, h, k, c, hc => by
    rw [Its.row] at hc
    rcases List.mem_cons.mp hc with rfl | hc
    · decide
    · rcases List.mem_append.mp hc with hc | hc
      · exact escL_asc k _ (row_asc h.2.1 j) c hc
      · rcases List.mem_cons.mp hc with rfl | hc
        · decide
        · exact row_asc h.2.2 k c hc
theorem strs_reads (h : Heap) {vs : List Value} {xs : List Str} (x : StrsAre vs xs) : ReadsAll h vs (xs.map PyData.str) [] := by
  induction x with
  | nil => exact .nil
  | cons y tk _ ih => exact .cons (.str y tk) ih
theorem strs_shaped {ls : List (List Nat)} (h : ∀ l ∈ ls, ∀ c ∈ l, c < 128) : SeqAt.shaped (.list ((ls.map txt).map .str)) = true := by
  have h1 : ∀ ls : List (List Nat), (∀ l ∈ ls, ∀ c ∈ l, c < 128) → PyData.canLayAll0 ((ls.map txt).map .str) = true := fun ls h => by
    induction ls with
    | nil => simp [PyData.canLayAll0]
    | cons l ls ih =>
      have hs : PyData.strOk (txt l) = true := by
        unfold PyData.strOk
        rw [Array.all_eq_true_iff_forall_mem]
        intro c hc
        have := h l (.head _) c (by simpa [txt] using hc)
        exact decide_eq_true (by (exact (Nat.lt_trans this (by decide))))
      simp only [List.map_cons, PyData.canLayAll0, PyData.canLay0, hs, ih fun l hl => h l (.tail _ hl), Bool.and_self]
  have h2 : ∀ ls : List (List Nat), PyData.depthAll ((ls.map txt).map .str) = 0 := fun ls => by
    induction ls with
    | nil => simp [PyData.depthAll]
    | cons l ls ih => simp only [List.map_cons, PyData.depthAll, PyData.depth, ih]; rfl
  unfold SeqAt.shaped
  rw [Bool.and_eq_true]
  exact ⟨by simp only [PyData.canLay0, h1 ls h], decide_eq_true (by simp only [PyData.depth, h2]; (decide))⟩
theorem strs_self : ∀ xs : List Str, PyData.eqvAll (xs.map .str) (xs.map .str) = true
  | [] => by simp [PyData.eqvAll]
  | x :: xs => by simp only [List.map_cons, PyData.eqvAll, PyData.eqv, strs_self xs]; simp
theorem ToldAt.split {lk : Addr → Option Obj} : ∀ {l : List (Nat × Its)} {vs : List Value}, ToldAt lk l vs → ∃ xs : List Value, xs.length = vs.length ∧ StrsAre xs (l.map fun p => txt (p.2.row p.1)) ∧
    ∀ (i : Nat) v, vs[i]? = some v → ∃ T tk nv n p, v = .ref T ∧ lk T = some { cls := .type "tuple", data := .seq #[.str (txt (p.2.row p.1)) tk, nv] n } ∧ NodeAt lk nv p.1 p.2 ∧ l[i]? = some p ∧ xs[i]? = some (.str (txt (p.2.row p.1)) tk)
  | [], vs, e => by
    rw [e]
    exact ⟨[], rfl, .nil, fun i v h => by simp at h⟩
  | (k, t) :: r, vs, ⟨a, tk, nv, n, vs', e, o, d, hr⟩ => by
    obtain ⟨xs, h1, h2, h3⟩ := hr.split
    refine ⟨.str (txt (t.row k)) tk :: xs, by rw [e]; simp [h1], .cons _ tk h2, ?_⟩
    intro i v hv
    rw [e] at hv
    cases i with
    | zero =>
      simp at hv
      exact ⟨a, tk, nv, n, (k, t), hv.symm, o, d, rfl, rfl⟩
    | succ i =>
      obtain ⟨T, tk', nv', n', p, q1, q2, q3, q4, q5⟩ := h3 i v (by simpa using hv)
      exact ⟨T, tk', nv', n', p, q1, q2, q3, by simpa using q4, by simpa using q5⟩
end Mine

end T_Pl9
section T_W16
set_option autoImplicit false
set_option linter.all false
open PySem PySem.W PyProof.Rows PySem.Calls
set_option Elab.async false
set_option maxRecDepth 100000
set_option maxHeartbeats 8000000
namespace Mine
theorem off_W16 : True := by w_top off; trivial
theorem fill16 (w : World) : Challenge.rw_nb0133_01.prog = Challenge.rw_nb0133_01.prog ∧ (hd.heap_39 w.params).length = (hd.heap_39 w.params).length := by
  k_fill
  exact ⟨rfl, rfl⟩
inductive InvLaw (s : Shared) (L : Nat) (k : Nat) (t : Its) (ys : List Value) (it : Nat) (i : Nat) (s₂ : Shared) : Prop
  | mk (h' : Heap) (tk' : Nat) (gens' : Array GenState) (m : Str → Option Value) (f1 : s₂ = { s with heap := h', toks := tk', gens := gens' }) (f2 : 0 < tk') (f3 : (∀ q ∈ gens', q.bare = true)) (f4 : Fr s.heap L h' m) (f5 : ToldAt (lkP (fun b => L < b ∧ b < it) h') (t.told ++ [(k, t)]) ys) : InvLaw s L k t ys it i s₂
theorem law_code {w : World} {A : Around} {s : Shared} {R : Result → Shared → Prop} {sc : Addr} {vs : List Value} {ns : List Int}
    (G : Gd w s.heap) (hroom : A.depth + 60 < recursionLimit) (hun : A.units + 300 < cLine) (hh : A.handled = none) (hl : s.heap.IsList sc vs.toArray) (hi : IntsAre vs ns) (hlen : vs.length ≤ 1000) (hb : ∀ q ∈ s.gens, q.bare = true)
    (h : SRes R s (.bool true)) : codeAny (model PR w) A (.call (.ref 120) ⟨[.ref sc], []⟩) R s := by
  have X := G.K
  obtain ⟨mean, mg, mb, T⟩ := id G.T
  refine' enterF (binds := [(Str.ofString "script", .ref sc)]) G (fun _ _ e => e) (Nat.le_refl _) ?ho ?hcd (by (exact (Nat.lt_of_le_of_lt (Nat.le_add_right _ _) hroom))) ?hb ?hl ?hbody ?h1 ?h2 ?h3 ?h4
  case ho => rfl
  case hcd => rfl
  case hb => exact BindsTo.of_eq rfl
  case hl => exact locs rfl
  case h1 => decide
  case h2 => rfl
  case h3 => rfl
  case h4 => rfl
  intro L h₁ hL F hk
  have hLsz : L < h₁.objs.size := F.ns.lt
  have N := news_led F []
  walk_at "go"
  refine wpAny_with_toks (n := 1) (Nat.succ_pos _) ?_
  refine wpAny_call (tree_code (G.keeps fun b o e => F.keep b o e) (by show A.depth + 5 < _; exact roomC hroom (by decide)) (by show A.units + 103 < _; exact roomC hun (by decide)) hh (hl.at fun o e => F.keep _ _ e) hi hlen (Nat.succ_pos _) (fun v k t h₂ tk₂ hk3 hsm hN hk₂ ht₂ => ?_))
  obtain ⟨a, _, _, _, rfl, ha, _⟩ := id hN
  dsimp only at hk₂ ht₂ ⊢
  have F₂ : Fr s.heap L h₂ _ := ⟨F.ns.keeps hk₂, fun b o e => hk₂ _ _ (F.keep b o e), F.above⟩
  clear F N
  refine stN F₂ (news_led F₂ []) ?_
  intro h₃ F₃ N₃
  dsimp only at F₃ N₃ ⊢
  have hL1 : L < h₁.objs.size := hLsz
  have hN₃ : NodeAt (lkP (fun b => L < b) h₃) (.ref a) k t := hN.mono (lkP_mono fun b o hx e => ⟨Nat.lt_of_lt_of_le hL1 hx, (N₃ _ (mem_led.mpr ⟨Nat.lt_of_lt_of_le hL1 hx, by simp, e⟩)).1⟩)
  clear F₂ hN ha
  walk_at "go"
  refine newList_N F₃ (news_led F₃ []) ?_
  have hN₃' : NodeAt (lkP (fun b => L < b ∧ b < h₃.objs.size) h₃) (.ref a) k t := hN₃.mono (lkP_mono fun b o hx e => ⟨⟨hx, Heap.lt_size e⟩, e⟩)
  have hL3 : L < h₃.objs.size := F₃.ns.lt
  clear hN₃
  generalize hTl : h₃.objs.size = tl at *
  intro h₄ F₄ N₄
  dsimp only at F₄ N₄ ⊢
  refine stN F₄ N₄ ?_
  intro h₅ F₅ N₅
  dsimp only at F₅ N₅ ⊢
  have hN₅ : NodeAt (lkP (fun b => L < b ∧ b < tl) h₅) (.ref a) k t := hN₃'.mono (lkP_mono fun b o hx e => ⟨hx, kept_up (M := []) N₅ (fun p hp => .tail _ hp) (by simp) hx.1 e⟩)
  have htl : h₅.get? tl = some (listOf ([] : List Value).toArray 0) := (N₅ _ (.head _)).1
  have hs0 : s.heap.objs.size ≤ L := F₅.above
  have hgtl : s.heap.get? tl = none := none_above hs0 hL3
  have htl5 : tl < h₅.objs.size := Heap.lt_size htl
  clear F₃ N₃ F₄ N₄ hN₃'
  walk_at "go"
  have htold := t.told_len
  have hcnt := hsm.2.1
  have hdep := hsm.2.2
  refine wpAny_call (row_code w t (tl := tl) (xs := []) (n := 0) (fun b => L < b ∧ b ≠ tl) (G.keeps fun b o e => hideAll_get _ (F₅.keep b o e) (by simpa using fun q : b = tl => by rw [q, hgtl] at e; cases e)) (by show A.depth + 1 + 4 * (t.depth + 1) < _; exact roomT hroom hsm.2.2 (by decide)) hh hk3 hsm (Nat.succ_pos _) (by simp)
    (fun b hb => ⟨Nat.lt_of_lt_of_le (Nat.lt_trans hL3 htl5) hb, Nat.ne_of_gt (Nat.lt_of_lt_of_le htl5 hb)⟩) (hN₅.mono (lkP_mono fun b o hx e => ⟨⟨hx.1, Nat.ne_of_lt hx.2⟩, e⟩)) htl (by simp; (exact Nat.le_of_lt (Nat.lt_of_le_of_lt htold (Nat.lt_of_le_of_lt hcnt (by decide))))) (fun tkr h₆ tk₆ ys n₆ hk₆ htl₆ hT ht₆ => ?_))
  dsimp only at hk₆ ht₆ ⊢
  rw [List.nil_append] at htl₆
  have F₆ : Fr s.heap L h₆ _ := Fr_kept (M := [tl]) F₅ (by simp; (exact Nat.ne_of_lt (hL3))) (fun b hb => by rw [List.mem_singleton.mp hb]; exact hgtl) (fun b o hb e => hk₆ b o (by simpa using hb) e)
  have hN₆ : NodeAt (lkP (fun b => L < b ∧ b < tl) h₆) (.ref a) k t := hN₅.mono (lkP_mono fun b o hx e => ⟨hx, hk₆ b o (Nat.ne_of_lt hx.2) e⟩)
  refine stN F₆ (news_led F₆ []) ?_
  intro h₇ F₇ N₇
  dsimp only at F₇ N₇ ⊢
  have k7 : ∀ (b : Nat) o, L < b → h₆.get? b = some o → h₇.get? b = some o := fun b o h1 e => kept_up (M := []) N₇ (fun p hp => hp) (by simp) h1 e
  have hN₇ := hN₆.mono (lkP_mono (P' := fun b => L < b ∧ b < tl) (h' := h₇) fun b o hx e => ⟨hx, k7 b o hx.1 e⟩)
  have hT₇ := hT.mono (lkP_mono (P' := fun b => (L < b ∧ b ≠ tl) ∧ b < h₇.objs.size) (h' := h₇) fun b o hx e => ⟨⟨hx, Heap.lt_size (k7 b o hx.1 e)⟩, k7 b o hx.1 e⟩)
  have htl₇ := k7 tl _ hL3 htl₆
  have htl7 : tl < h₇.objs.size := Heap.lt_size htl₇
  clear F₅ N₅ hN₅ F₆ hN₆ hT N₇ k7 htl₆ htl
  walk_at "go"
  refine newList_N F₇ (news_led F₇ []) ?_
  generalize hMt : h₇.objs.size = mt at *
  intro h₈ F₈ N₈
  dsimp only at F₈ N₈ ⊢
  refine stN F₈ N₈ ?_
  intro h₉ F₉ N₉
  dsimp only at F₉ N₉ ⊢
  have k9 : ∀ (b : Nat) o, L < b → h₇.get? b = some o → h₉.get? b = some o := fun b o h1 e => kept_up (M := []) N₉ (fun p hp => .tail _ hp) (by simp) h1 e
  have hN₉ := hN₇.mono (lkP_mono (P' := fun b => L < b ∧ b < tl) (h' := h₉) fun b o hx e => ⟨hx, k9 b o hx.1 e⟩)
  have hT₉ := hT₇.mono (lkP_mono (P' := fun b => (L < b ∧ b ≠ tl) ∧ b < mt) (h' := h₉) fun b o hx e => ⟨hx, k9 b o hx.1.1 e⟩)
  have htl₉ := k9 tl _ hL3 htl₇
  have hmt : h₉.get? mt = some (listOf ([] : List Value).toArray 0) := (N₉ _ (.head _)).1
  have hgmt : s.heap.get? mt = none := none_above hs0 (Nat.lt_trans hL3 htl7)
  clear F₇ hN₇ hT₇ htl₇ F₈ N₈ N₉ k9
  walk_at "go"
  refine wpAny_call (read_code w t (mt := mt) (xs := []) (n := 0) (G.keeps fun b o e => hideAll_get _ (F₉.keep b o e) (by simpa using fun q : b = mt => by rw [q, hgmt] at e; cases e)) (by show A.depth + 1 + 4 * (t.depth + 1) < _; exact roomT hroom hsm.2.2 (by decide)) hh hk3 hsm (Nat.succ_pos _) hmt (by simp; (exact Nat.le_of_lt (Nat.lt_of_le_of_lt htold (Nat.lt_of_le_of_lt hcnt (by decide)))))
    (fun b₁ h₁₀ tk₁₀ vs₁ m₁ ys₁ n₁ hk₁₀ hb₁ ho₁ hP₁ hmt₁ hS₁ ht₁₀ => ?_))
  dsimp only at hk₁₀ ht₁₀ hb₁ hP₁ ⊢
  rw [List.nil_append] at hmt₁
  have F₁₀ : Fr s.heap L h₁₀ _ := Fr_kept (M := [mt]) F₉ (by simp; (exact Nat.ne_of_lt ((Nat.lt_trans hL3 htl7)))) (fun b hb => by rw [List.mem_singleton.mp hb]; exact hgmt) (fun b o hb e => hk₁₀ b o (by simpa using hb) e)
  have hN₁₀ := hN₉.mono (lkP_mono (P' := fun b => L < b ∧ b < tl) (h' := h₁₀) fun b o hx e => ⟨hx, hk₁₀ b o (Nat.ne_of_lt (Nat.lt_trans hx.2 htl7)) e⟩)
  have hT₁₀ := hT₉.mono (lkP_mono (P' := fun b => (L < b ∧ b ≠ tl) ∧ b < mt) (h' := h₁₀) fun b o hx e => ⟨hx, hk₁₀ b o (Nat.ne_of_lt hx.2) e⟩)
  have htl₁₀ := hk₁₀ tl _ (Nat.ne_of_lt htl7) htl₉
  have N₁₀ := news_led F₁₀ []
  clear F₉ hN₉ hT₉ htl₉ hmt
  walk_at "go"
  refine wpAny_call (plain_code w t (G.keeps fun b o e => F₁₀.keep b o e) (by show A.depth + 1 + 4 * (t.depth + 1) < _; exact roomT hroom hsm.2.2 (by decide)) (by show A.units + 73 + 4 * (t.depth + 1) < _; exact roomT hun hsm.2.2 (by decide)) hh hsm ht₁₀ (hN₁₀.mono fun b o e => (lkP_some.mp e).2) (fun b₂ h₁₁ tk₁₁ vs₂ n₂ hk₁₁ hb₂ ho₂ hP₂ ht₁₁ => ?_))
  dsimp only at hk₁₁ ht₁₁ hb₂ hP₂ ⊢
  obtain ⟨as₁, hr₁⟩ := hP₁.reads (h := h₁₁) (fun a o e => hk₁₁ _ _ (lkP_some.mp e).2)
  obtain ⟨as₂, hr₂⟩ := hP₂.reads (h := h₁₁) (fun a o e => (lkP_some.mp e).2)
  have hshp : SeqAt.shaped (.list (t.mrg .nil).pys) = true := Its.pys_shaped (Its.asc_mrg (Its.asc_ok hsm.1) trivial) (by rw [Its.depth_mrg]; simp [Its.depth]; (exact Nat.le_of_lt (Nat.lt_of_le_of_lt hdep (by decide))))
  refine SeqAt.compareNe_shaped (.list (hk₁₁ _ _ ho₁) rfl rfl hr₁) (.list ho₂ rfl rfl hr₂) hshp hshp (by show A.units + 67 < _; exact roomC hun (by decide)) ?_
  rw [show PyData.eqv (.list (t.mrg .nil).pys) (.list (t.mrg .nil).pys) = true from by simp only [PyData.eqv, Its.pys_self]]
  walk1
  rw [if_neg (by decide)]
  have F₁₁ : Fr s.heap L h₁₁ _ := Fr_kept (M := []) F₁₀ (by simp) (by simp) (fun b o _ e => hk₁₁ b o e)
  have hT₁₁ := hT₁₀.mono (lkP_mono (P' := fun b => L < b) (h' := h₁₁) fun b o hx e => ⟨hx.1.1, hk₁₁ b o e⟩)
  have htl₁₁ := hk₁₁ _ _ htl₁₀
  have hmt₁₁ := hk₁₁ _ _ hmt₁
  have N₁₁ := news_led F₁₁ []
  clear F₁₀ N₁₀ hT₁₀ htl₁₀ hmt₁ hP₁ hP₂ hr₁ hr₂ ho₁ ho₂ hN₁₀
  walk_at "go"
  obtain ⟨xs, hxl, hxS, hsp⟩ := hT₁₁.split
  have hyl : ys.length ≤ 11 := by rw [hT₁₁.length, List.length_append, List.length_singleton]; (exact (Nat.lt_of_le_of_lt htold (Nat.lt_of_le_of_lt hcnt (by decide))))
  refine wpAny_with_toks (n := 1) ht₁₁ ?_
  refine compRows hh rfl (by decide) rfl (by decide) rfl rfl (by decide) (by decide) ?_ (fun _ => rfl)
  walk1
  refine ⟨tl, ys, xs, rfl, ⟨_, htl₁₁, rfl, _, rfl⟩, by (exact Nat.le_of_lt (Nat.lt_of_le_of_lt hyl (by decide))), hxl, ?_, ?_⟩
  · intro i v hv
    obtain ⟨T', tk', nv, n', p, q1, q2, q3, q4, q5⟩ := hsp i v hv
    exact ⟨T', _, _, q1, ⟨_, (lkP_some.mp q2).2, rfl, _, rfl⟩, q5⟩
  intro D h₁₂ tk₁₂ n₃ hDn hD hk₁₂ ht₁₂
  dsimp only at hk₁₂ ht₁₂ ⊢
  have hrows : ∀ l ∈ (t.told ++ [(k, t)]).map (fun p => p.2.row p.1), ∀ c ∈ l, c < 128 := fun l hl => by
    obtain ⟨p, hp, rfl⟩ := List.mem_map.mp hl
    exact Its.row_asc (Its.all_ok hk3 hsm p hp).2.1 p.1
  have hmm : ((t.told ++ [(k, t)]).map fun p => txt (p.2.row p.1)) = ((t.told ++ [(k, t)]).map fun p => p.2.row p.1).map txt := by rw [List.map_map]; rfl
  rw [hmm] at hxS hS₁
  refine SeqAt.compareNe_shaped (.list (hk₁₂ _ _ hmt₁₁) rfl rfl (strs_reads h₁₂ hS₁)) (.list hD rfl rfl (strs_reads h₁₂ hxS)) (strs_shaped hrows) (strs_shaped hrows) (by show A.units + 67 < _; exact roomC hun (by decide)) ?_
  rw [show ∀ x : List Str, PyData.eqv (.list (x.map .str)) (.list (x.map .str)) = true from fun x => by simp only [PyData.eqv, strs_self]]
  walk1
  rw [if_neg (by decide)]
  have F₁₂ : Fr s.heap L h₁₂ _ := Fr_kept (M := []) F₁₁ (by simp) (by simp) (fun b o _ e => hk₁₂ b o e)
  have hT₁₂ := hT₁₁.mono (lkP_mono (P' := fun b => L < b) (h' := h₁₂) fun b o hx e => ⟨hx, hk₁₂ b o e⟩)
  have htl₁₂ := hk₁₂ _ _ htl₁₁
  have N₁₂ := news_led F₁₂ []
  clear F₁₁ N₁₁ hT₁₁ htl₁₁ hmt₁₁ hsp hxS hS₁ hD
  refine wpAny_execs_nil ?_
  refine wpAny_execs_cons ?_
  refine forPairs hh (fun _ => rfl) ?_
  walk1
  have hT₀ := hT₁₂.mono (lkP_mono (P' := fun b => L < b ∧ b < h₁₂.objs.size) (h' := h₁₂) fun b o hx e => ⟨⟨hx, Heap.lt_size e⟩, e⟩)
  have htl12 : tl < h₁₂.objs.size := Heap.lt_size htl₁₂
  clear hT₁₂ N₁₂
  generalize hIt : h₁₂.objs.size = it at *
  refine ⟨tl, ys.toArray, (InvLaw s L k t ys it),
    rfl, ⟨_, htl₁₂, rfl, _, rfl⟩, ?stab, ⟨h₁₂, tk₁₂, s.gens, _, rfl, ht₁₂, hb, F₁₂, hT₀⟩, ?turn, ?done⟩
  case stab =>
    rintro i s₂ h' tk' ⟨h5, tk5, gens5, m, rfl, e1, e2, e3, e4⟩ htk hk'
    refine ⟨h', tk', gens5, m, rfl, Nat.lt_of_lt_of_le e1 htk, e2, ?_, e4.mono (lkP_mono fun b o hx e => ⟨hx, hk' b o (Nat.ne_of_lt hx.2) e⟩)⟩
    refine Fr_kept (M := [it]) e3 (by simp; (exact Nat.ne_of_lt ((Nat.lt_trans hL3 htl12)))) ?_ ?_
    · intro b hb; rw [List.mem_singleton.mp hb]; exact none_above e3.above (by (exact (Nat.lt_trans hL3 htl12)))
    · intro b o hb e; exact hk' b o (by simpa using hb) e
  case done =>
    rintro s₂ ⟨h5, tk5, gens5, m, rfl, e1, e2, e3, e4⟩
    dsimp only
    walk_at "go"
    exact h h5 tk5 gens5 (fun b o e => e3.keep b o e) e2
  case turn =>
    rintro i v s₂ hv ⟨h5, tk5, gens5, m, rfl, e1, e2, e3, e4⟩ hit hls
    dsimp only at hit
    obtain ⟨_, _, _, hsp⟩ := e4.split
    obtain ⟨T', tkT, nv, nT, p, rfl, q2, q3, q4, _⟩ := hsp i v (by simpa using hv)
    obtain ⟨hp3, hps⟩ := Its.all_ok hk3 hsm p (List.mem_of_getElem? q4)
    refine wpAny_with_toks (n := 1) e1 ?_
    refine assignPair hh ⟨_, (lkP_some.mp q2).2, rfl, _, rfl⟩ rfl rfl rfl e3.ns fun h6 tk6 hn6 hk6 ht6 => ?_
    have F6 : Fr s.heap L h6 _ := ⟨hn6, fun b o e => hk6 b o (Nat.ne_of_lt (Nat.lt_of_lt_of_le (Heap.lt_size e) hs0)) (e3.keep b o e), e3.above⟩
    have hN6 : NodeAt (lkP (fun b => L < b) h6) nv p.1 p.2 := q3.mono (lkP_mono fun b o hx e => ⟨hx.1, hk6 b o (Nat.ne_of_gt hx.1) e⟩)
    obtain ⟨an, _, _, _, rfl, _⟩ := id hN6
    have N6 := news_led F6 []
    dsimp only at hk6 ⊢
    walk_at "go"
    refine wpAny_with_toks (n := 1) ht6 ?_
    refine wpAny_call (strip_code (G.keeps fun b o e => F6.keep b o e) (by show A.depth + 5 < _; exact roomC hroom (by decide)) hh (Its.open_row hps.1 p.1) (Nat.le_trans (Its.small_row hps p.1) (by decide)) e2 (fun t7 h7 tk7 gens7 hk7 hb7 ht7 => ?_))
    rw [strip_row hps.1]
    dsimp only at hk7 ⊢
    have F7 : Fr s.heap L h7 _ := Fr_kept (M := []) F6 (by simp) (by simp) (fun b o _ e => hk7 b o e)
    have N7 := news_led F7 []
    have hN7 := hN6.mono (lkP_mono (P' := fun b => L < b) (h' := h7) fun b o hx e => ⟨hx, hk7 b o e⟩)
    walk_at "go"
    refine wpAny_call (own_code (G.keeps fun b o e => F7.keep b o e) (by show A.depth + 1 < _; exact roomC hroom (by decide)) (by show A.units + 103 < _; exact roomC hun (by decide)) hh hps hp3 ht7 (hN7.mono fun b o e => (lkP_some.mp e).2) (fun t8 h8 tk8 hk8 ht8 => ?_))
    dsimp only at hk8 ⊢
    have F8 : Fr s.heap L h8 _ := Fr_kept (M := []) F7 (by simp) (by simp) (fun b o _ e => hk8 b o e)
    have N8 := news_led F8 []
    have hN8 := hN7.mono (lkP_mono (P' := fun b => L < b) (h' := h8) fun b o hx e => ⟨hx, hk8 b o e⟩)
    walk1
    rw [show ∀ x : Str, (x != x) = false from fun x => by simp]
    walk1
    rw [if_neg (by decide)]
    walk_at "go"
    refine wpAny_with_toks (n := 1) ht8 ?_
    refine wpAny_call (check_code (G.keeps fun b o e => F8.keep b o e) (by show A.depth + 9 < _; exact roomC hroom (by decide)) hh (Its.open_row hps.1 p.1) (by rw [strip_row hps.1]; exact Its.open_own hps.1 p.1) (Nat.le_trans (Its.small_row hps p.1) (by decide)) ?hlen2 hb7 (fun h9 tk9 gens9 hk9 hb9 ht9 => ?_))
    case hlen2 =>
      rw [strip_row hps.1]
      have h1 := p.2.own_len hps.1
      have h2 := hps.2.1
      have h3 : ∀ l : List Nat, (escL p.1 l).length ≤ 6 * l.length := fun l => by
        induction l with
        | nil => exact Nat.le_refl _
        | cons c l ih =>
          rw [show escL p.1 (c :: l) = esc p.1 c ++ escL p.1 l from rfl, List.length_append, List.length_cons]
          have := esc_len p.1 c
          omega
      have := h3 p.2.own
      omega
    rw [strip_row hps.1, own_brks hp3 hps.1]
    dsimp only at hk9 ⊢
    have F9 : Fr s.heap L h9 _ := Fr_kept (M := []) F8 (by simp) (by simp) (fun b o _ e => hk9 b o e)
    have N9 := news_led F9 []
    have hN9 := hN8.mono (lkP_mono (P' := fun b => L < b) (h' := h9) fun b o hx e => ⟨hx, hk9 b o e⟩)
    refine stN F9 N9 ?_
    intro h10 F10 N10
    dsimp only at F10 N10 ⊢
    walk_at "go"
    have k10 : ∀ (b : Nat) o, L < b → h9.get? b = some o → h10.get? b = some o := fun b o h1 e => kept_up (M := []) N10 (fun p hp => hp) (by simp) h1 e
    refine wpAny_call (closes_code (G.keeps fun b o e => F10.keep b o e) (by show A.depth + 1 < _; exact roomC hroom (by decide)) (by show A.units + 103 < _; exact roomC hun (by decide)) hh hps (Nat.succ_pos _) (hN9.mono fun b o e => k10 b o (lkP_some.mp e).1 (lkP_some.mp e).2) (fun h11 tk11 hk11 ht11 => ?_))
    dsimp only at hk11 ⊢
    have F11 : Fr s.heap L h11 _ := Fr_kept (M := []) F10 (by simp) (by simp) (fun b o _ e => hk11 b o e)
    have N11 := news_led F11 []
    have kall : ∀ (b : Nat) o, L < b → h5.get? b = some o → h11.get? b = some o := fun b o h1 e => hk11 _ _ (k10 b o h1 (hk9 _ _ (hk8 _ _ (hk7 _ _ (hk6 b o (Nat.ne_of_gt h1) e)))))
    walk_at "go"
    · rename (_ != _) = true => hne
      simp at hne
    · exact ⟨hit.at fun o e => kall it o (by (exact (Nat.lt_trans hL3 htl12))) e, hls.at fun o e => kall tl o hL3 e, h11, tk11, gens9, _, rfl, ht11, hb9, F11, e4.mono (lkP_mono fun b o hx e => ⟨hx, kall b o hx.1 e⟩)⟩
theorem law_holds : PySem.Challenge.rw_nb0133_01.Holds := by
  refine Mine.hd ?_
  k_fill
  intro w s₀ s₁ mg mb G Y fa o pm cd doc dV kV ho hd' hcd hD hmg hg args vals as hpre hlay hrd hwl hlo
  have KX := kIn_of Y
  refine Ground.open G ?_
  intro T B D TE TW
  try (refine guard_noD D (by decide +kernel) ?_; clear D)
  have hfa : mg (Str.ofString "law") = some (.ref 120) := mg_of KX T.g rfl
  have hfa' : fa = 120 := by
    have e : some (Value.ref fa) = some (Value.ref 120) := hmg.symm.trans hfa
    simpa using e
  subst hfa'
  wrow_args hpre hlay hrd hwl hlo
  have Gd' : Gd w s₁.heap := ⟨KX, _, _, _, T⟩
  dsimp only
  rename IntsAre _ _ => hI
  rename Heap.IsList _ _ _ => hLs
  rename ¬ (((63 : Nat) : Int) < _) => h63
  have hlen : _ ≤ 63 := Int.ofNat_le.mp (Int.not_lt.mp h63)
  refine wpAny_call (law_code Gd' (by decide) (by decide) rfl hLs hI (by rw [hI.length]; (exact Nat.le_of_lt (Nat.lt_of_le_of_lt hlen (by decide)))) (by rw [hg]; intro q hq; simp at hq) (fun h' tk' gens' hk' hb' => ?_))
  exact ⟨.inl ⟨_, _, _, rfl, fun _ => rfl, ReadsW.bool true, (by first | (with_unfolding_all rfl) | (simp [Challenge.rw_nb0133_01]; done)), fun _ => ⟨.nil, fun _ q => nomatch q⟩⟩, .of_keep hk', rfl, hb'⟩
end Mine

end T_W16
end G4
end GX
theorem PySem.Challenge.cw_nb0133_01_holds : PySem.Challenge.rw_nb0133_01.Holds :=
  Mine.law_holds
