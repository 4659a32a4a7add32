import PyProof.Rows.All
import Wide.All
import OpenK.AllK
import Wide.FinOn
import PySem.Challenge.RW_oc0037_01
open PySem PySem.W PyProof.Rows PySem.Calls
set_option Elab.async false
set_option maxRecDepth 100000
set_option maxHeartbeats 4000000
set_option compiler.extract_closed false
namespace Mine
abbrev PG : Program := PySem.Challenge.rw_oc0037_01.row.prog
/-- the text's statements, by place -/
noncomputable def stAt (i : Nat) : Stmt := PG.main.body.getD i (.Pass default)
noncomputable def defP : Stmt → Arguments
  | .FunctionDef _ p _ _ _ _ _ _ _ _ => p
  | _ => default
noncomputable def defB : Stmt → List Stmt
  | .FunctionDef _ _ b _ _ _ _ _ _ _ => b
  | _ => []
noncomputable def defS : Stmt → Scope
  | .FunctionDef _ _ _ _ _ _ s _ _ _ => s
  | _ => default
/-- what the top leaves: the globals, and the functions with their codes -/
noncomputable def en (P : Params) (x : Str) (k : Tok) (v : Value) : DictEntry := { hash := PyData.keyHash P x, key := .str x k, val := v }
noncomputable def cdO (n : Str) (k : Tok) (line args : Int) (a b : Addr) (v1 v2 : Value) (e : Addr) (m : Nat) : Obj :=
  { cls := .type "code", data := .fields #[.str n k, .str n (k + 1), .str "/claim/cut.py" (k + 2), .int line 0, .int args 0, .int 0 0, .int 0 0, .int 3 0, .ref a, .bool true, .int 181 0, .ref b, .none, v1, v2, .ref e, .int m 0, .int line 0, .str "/claim/cut.py" (m + 1)] }
noncomputable def fnO (i : Nat) (n m : Str) (k : Tok) (c : Addr) : Obj := { cls := .type "function", data := .func (docDef n (defP (stAt i)) (defB (stAt i)) (defS (stAt i)) (.str m k) (.ref c) .none) }
noncomputable def heapF (P : Params) : Frag := [
  (3, { cls := .type "dict", data := .dict #[en P "__name__" 165 (.str "law_oc0037_01" 348), en P "__doc__" 166 .none, en P "__package__" 167 .none, en P "__loader__" 168 (.builtin "__main__.__loader__#opaque"), en P "__spec__" 169 .none, en P "__annotations__" 170 (.ref 6), en P "__builtins__" 171 (.ref 4), en P "__file__" 173 (.str "/claim/cut.py" 172), en P "__cached__" 174 .none, en P "_wall" 193 (.ref 21), en P "_plain_name" 204 (.ref 28), en P "ABCMeta" 230 (.ref 45), en P "_ABCLike" 273 (.ref 78), en P "_abc_plain_meta" 280 (.ref 87), en P "fspath" 292 (.ref 94), en P "splitroot" 303 (.ref 101), en P "normpath" 318 (.ref 108), en P "sorted_list_difference" 334 (.ref 115), en P "_byteswap" 347 (.ref 122), en P "_law_straight" 357 (.ref 129), en P "_law_heights" 370 (.ref 136), en P "_law_left" 376 (.ref 141), en P "_law_only" 382 (.ref 146), en P "_law_apart" 392 (.ref 153), en P "law" 398 (.ref 158)] 25 }),
  (93, cdO "fspath" 283 35 1 88 89 (.ref 90) (.ref 91) 92 290),
  (94, fnO 9 "fspath" "os" 281 93),
  (100, cdO "splitroot" 295 52 1 95 96 (.ref 97) (.ref 98) 99 301),
  (101, fnO 11 "splitroot" "cpy313.posixpath" 293 100),
  (107, cdO "normpath" 304 66 1 102 103 (.ref 104) (.ref 105) 106 316),
  (108, fnO 12 "normpath" "cpy313.posixpath" 293 107),
  (114, cdO "sorted_list_difference" 321 92 2 109 110 (.ref 111) (.ref 112) 113 332),
  (115, fnO 14 "sorted_list_difference" "cpy313.unittest.util" 319 114),
  (121, cdO "_byteswap" 337 125 2 116 117 (.ref 118) (.ref 119) 120 345),
  (122, fnO 16 "_byteswap" "cpy313.wave" 335 121),
  (128, cdO "_law_straight" 350 132 2 123 124 (.ref 125) (.ref 126) 127 355),
  (129, fnO 18 "_law_straight" "law_oc0037_01" 348 128),
  (135, cdO "_law_heights" 358 134 1 130 131 (.ref 132) (.ref 133) 134 368),
  (136, fnO 19 "_law_heights" "law_oc0037_01" 348 135),
  (140, cdO "_law_left" 371 143 1 137 138 .none .none 139 374),
  (141, fnO 20 "_law_left" "law_oc0037_01" 348 140),
  (145, cdO "_law_only" 377 145 3 142 143 .none .none 144 380),
  (146, fnO 21 "_law_only" "law_oc0037_01" 348 145),
  (152, cdO "_law_apart" 383 147 2 147 148 (.ref 149) (.ref 150) 151 390),
  (153, fnO 22 "_law_apart" "law_oc0037_01" 348 152),
  (157, cdO "law" 393 150 1 154 155 .none .none 156 396),
  (158, fnO 23 "law" "law_oc0037_01" 348 157)]
/-- the statements that bind what a call reads -/
noncomputable def vw : Program := view PG [0, 2, 4, 6, 7, 9, 11, 12, 14, 16, 18, 19, 20, 21, 22, 23]
abbrev topAs : List Addr := [3, 93, 94, 100, 101, 107, 108, 114, 115, 121, 122, 128, 129, 135, 136, 140, 141, 145, 146, 152, 153, 157, 158]
theorem topAs_eq : ∀ P, topAs = (heapF P).map (·.1) := fun _ => by kernel_rfl!
noncomputable abbrev topK : Hook := kHook heapF topAs topAs_eq
set_option maxRecDepth 1000000 in
/-- the top's run, by the kernel (topRun and treeTable in the library's quick form) -/
theorem top_left : LeftO PG vw [] (fun s => xlAt vw [] s && recOk (RowW.records PySem.Challenge.rw_oc0037_01.row.toRowW) s) topK.obs topK.val 2172 := fun w => by
  unfold openEnds topFrom
  rw [PySem.W.Fast.te14082659384304107361, PySem.W.Fast.te14364793385576792824]
  kernel_rfl!
set_option maxRecDepth 1000000 in
theorem said : PySem.Challenge.rw_oc0037_01.wellSaid = true := by
  rw [PySem.W.Fast.te9446332074065402090]
  kernel_rfl!
noncomputable abbrev KF (w : World) : Frag := heapF w.params

def Kp (h h' : Heap) : Prop := ∀ b o, h.get? b = some o → h'.get? b = some o
theorem Kp.refl (h : Heap) : Kp h h := fun _ _ e => e
theorem Kp.trans {a b c : Heap} (x : Kp a b) (y : Kp b c) : Kp a c := fun q o e => y q o (x q o e)
theorem Kp.push (h : Heap) (o : Obj) : Kp h (h.push o) := fun _ _ e => Heap.get?_push_of_some _ e

/-- what the top left, as seen in a heap -/
structure Tp (w : World) (mg mb : Str → Option Value) (h : Heap) : Prop where
  X : (KF w).In h
  T : TopRead vw (looseW vw []) mg mb h

theorem Tp.keeps {w : World} {mg mb : Str → Option Value} {h h' : Heap} (t : Tp w mg mb h) (hk : Kp h h') : Tp w mg mb h' :=
  ⟨fun a o e => hk a o (t.X a o e), t.T.keeps hk⟩

/-- the function at an address of the top -/
noncomputable def fnAt (w : World) (a : Addr) : Option FuncData := match (KF w).lookup a with
  | some ⟨_, _, .func fd, _⟩ => some fd
  | _ => none
noncomputable def fdOf (w : World) (a : Addr) : FuncData := (fnAt w a).getD default
def bodyOf (fd : FuncData) : List Stmt := match fd.body with | .stmts b => b | .expr _ => []
noncomputable abbrev fe (w : World) (a L : Addr) : Env := envOf (fdOf w a).qualname (fdOf w a).scope L a (fdOf w a).code

theorem fn_obj {w : World} {a : Addr} {fd : FuncData} {h : Heap} (X : (KF w).In h) (e : fnAt w a = some fd) : ∃ o, h.get? a = some o ∧ o.data = .func fd := by
  unfold fnAt at e
  split at e
  · rename_i q
    cases e
    exact ⟨_, X _ _ q, rfl⟩
  · cases e

/-- the known names of a frame, by place -/
inductive Loc : List Str → List (Option Value) → Str → Value → Prop
  | head {x K v vs} : Loc (x :: K) (some v :: vs) x v
  | tail {x K v vs k u} : Loc K vs x v → Loc (k :: K) (u :: vs) x v
inductive Put : List Str → List (Option Value) → Str → Value → List (Option Value) → Prop
  | head {x K v vs u} : Put (x :: K) (u :: vs) x v (some v :: vs)
  | tail {x K v vs vs' k u} : Put K vs x v vs' → Put (k :: K) (u :: vs) x v (u :: vs')

theorem Loc.mem {K : List Str} {vs : List (Option Value)} {x : Str} {v : Value} (h : Loc K vs x v) : x ∈ K := by
  induction h with
  | head => exact .head _
  | tail _ ih => exact .tail _ ih
theorem Put.mem {K : List Str} {vs vs' : List (Option Value)} {x : Str} {v : Value} (h : Put K vs x v vs') : x ∈ K := by
  induction h with
  | head => exact .head _
  | tail _ ih => exact .tail _ ih
theorem Put.back {K : List Str} {vs vs' : List (Option Value)} {x : Str} {v : Value} (hK : K.Nodup) (p : Put K vs x v vs') {y : Str} {u : Value} (l : Loc K vs' y u) : (y = x ∧ u = v) ∨ (y ≠ x ∧ Loc K vs y u) := by
  induction p with
  | head =>
    cases l with
    | head => exact .inl ⟨rfl, rfl⟩
    | tail l =>
      right
      refine ⟨fun e => ?_, .tail l⟩
      subst e
      exact (List.nodup_cons.mp hK).1 l.mem
  | tail p ih =>
    cases l with
    | head =>
      right
      refine ⟨fun e => ?_, .head⟩
      subst e
      exact (List.nodup_cons.mp hK).1 p.mem
    | tail l =>
      rcases ih (List.nodup_cons.mp hK).2 l with e | e
      · exact .inl e
      · exact .inr ⟨e.1, .tail e.2⟩

/-- a frame over a base heap: its known names, its own objects -/
structure Wd (h₀ : Heap) (L : Addr) (K : List Str) (vs : List (Option Value)) (news : List (Addr × Obj)) (h : Heap) : Prop where
  fr : ∃ m, Fr h₀ L h m ∧ ∀ x v, Loc K vs x v → m x = some v
  nw : News h₀ L h news
  nd : (news.map (·.1)).Nodup
  kn : K.Nodup

section
variable {h₀ h h' : Heap} {L : Addr} {K : List Str} {vs vs' : List (Option Value)} {news news' : List (Addr × Obj)}
theorem Wd.keep (W : Wd h₀ L K vs news h) : Kp h₀ h := let ⟨_, F, _⟩ := W.fr; F.keep
theorem Wd.ltL (W : Wd h₀ L K vs news h) : L < h.objs.size := let ⟨_, F, _⟩ := W.fr; F.ns.lt
theorem Wd.get (W : Wd h₀ L K vs news h) {a : Addr} {o : Obj} (hm : (a, o) ∈ news) : h.get? a = some o := (W.nw _ hm).1
theorem Wd.kp (W : Wd h₀ L K vs news h) (hk : Kp h h') : Wd h₀ L K vs news h' := by
  obtain ⟨m, F, hm⟩ := W.fr
  exact ⟨⟨m, F.keeps hk, hm⟩, W.nw.keepsAll hk, W.nd, W.kn⟩
theorem Wd.sub (W : Wd h₀ L K vs news h) (hs : List.Sublist news' news) : Wd h₀ L K vs news' h :=
  ⟨W.fr, fun p hp => W.nw p (hs.subset hp), (hs.map _).nodup W.nd, W.kn⟩
theorem Wd.push (W : Wd h₀ L K vs news h) (o : Obj) (hf : o.isFreed = false) : Wd h₀ L K vs ((h.objs.size, o) :: news) (h.push o) := by
  obtain ⟨m, F, hm⟩ := W.fr
  refine ⟨⟨m, F.push o, hm⟩, W.nw.push F o hf, ?_, W.kn⟩
  rw [List.map_cons, List.nodup_cons]
  refine ⟨fun hq => ?_, W.nd⟩
  obtain ⟨p, hp, e⟩ := List.mem_map.mp hq
  exact absurd (Heap.lt_size (W.nw p hp).1) (e ▸ Nat.lt_irrefl _)
/-- an object that a step laid, wherever it lies -/
theorem Wd.laid (W : Wd h₀ L K vs news h) {a : Addr} {o : Obj} (hk : Kp h h') (hn : h.get? a = none) (ho : h'.get? a = some o) : Wd h₀ L K vs ((a, o) :: news) h' := by
  have W' := W.kp hk
  refine ⟨W'.fr, fun p hp => ?_, ?_, W.kn⟩
  · rcases List.mem_cons.mp hp with rfl | hp
    · refine ⟨ho, fun e => ?_, ?_⟩
      · obtain ⟨m, F, _⟩ := W.fr
        obtain ⟨oL, _, _, hL, _⟩ := F.ns
        have e' : a = L := e
        rw [e', hL] at hn; cases hn
      · cases q : h₀.get? a with
        | none => rfl
        | some o' => have := W.keep _ _ q; rw [hn] at this; cases this
    · exact W'.nw p hp
  · rw [List.map_cons, List.nodup_cons]
    refine ⟨fun hq => ?_, W.nd⟩
    obtain ⟨p, hp, e⟩ := List.mem_map.mp hq
    have := (W.nw p hp).1
    rw [e] at this
    have hn' : h.get? a = none := hn
    rw [hn'] at this; cases this
theorem Wd.upd {pre post : List (Addr × Obj)} {d : Addr} {o o' : Obj} (W : Wd h₀ L K vs (pre ++ (d, o) :: post) h) (hs : Heap.SameBut d h h') (ho : h'.get? d = some o') : Wd h₀ L K vs (pre ++ (d, o') :: post) h' := by
  obtain ⟨m, F, hm⟩ := W.fr
  have z := W.nw (d, o) (List.mem_append.mpr (.inr (.head _)))
  have nd := W.nd
  rw [List.map_append, List.map_cons] at nd
  have n1 : ∀ p ∈ pre, p.1 ≠ d := fun p hp e => by
    have := (List.nodup_append.mp nd).2.2 p.1 (List.mem_map_of_mem hp) d (.head _)
    exact this e
  have n2 : ∀ p ∈ post, p.1 ≠ d := fun p hp e => by
    have := (List.nodup_cons.mp (List.nodup_append.mp nd).2.1).1
    exact this (e ▸ List.mem_map_of_mem (f := (·.1)) hp)
  refine ⟨⟨m, F.change hs z.2.1 z.2.2, hm⟩, news_set W.nw n1 n2 hs ho, ?_, W.kn⟩
  rw [List.map_append, List.map_cons]; exact nd
end

def zipO : List Str → List (Option Value) → List (Str × Value)
  | k :: K, some v :: vs => (k, v) :: zipO K vs
  | _ :: K, none :: vs => zipO K vs
  | _, _ => []
theorem Loc.lookup {K : List Str} {vs : List (Option Value)} {x : Str} {v : Value} (l : Loc K vs x v) (hK : K.Nodup) : (zipO K vs).lookup x = some v := by
  induction l with
  | head => simp [zipO]
  | @tail x K v vs k u l ih =>
    have hne : (x == k) = false := by
      rw [beq_eq_false_iff_ne]
      intro e; subst e
      exact (List.nodup_cons.mp hK).1 l.mem
    cases u with
    | none => exact ih (List.nodup_cons.mp hK).2
    | some u => simp only [zipO, List.lookup_cons, hne]; exact ih (List.nodup_cons.mp hK).2

section
variable {w : World} {mg mb : Str → Option Value} {A : Around} {E : Value → Shared → Prop} {Q : Value → Shared → Prop} {h : Heap} {g : Array GenState} {d : Drawn} {t : Nat} {os : OsState} {a : Addr} {vals : List Value} {binds : List (Str × Value)} {K : List Str} {vs : List (Option Value)}

/-- a call of one of the top's functions -/
theorem zCall (K : List Str) (vs : List (Option Value)) (binds : List (Str × Value)) (tp : Tp w mg mb h) (hr : A.depth < recursionLimit)
    (hf : fnAt w a = some (fdOf w a)) (hcd : codeIn (KF w) (fdOf w a).code (fdOf w a).qualname = true)
    (hbody : (fdOf w a).body = .stmts (bodyOf (fdOf w a))) (hbind : bindArgs (fdOf w a) ⟨vals, []⟩ = pure binds) (hz : binds.reverse = zipO K vs) (hK : K.Nodup)
    (hcell : ((fdOf w a).scope.names.all fun x => x.2 != .cell) = true) (hloc : (binds.all fun x => (fdOf w a).scope.names.lookup x.1 == some .local) = true)
    (henv : ∀ L, callEnv (fdOf w a) L a = fe w a L)
    (hco : (fdOf w a).scope.isCoroutine = false) (hgen : (fdOf w a).scope.isGenerator = false) (hk : (fdOf w a).scope.kind = .function)
    (hq : ∀ L h₁ t₁, Wd h L K vs [] h₁ → wpAny (model PG w) (A.deeper (fe w a L)) (execs (bodyOf (fdOf w a)) (fe w a L))
      (fun f s' => Q (match f with | .ret v => v | _ => .none) s') (fun _ _ => False) ⟨h₁, g, d, t₁, os⟩) :
    wpAny (model PG w) A (call (.ref a) vals) Q E ⟨h, g, d, t, os⟩ := by
  obtain ⟨o, ho, hd⟩ := fn_obj tp.X hf
  refine wpAny_call (codeAny_call_plain (s := ⟨h, g, d, t, os⟩) hr ho hd tp.T.nolimit (codeRec_of tp.X hcd) hbody hbind (fun x hx e => ?_) (fun x hx => ?_) (fun h₀ hns hkp => ?_) hco hgen hk)
  · have := List.all_eq_true.mp hcell x hx
    rw [e] at this; cases this
  · exact beq_iff_eq.mp (List.all_eq_true.mp hloc x hx)
  · have F : Fr h h.objs.size h₀ (fun x => binds.reverse.lookup x) := ⟨hns, hkp, Nat.le_refl _⟩
    have W : Wd h h.objs.size K vs [] h₀ := ⟨⟨_, F, fun x v l => by rw [hz]; exact l.lookup hK⟩, News.nil, List.nodup_nil, hK⟩
    have z := hq _ h₀ (t + binds.length) W
    rw [henv]
    exact wpAny_mono z (fun _ _ x => x) (fun _ _ x => x.elim)
end

section
variable {M : Model} {A : Around} {E : Value → Shared → Prop} {h₀ h : Heap} {g : Array GenState} {d : Drawn} {t : Nat} {os : OsState} {L a : Addr} {K : List Str} {vs vs' : List (Option Value)} {news : List (Addr × Obj)}
  {name : Str} {scope : Scope} {cd : Value} {x : Str} {pos : Pos} {v : Value} {mg mb : Str → Option Value} {w : World}

theorem zLd {Q : Value → Shared → Prop} (W : Wd h₀ L K vs news h) (hx : Loc K vs x v) (hq : Q v ⟨h, g, d, t, os⟩)
    (hk : scope.kind = .function) (hl : (envOf name scope L a cd).kindOf x = some .local) (hdb : (x == ("__debug__" : Str)) = false) :
    wpAny M A (eval (.Name x pos) (envOf name scope L a cd)) Q E ⟨h, g, d, t, os⟩ := by
  obtain ⟨m, F, hm⟩ := W.fr
  exact ld (s := ⟨h, g, d, t, os⟩) F (hm x v hx) hq hk hl hdb
theorem zGl {Q : Value → Shared → Prop} (W : Wd h₀ L K vs news h) (tp : Tp w mg mb h₀) (e : nsIn (KF w) mainGlobals x = some (some v)) (hq : Q v ⟨h, g, d, t, os⟩)
    (hk : scope.kind = .function) (hl : (envOf name scope L a cd).kindOf x = some .globalImplicit) (hdb : (x == ("__debug__" : Str)) = false) :
    wpAny M A (eval (.Name x pos) (envOf name scope L a cd)) Q E ⟨h, g, d, t, os⟩ := by
  obtain ⟨m, F, hm⟩ := W.fr
  exact name_K (s := ⟨h, g, d, t, os⟩) F tp.X tp.T e hq hk hl hdb
theorem zBi {Q : Value → Shared → Prop} (W : Wd h₀ L K vs news h) (tp : Tp w mg mb h₀) (e : nsIn (KF w) mainGlobals x = some none) (hv : bootBuiltins x = some v) (hn : (x == ("__name__" : Str)) = false) (hq : Q v ⟨h, g, d, t, os⟩)
    (hk : scope.kind = .function) (hl : (envOf name scope L a cd).kindOf x = some .globalImplicit) (hdb : (x == ("__debug__" : Str)) = false) :
    wpAny M A (eval (.Name x pos) (envOf name scope L a cd)) Q E ⟨h, g, d, t, os⟩ := by
  obtain ⟨m, F, hm⟩ := W.fr
  exact name_B (s := ⟨h, g, d, t, os⟩) F tp.X tp.T e hv (fun e => by rw [e] at hn; simp at hn) hq hk hl hdb
theorem zSt {Q : Unit → Shared → Prop} (W : Wd h₀ L K vs news h) (hp : Put K vs x v vs') (hq : ∀ h' t', Wd h₀ L K vs' news h' → Q () ⟨h', g, d, t', os⟩)
    (hk : scope.kind = .function) (hl : (envOf name scope L a cd).kindOf x = some .local) :
    wpAny M A (storeName (envOf name scope L a cd) x v) Q E ⟨h, g, d, t, os⟩ := by
  obtain ⟨m, F, hm⟩ := W.fr
  refine stN (s := ⟨h, g, d, t, os⟩) F W.nw (fun h' F' N' => hq h' _ ⟨⟨_, F', fun y u l => ?_⟩, N', W.nd, W.kn⟩) hk hl
  rcases hp.back W.kn l with ⟨rfl, rfl⟩ | ⟨hne, l'⟩
  · exact if_pos rfl
  · show (if y = x then some v else m y) = some u
    rw [if_neg hne]; exact hm y u l'
theorem zInt {i : Int} {k : Nat} {env : Env} {Q : Value → Shared → Prop} (hq : ∀ u t', Q (.int i u) ⟨h, g, d, t', os⟩) : wpAny M A (eval (.Constant (.int i) k pos) env) Q E ⟨h, g, d, t, os⟩ := wpAny_Constant_int (hq _ _)
theorem zByt {x : List UInt8} {k : Nat} {env : Env} {Q : Value → Shared → Prop} (hq : ∀ u t', Q (.bytes x.toArray u) ⟨h, g, d, t', os⟩) : wpAny M A (eval (.Constant (.bytes x) k pos) env) Q E ⟨h, g, d, t, os⟩ := fun _ _ _ => hq _ _
theorem zStr {x : Str} {k : Nat} {env : Env} {Q : Value → Shared → Prop} (hq : ∀ u t', Q (.str x u) ⟨h, g, d, t', os⟩) : wpAny M A (eval (.Constant (.str x) k pos) env) Q E ⟨h, g, d, t, os⟩ := fun _ _ _ => hq _ _
theorem zNew {vals : List Value} {Q : Value → Shared → Prop} (W : Wd h₀ L K vs news h) (hsz : vals.length ≤ sizeLine)
    (hq : ∀ l h', Wd h₀ L K vs ((l, { cls := .type "tuple", data := .seq vals.toArray }) :: news) h' → Q (.ref l) ⟨h', g, d, t, os⟩) : wpAny M A (newTuple vals) Q E ⟨h, g, d, t, os⟩ :=
  wpAny_newObj_type (s := ⟨h, g, d, t, os⟩) (hq _ _ (W.push _ rfl)) (by show vals.toArray.size ≤ sizeLine; rw [List.size_toArray]; exact hsz)
theorem zNewL {vals : List Value} {Q : Value → Shared → Prop} (W : Wd h₀ L K vs news h) (hsz : vals.length ≤ sizeLine)
    (hq : ∀ l h', Wd h₀ L K vs ((l, { cls := .type "list", data := .seq vals.toArray }) :: news) h' → Q (.ref l) ⟨h', g, d, t, os⟩) : wpAny M A (newList vals) Q E ⟨h, g, d, t, os⟩ :=
  wpAny_newObj_type (s := ⟨h, g, d, t, os⟩) (hq _ _ (W.push _ rfl)) (by show vals.toArray.size ≤ sizeLine; rw [List.size_toArray]; exact hsz)
end

/-- a name that the top or the built-ins bind -/
structure IsG (w : World) (x : Str) (v : Value) : Prop where
  e : nsIn (KF w) mainGlobals x = some (some v)
  hdb : (x == ("__debug__" : Str)) = false
structure IsB (w : World) (x : Str) (v : Value) : Prop where
  e : nsIn (KF w) mainGlobals x = some none
  hv : bootBuiltins x = some v
  hn : (x == ("__name__" : Str)) = false
  hdb : (x == ("__debug__" : Str)) = false
theorem b_type (w : World) : IsB w "type" (.type "type") := ⟨by kernel_rfl!, by kernel_rfl!, by decide +kernel, by decide +kernel⟩
theorem b_issubclass (w : World) : IsB w "issubclass" (.builtin "issubclass") := ⟨by kernel_rfl!, by kernel_rfl!, by decide +kernel, by decide +kernel⟩
theorem b_isinstance (w : World) : IsB w "isinstance" (.builtin "isinstance") := ⟨by kernel_rfl!, by kernel_rfl!, by decide +kernel, by decide +kernel⟩
theorem b_str (w : World) : IsB w "str" (.type "str") := ⟨by kernel_rfl!, by kernel_rfl!, by decide +kernel, by decide +kernel⟩
theorem b_bytes (w : World) : IsB w "bytes" (.type "bytes") := ⟨by kernel_rfl!, by kernel_rfl!, by decide +kernel, by decide +kernel⟩
theorem b_len (w : World) : IsB w "len" (.builtin "len") := ⟨by kernel_rfl!, by kernel_rfl!, by decide +kernel, by decide +kernel⟩
theorem b_range (w : World) : IsB w "range" (.type "range") := ⟨by kernel_rfl!, by kernel_rfl!, by decide +kernel, by decide +kernel⟩
theorem b_bytearray (w : World) : IsB w "bytearray" (.type "bytearray") := ⟨by kernel_rfl!, by kernel_rfl!, by decide +kernel, by decide +kernel⟩
theorem b_sorted (w : World) : IsB w "sorted" (.builtin "sorted") := ⟨by kernel_rfl!, by kernel_rfl!, by decide +kernel, by decide +kernel⟩
theorem b_max (w : World) : IsB w "max" (.builtin "max") := ⟨by kernel_rfl!, by kernel_rfl!, by decide +kernel, by decide +kernel⟩
theorem b_enumerate (w : World) : IsB w "enumerate" (.type "enumerate") := ⟨by kernel_rfl!, by kernel_rfl!, by decide +kernel, by decide +kernel⟩
theorem b_sum (w : World) : IsB w "sum" (.builtin "sum") := ⟨by kernel_rfl!, by kernel_rfl!, by decide +kernel, by decide +kernel⟩
theorem b_list (w : World) : IsB w "list" (.type "list") := ⟨by kernel_rfl!, by kernel_rfl!, by decide +kernel, by decide +kernel⟩
theorem b_IndexError (w : World) : IsB w "IndexError" (.type "IndexError") := ⟨by kernel_rfl!, by kernel_rfl!, by decide +kernel, by decide +kernel⟩
theorem g_fspath (w : World) : IsG w "fspath" (.ref 94) := ⟨by kernel_rfl!, by decide +kernel⟩
theorem g_splitroot (w : World) : IsG w "splitroot" (.ref 101) := ⟨by kernel_rfl!, by decide +kernel⟩
theorem g_normpath (w : World) : IsG w "normpath" (.ref 108) := ⟨by kernel_rfl!, by decide +kernel⟩
theorem g_sorted_list_difference (w : World) : IsG w "sorted_list_difference" (.ref 115) := ⟨by kernel_rfl!, by decide +kernel⟩
theorem g_byteswap (w : World) : IsG w "_byteswap" (.ref 122) := ⟨by kernel_rfl!, by decide +kernel⟩
theorem g_law_straight (w : World) : IsG w "_law_straight" (.ref 129) := ⟨by kernel_rfl!, by decide +kernel⟩
theorem g_law_heights (w : World) : IsG w "_law_heights" (.ref 136) := ⟨by kernel_rfl!, by decide +kernel⟩
theorem g_law_left (w : World) : IsG w "_law_left" (.ref 141) := ⟨by kernel_rfl!, by decide +kernel⟩
theorem g_law_only (w : World) : IsG w "_law_only" (.ref 146) := ⟨by kernel_rfl!, by decide +kernel⟩
theorem g_law_apart (w : World) : IsG w "_law_apart" (.ref 153) := ⟨by kernel_rfl!, by decide +kernel⟩

section
variable {M : Model} {A : Around} {E : Value → Shared → Prop} {h₀ h : Heap} {g : Array GenState} {d : Drawn} {t : Nat} {os : OsState} {L a : Addr} {K : List Str} {vs vs' : List (Option Value)} {news : List (Addr × Obj)}
  {name : Str} {scope : Scope} {cd : Value} {x : Str} {pos : Pos} {v : Value} {mg mb : Str → Option Value} {w : World}
theorem zG {Q : Value → Shared → Prop} (W : Wd h₀ L K vs news h) (tp : Tp w mg mb h₀) (e : IsG w x v) (hq : Q v ⟨h, g, d, t, os⟩)
    (hk : scope.kind = .function) (hl : (envOf name scope L a cd).kindOf x = some .globalImplicit) :
    wpAny M A (eval (.Name x pos) (envOf name scope L a cd)) Q E ⟨h, g, d, t, os⟩ := zGl W tp e.e hq hk hl e.hdb
theorem zB {Q : Value → Shared → Prop} (W : Wd h₀ L K vs news h) (tp : Tp w mg mb h₀) (e : IsB w x v) (hq : Q v ⟨h, g, d, t, os⟩)
    (hk : scope.kind = .function) (hl : (envOf name scope L a cd).kindOf x = some .globalImplicit) :
    wpAny M A (eval (.Name x pos) (envOf name scope L a cd)) Q E ⟨h, g, d, t, os⟩ := zBi W tp e.e e.hv e.hn hq hk hl e.hdb
end

section
variable {prog : Program} {w : World} {A : Around} {E : Value → Shared → Prop} {s : Shared} {Q : Value → Shared → Prop}

theorem sub_bb : isSubtype (.type "bytes") (.type "bytes") = pure true := by rw [isSubtype_type]; kernel_rfl
theorem sub_ss : isSubtype (.type "str") (.type "str") = pure true := by rw [isSubtype_type]; kernel_rfl
theorem sub_bs : isSubtype (.type "bytes") (.type "str") = pure false := by rw [isSubtype_type]; kernel_rfl
theorem sub_sb : isSubtype (.type "str") (.type "bytes") = pure false := by rw [isSubtype_type]; kernel_rfl
theorem sub_tt : isSubtype (.type "tuple") (.type "tuple") = pure true := by rw [isSubtype_type]; kernel_rfl
theorem ty_str : typeOf (.type "str") = pure (.type "type") := by kernel_rfl
theorem ty_bytes : typeOf (.type "bytes") = pure (.type "type") := by kernel_rfl
theorem plain_nested : plainId "issubclass.nested" = true := by decide +kernel
theorem kind_nested : builtinKind "issubclass.nested" = none := by decide +kernel
theorem sig_nested : Manifest.signature? "issubclass.nested" = none := by kernel_rfl
theorem ok_nested (l : List Value) : argsOk "issubclass.nested" ⟨l, []⟩ := by unfold argsOk; rw [sig_nested]

theorem nested1 {a c : String} {b : Bool} {k : Value} {i : Int} {tk : Tok} (hk : k = .int i tk) (ht : typeOf (.type c) = pure (.type "type")) (hsub : isSubtype (.type a) (.type c) = pure b) (hq : Q (.bool b) s) :
    wpAny (model prog w) A (call (.builtin "issubclass.nested") [.type a, .type c, k]) Q E s := by
  subst hk
  refine call_function_meets kind_nested plain_nested F.entry_issubclass_nested (ok_nested _) (S := fun _ R s' => R (.ok (.ret (.bool b))) s') (fun prog w A R s' hs => ?_) hq
  repeat (any_goals (first | assumption | wp_step))

theorem issub_bytes {T : Addr} {o : Obj} (ho : s.heap.get? T = some o) (hc : o.cls = .type "tuple") (hd : ∃ n, o.data = .seq #[.type "str", .type "bytes"] n) (hq : Q (.bool true) s) :
    wpAny (model prog w) A (call (.builtin "issubclass") [.type "bytes", .ref T]) Q E s := by
  refine call_issubclass (S := fun _ R s' => s' = s ∧ R (.ok (.ret (.bool true))) s) (fun prog w A R s' hs => ?_) ⟨rfl, hq⟩
  obtain ⟨rfl, hs⟩ := hs
  refine issubclass_outer ?_
  have hT : s'.TypeIs (.ref T) "tuple" := ⟨o, ho, hc⟩
  have h1 := sub_tt
  obtain ⟨n, hd⟩ := hd
  repeat (any_goals (first | assumption | wp_step))
  rw [hd]
  dsimp only [Option.getD]
  refine wpAny_pure (wpAny_bind ?_)
  rw [← Array.forIn_toList]
  simp only [List.forIn_cons]
  refine wpAny_bind (wpAny_bind (nested1 rfl ty_str sub_bs ?_))
  repeat (any_goals (first | assumption | (refine nested1 rfl ty_bytes sub_bb ?_) | wp_step))
theorem issub_str {T : Addr} {o : Obj} (ho : s.heap.get? T = some o) (hc : o.cls = .type "tuple") (hd : ∃ n, o.data = .seq #[.type "str", .type "bytes"] n) (hq : Q (.bool true) s) :
    wpAny (model prog w) A (call (.builtin "issubclass") [.type "str", .ref T]) Q E s := by
  refine call_issubclass (S := fun _ R s' => s' = s ∧ R (.ok (.ret (.bool true))) s) (fun prog w A R s' hs => ?_) ⟨rfl, hq⟩
  obtain ⟨rfl, hs⟩ := hs
  refine issubclass_outer ?_
  have hT : s'.TypeIs (.ref T) "tuple" := ⟨o, ho, hc⟩
  have h1 := sub_tt
  obtain ⟨n, hd⟩ := hd
  repeat (any_goals (first | assumption | wp_step))
  rw [hd]
  dsimp only [Option.getD]
  refine wpAny_pure (wpAny_bind ?_)
  rw [← Array.forIn_toList]
  simp only [List.forIn_cons]
  refine wpAny_bind (wpAny_bind (nested1 rfl ty_str sub_ss ?_))
  repeat (any_goals (first | assumption | wp_step))
end

theorem iteT {X Y : Prop} (h : X) : if true = true then X else Y := h
theorem iteF {X Y : Prop} (h : Y) : if false = true then X else Y := h
theorem truthyB {M : Model} {A : Around} {E : Value → Shared → Prop} {s : Shared} {b : Bool} {Q : Bool → Shared → Prop} (h : Q b s) : wpAny M A (truthy (.bool b)) Q E s := fun _ _ _ => h


section
variable {α : Type} [DecidableEq α]
/-- a text cut at a sign -/
def splitL (c : α) : List α → List (List α)
  | [] => [[]]
  | x :: xs => if x = c then [] :: splitL c xs else match splitL c xs with
    | [] => [[x]]
    | y :: ys => (x :: y) :: ys
def glue (cur : List α) : List (List α) → List (List α)
  | [] => [cur]
  | y :: ys => (cur ++ y) :: ys
theorem splitL_ne (c : α) : ∀ l, splitL c l ≠ []
  | [] => by simp [splitL]
  | x :: xs => by
    unfold splitL
    split
    · simp
    · split <;> simp
theorem splitL_cons_ne {c x : α} (h : x ≠ c) (xs : List α) : splitL c (x :: xs) = glue [x] (splitL c xs) := by
  conv => lhs; unfold splitL
  rw [if_neg h]
  cases splitL c xs <;> rfl
theorem splitL_cons_eq (c : α) (xs : List α) : splitL c (c :: xs) = [] :: splitL c xs := by
  conv => lhs; unfold splitL
  rw [if_pos rfl]
omit [DecidableEq α] in
theorem glue_nil (l : List (List α)) (h : l ≠ []) : glue [] l = l := by
  cases l with
  | nil => exact absurd rfl h
  | cons y ys => rfl
omit [DecidableEq α] in
theorem glue_glue (a b : List α) (l : List (List α)) (h : l ≠ []) : glue a (glue b l) = glue (a ++ b) l := by
  cases l with
  | nil => exact absurd rfl h
  | cons y ys => simp [glue]
/-- texts joined by a sign -/
def joinL (c : α) : List (List α) → List α
  | [] => []
  | [x] => x
  | x :: y :: r => x ++ c :: joinL c (y :: r)
theorem splitL_free {c : α} : ∀ {p : List α}, c ∉ p → splitL c p = [p]
  | [], _ => rfl
  | x :: xs, h => by
    have hx : x ≠ c := fun e => h (e ▸ .head _)
    rw [splitL_cons_ne hx, splitL_free (p := xs) fun q => h (.tail _ q)]; rfl
theorem splitL_app {c : α} : ∀ {p : List α} (r : List α), c ∉ p → splitL c (p ++ c :: r) = p :: splitL c r
  | [], r, _ => splitL_cons_eq c r
  | x :: xs, r, h => by
    have hx : x ≠ c := fun e => h (e ▸ .head _)
    show splitL c (x :: (xs ++ c :: r)) = _
    rw [splitL_cons_ne hx, splitL_app (p := xs) r fun q => h (.tail _ q)]; rfl
theorem splitL_joinL {c : α} : ∀ {ps : List (List α)}, ps ≠ [] → (∀ p ∈ ps, c ∉ p) → splitL c (joinL c ps) = ps
  | [], h, _ => absurd rfl h
  | [x], _, h => splitL_free (h x (.head _))
  | x :: y :: r, _, h => by
    show splitL c (x ++ c :: joinL c (y :: r)) = _
    rw [splitL_app _ (h x (.head _)), splitL_joinL (by simp) fun p hp => h p (.tail _ hp)]
omit [DecidableEq α] in
theorem joinL_length (c : α) : ∀ ps : List (List α), (joinL c ps).length ≤ (ps.map List.length).sum + ps.length
  | [] => Nat.le_refl _
  | [x] => by simp [joinL]
  | x :: y :: r => by
    have := joinL_length c (y :: r)
    simp only [joinL, List.length_append, List.length_cons, List.map_cons, List.sum_cons] at this ⊢
    omega
end

section
/-- the octets' own cutting -/
def placesL (c : UInt8) : Nat → List UInt8 → List Nat
  | _, [] => []
  | k, x :: xs => if x = c then k :: placesL c (k + 1) xs else placesL c (k + 1) xs
theorem occ_fold (b : Array UInt8) (c : UInt8) : ∀ (l : List UInt8) (k : Nat) (acc : List Nat) (m : Nat), m ≤ k → (b.toList.drop k = l) →
    (((List.range' k l.length).foldl (fun (acc : List Nat × Nat) (i : Nat) => if i ≥ acc.2 && b.extract i (i + 1) == #[c] then (i :: acc.1, i + 1) else acc) (acc, m)).1 = (placesL c k l).reverse ++ acc)
  | [], k, acc, m, _, _ => rfl
  | x :: xs, k, acc, m, hm, hd => by
    have hx : b.toList[k]? = some x := by
      rw [← List.head?_drop, hd]; rfl
    have he : b.extract k (k + 1) = #[x] := by
      apply Array.ext'
      rw [Array.toList_extract, List.extract_eq_take_drop, hd]
      simp
    have hd' : b.toList.drop (k + 1) = xs := by
      rw [← List.tail_drop, hd]; rfl
    rw [show (x :: xs).length = xs.length + 1 from rfl, List.range'_succ, List.foldl_cons]
    dsimp only
    rw [he]
    unfold placesL
    by_cases hxc : x = c
    · subst hxc
      rw [if_pos (by simp [hm]), if_pos rfl, occ_fold b x xs (k + 1) _ _ (Nat.le_refl _) hd']
      simp
    · rw [if_neg (by simp [hxc]), if_neg hxc, occ_fold b c xs (k + 1) _ _ (Nat.le_succ_of_le hm) hd']
theorem occ_eq (l : List UInt8) (c : UInt8) : Builtin.Bytes.occurrences l.toArray #[c] 0 l.toArray.size = placesL c 0 l := by
  unfold Builtin.Bytes.occurrences
  have := occ_fold l.toArray c l 0 [] 0 (Nat.le_refl _) rfl
  rw [List.append_nil] at this
  have e : ((List.range (l.toArray.size + 1 - (0 + (#[c] : Array UInt8).size))).map (· + 0)) = List.range' 0 l.length := by
    simp [List.range_eq_range']
  rw [e]
  dsimp only
  rw [show (#[c] : Array UInt8).size = 1 from rfl, this, List.reverse_reverse]
theorem btw_fold (b : Array UInt8) (c : UInt8) : ∀ (l cur pre : List UInt8) (parts : Array (Array UInt8)), b.toList = pre ++ cur ++ l →
    (((placesL c (pre.length + cur.length) l).foldl (fun (x : Array (Array UInt8) × Nat) p => (x.1.push (b.extract x.2 p), p + 1)) (parts, pre.length)) |> fun x => (x.1.push (b.extract x.2 b.size)).toList) =
      parts.toList ++ (glue cur (splitL c l)).map List.toArray
  | [], cur, pre, parts, hb => by
    have : b.extract pre.length b.size = cur.toArray := by
      apply Array.ext'
      rw [Array.toList_extract, List.extract_eq_take_drop, hb]
      have hs : b.size = pre.length + cur.length := by rw [← Array.length_toList, hb]; simp
      rw [hs]; simp
    simp [placesL, splitL, glue, this]
  | x :: xs, cur, pre, parts, hb => by
    unfold placesL
    by_cases hxc : x = c
    · subst hxc
      rw [if_pos rfl, List.foldl_cons, splitL_cons_eq]
      have he : b.extract pre.length (pre.length + cur.length) = cur.toArray := by
        apply Array.ext'
        rw [Array.toList_extract, List.extract_eq_take_drop, hb]
        simp
      dsimp only
      rw [he]
      have ih := btw_fold b x xs [] (pre ++ cur ++ [x]) (parts.push cur.toArray) (by rw [hb]; simp)
      have el : (pre ++ cur ++ [x]).length = pre.length + cur.length + 1 := by simp; omega
      rw [el] at ih
      have e0 : pre.length + cur.length + 1 + ([] : List UInt8).length = pre.length + cur.length + 1 := rfl
      rw [e0] at ih
      dsimp only at ih
      rw [ih, glue_nil _ (splitL_ne _ _)]
      simp [glue]
    · rw [if_neg hxc, splitL_cons_ne hxc, glue_glue _ _ _ (splitL_ne _ _)]
      have ih := btw_fold b c xs (cur ++ [x]) pre parts (by rw [hb]; simp)
      have el : pre.length + (cur ++ [x]).length = pre.length + cur.length + 1 := by simp; omega
      rw [el] at ih
      exact ih
theorem between_eq (l : List UInt8) (c : UInt8) : Builtin.Bytes.between l.toArray 1 (placesL c 0 l) = (splitL c l).map List.toArray := by
  have := btw_fold l.toArray c l [] [] #[] rfl
  rw [glue_nil _ (splitL_ne _ _)] at this
  exact this
theorem placesL_nil {c : UInt8} : ∀ {l : List UInt8} {k : Nat}, placesL c k l = [] → splitL c l = [l]
  | [], _, _ => rfl
  | x :: xs, k, h => by
    unfold placesL at h
    by_cases hxc : x = c
    · rw [if_pos hxc] at h; cases h
    · rw [if_neg hxc] at h
      rw [splitL_cons_ne hxc, placesL_nil h]; rfl
theorem joined_go (c : UInt8) : ∀ (ps : List (List UInt8)) (i : Nat) (out : Array UInt8), 0 < i →
    ((ps.map List.toArray).zipIdx i).foldl (fun (out : Array UInt8) (x : Array UInt8 × Nat) => (if x.2 > 0 then out ++ #[c] else out) ++ x.1) out = out ++ (ps.flatMap fun p => c :: p).toArray
  | [], i, out, _ => by simp
  | p :: ps, i, out, h => by
    rw [List.map_cons, List.zipIdx_cons, List.foldl_cons, joined_go c ps (i + 1) _ (Nat.succ_pos _)]
    dsimp only
    rw [if_pos h]
    simp
theorem joinL_flat (c : UInt8) : ∀ (p : List UInt8) (ps : List (List UInt8)), joinL c (p :: ps) = p ++ ps.flatMap fun p => c :: p
  | p, [] => by simp [joinL]
  | p, q :: r => by
    show p ++ c :: joinL c (q :: r) = _
    rw [joinL_flat c q r]; simp
theorem joined_eq (c : UInt8) (ps : List (List UInt8)) : Builtin.Bytes.joined #[c] (ps.map List.toArray) = (joinL c ps).toArray := by
  unfold Builtin.Bytes.joined
  cases ps with
  | nil => rfl
  | cons p ps =>
    have := joined_go c ps 1 p.toArray (Nat.succ_pos _)
    rw [List.map_cons, List.zipIdx_cons, List.foldl_cons]
    dsimp only
    rw [if_neg (by omega)]
    show List.foldl _ _ ((ps.map List.toArray).zipIdx 1) = _
    rw [show (#[] : Array UInt8) ++ p.toArray = p.toArray by simp]
    rw [this, joinL_flat]
    simp
end

def asB : Value → Option (List UInt8)
  | .bytes b _ => some b.toList
  | _ => none
theorem asB_mk (l : List UInt8) (t : Tok) : asB (.bytes l.toArray t) = some l := rfl
theorem of_asB {v : Value} {l : List UInt8} (h : asB v = some l) : ∃ t, v = .bytes l.toArray t := by
  cases v with
  | bytes b t => simp only [asB, Option.some.injEq] at h; subst h; exact ⟨t, by simp⟩
  | _ => cases h
def BsAre (vs : List Value) (bs : List (List UInt8)) : Prop := vs.map asB = bs.map some
theorem BsAre.nil : BsAre [] [] := rfl
theorem BsAre.cons {l : List UInt8} {t : Tok} {vs : List Value} {bs : List (List UInt8)} (h : BsAre vs bs) : BsAre (.bytes l.toArray t :: vs) (l :: bs) := by
  unfold BsAre at *; rw [List.map_cons, List.map_cons, h]; rfl
theorem BsAre.length {vs : List Value} {bs : List (List UInt8)} (h : BsAre vs bs) : vs.length = bs.length := by
  have := congrArg List.length h; simpa using this
theorem BsAre.get {vs : List Value} {bs : List (List UInt8)} (h : BsAre vs bs) {i : Nat} {b : List UInt8} (hb : bs[i]? = some b) : ∃ t, vs[i]? = some (.bytes b.toArray t) := by
  have := congrArg (·[i]?) h
  simp only [List.getElem?_map, hb, Option.map_some] at this
  cases e : vs[i]? with
  | none => rw [e] at this; cases this
  | some v =>
    rw [e] at this
    obtain ⟨t, rfl⟩ := of_asB (Option.some.inj this)
    exact ⟨t, rfl⟩

theorem BsAre.mem {vs : List Value} {bs : List (List UInt8)} (h : BsAre vs bs) {v : Value} (hv : v ∈ vs) : ∃ b t, b ∈ bs ∧ v = .bytes b.toArray t := by
  obtain ⟨i, hi, rfl⟩ := List.mem_iff_getElem.mp hv
  have hl := h.length
  obtain ⟨t, ht⟩ := h.get (i := i) (b := bs[i]'(hl ▸ hi)) (by simp [hl ▸ hi])
  refine ⟨_, t, List.getElem_mem (hl ▸ hi), ?_⟩
  rw [List.getElem?_eq_getElem hi] at ht
  exact Option.some.inj ht
theorem BsAre.append {vs us : List Value} {bs cs : List (List UInt8)} (h : BsAre vs bs) (h' : BsAre us cs) : BsAre (vs ++ us) (bs ++ cs) := by
  unfold BsAre at *; rw [List.map_append, List.map_append, h, h']
theorem BsAre.take {vs : List Value} {bs : List (List UInt8)} (h : BsAre vs bs) (n : Nat) : BsAre (vs.take n) (bs.take n) := by
  unfold BsAre at *; rw [List.map_take, List.map_take, h]
theorem BsAre.drop {vs : List Value} {bs : List (List UInt8)} (h : BsAre vs bs) (n : Nat) : BsAre (vs.drop n) (bs.drop n) := by
  unfold BsAre at *; rw [List.map_drop, List.map_drop, h]
theorem BsAre.reverse {vs : List Value} {bs : List (List UInt8)} (h : BsAre vs bs) : BsAre vs.reverse bs.reverse := by
  unfold BsAre at *; rw [List.map_reverse, List.map_reverse, h]

namespace FM
open Builtin
theorem slot_split : Slot "bytes" "split" "bytes.split" :=
  .of (owner := "bytes") (n := "split") (by rw [typeLookup_type, builtinLookup_eq_fast]; kernel_rfl) (by decide +kernel) (by decide +kernel) (by decide +kernel)
    (by first | exact .inl (by decide +kernel) | exact .inr (by decide +kernel)) (by rw [isSubtype_type]; kernel_rfl)
theorem type_split : typeOf (.builtin "bytes.split") = pure (.type "method_descriptor") := by kernel_rfl
theorem entry_split : entryFor table "bytes.split" = some Builtin.«bytes.split» := entryFor_of_tree (by kernel_rfl)
theorem args_split (a b : Value) : argsOk "bytes.split" ⟨[a, b], []⟩ := by unfold argsOk; kernel_rfl
theorem slot_join : Slot "bytes" "join" "bytes.join" :=
  .of (owner := "bytes") (n := "join") (by rw [typeLookup_type, builtinLookup_eq_fast]; kernel_rfl) (by decide +kernel) (by decide +kernel) (by decide +kernel)
    (by first | exact .inl (by decide +kernel) | exact .inr (by decide +kernel)) (by rw [isSubtype_type]; kernel_rfl)
theorem type_join : typeOf (.builtin "bytes.join") = pure (.type "method_descriptor") := by kernel_rfl
theorem entry_join : entryFor table "bytes.join" = some Builtin.«bytes.join» := entryFor_of_tree (by kernel_rfl)
theorem args_join (a b : Value) : argsOk "bytes.join" ⟨[a, b], []⟩ := by unfold argsOk; kernel_rfl
theorem slot_append : Slot "list" "append" "list.append" :=
  .of (owner := "list") (n := "append") (by rw [typeLookup_type, builtinLookup_eq_fast]; kernel_rfl) (by decide +kernel) (by decide +kernel) (by decide +kernel)
    (by first | exact .inl (by decide +kernel) | exact .inr (by decide +kernel)) (by rw [isSubtype_type]; kernel_rfl)
theorem type_append : typeOf (.builtin "list.append") = pure (.type "method_descriptor") := by kernel_rfl
theorem slot_pop : Slot "list" "pop" "list.pop" :=
  .of (owner := "list") (n := "pop") (by rw [typeLookup_type, builtinLookup_eq_fast]; kernel_rfl) (by decide +kernel) (by decide +kernel) (by decide +kernel)
    (by first | exact .inl (by decide +kernel) | exact .inr (by decide +kernel)) (by rw [isSubtype_type]; kernel_rfl)
theorem type_pop : typeOf (.builtin "list.pop") = pure (.type "method_descriptor") := by kernel_rfl
theorem slot_extend : Slot "list" "extend" "list.extend" :=
  .of (owner := "list") (n := "extend") (by rw [typeLookup_type, builtinLookup_eq_fast]; kernel_rfl) (by decide +kernel) (by decide +kernel) (by decide +kernel)
    (by first | exact .inl (by decide +kernel) | exact .inr (by decide +kernel)) (by rw [isSubtype_type]; kernel_rfl)
theorem type_extend : typeOf (.builtin "list.extend") = pure (.type "method_descriptor") := by kernel_rfl
theorem bind_split (v : Value) : Bytes.bindOptional "bytes.split" "split" ["sep", "maxsplit"] [v] [] = pure [some v, none] := by kernel_rfl
end FM

section
variable {M : Model} {A : Around} {E : Value → Shared → Prop}
theorem mapM_new : ∀ (xs : List (List UInt8)) (s : Shared) (Q : List Value → Shared → Prop), (∀ x ∈ xs, x.length ≤ sizeLine) → (∀ vs k, BsAre vs xs → Q vs { s with toks := k }) → wpAny M A ((xs.map List.toArray).mapM (Builtin.Bytes.Kind.new .bytes)) Q E s
  | [], s, Q, _, h => by rw [List.map_nil, List.mapM_nil]; exact wpAny_pure (h [] s.toks .nil)
  | x :: r, s, Q, hx, h => by
    rw [List.map_cons, List.mapM_cons]
    refine wpAny_bind (wpAny_mkBytes (wpAny_bind (mapM_new r _ _ (fun y hy => hx y (List.mem_cons_of_mem _ hy)) fun vs k hb => wpAny_pure (h _ k hb.cons))) ?_)
    simpa using hx x (List.mem_cons_self ..)
end
section
open Builtin
theorem splitL_sizes {α : Type} [DecidableEq α] (c : α) : ∀ (l : List α) (p : List α), p ∈ splitL c l → p.length ≤ l.length
  | [], p, h => by simp [splitL] at h; subst h; exact Nat.le_refl _
  | x :: xs, p, h => by
    by_cases hx : x = c
    · subst hx
      rw [splitL_cons_eq] at h
      rcases List.mem_cons.mp h with rfl | h
      · exact Nat.zero_le _
      · exact Nat.le_succ_of_le (splitL_sizes x xs p h)
    · rw [splitL_cons_ne hx] at h
      cases e : splitL c xs with
      | nil => exact absurd e (splitL_ne _ _)
      | cons y ys =>
        rw [e] at h
        rcases List.mem_cons.mp h with rfl | h
        · have := splitL_sizes c xs y (by rw [e]; exact .head _)
          simpa using this
        · exact Nat.le_succ_of_le (splitL_sizes c xs p (by rw [e]; exact .tail _ h))
theorem splitL_count {α : Type} [DecidableEq α] (c : α) : ∀ (l : List α), (splitL c l).length ≤ l.length + 1
  | [] => by simp [splitL]
  | x :: xs => by
    have ih := splitL_count c xs
    by_cases hx : x = c
    · subst hx
      rw [splitL_cons_eq]; simp; omega
    · rw [splitL_cons_ne hx]
      cases e : splitL c xs with
      | nil => exact absurd e (splitL_ne _ _)
      | cons y ys => rw [e] at ih; simp [glue] at ih ⊢; omega
theorem meets_split (a : List UInt8) (c : UInt8) (t u : Tok) (hz : a.length < 1000000) :
    Meets (Builtin.«bytes.split» ⟨[.bytes a.toArray t, .bytes #[c] u], []⟩) (fun _ R s => ∀ vs k, BsAre vs (splitL c a) → R (.ok (.ret (.ref s.heap.objs.size))) { s with heap := s.heap.push { cls := .type "list", data := .seq vs.toArray }, toks := k }) := by
  refine .of_wp fun prog w A R s h => ?_
  show wpAny _ _ (Bytes.bindOptional "bytes.split" "split" ["sep", "maxsplit"] [.bytes #[c] u] [] >>= _) _ _ s
  refine wpAny_bind (wpAny_of_eq (FM.bind_split _) ?_)
  dsimp only
  refine wpAny_bind (wpAny_pure ?_)
  refine wpAny_bind (wpAny_of_eq (a := a.toArray) rfl ?_)
  refine wpAny_bind (wpAny_of_eq KBd.like_eq ?_)
  rw [occ_eq]
  have htake : (placesL c 0 a).take (if (-1 : Int) < 0 then a.toArray.size + 1 else (-1 : Int).toNat) = placesL c 0 a := by
    rw [if_pos (by decide)]
    apply List.take_of_length_le
    have : ∀ (l : List UInt8) (k : Nat), (placesL c k l).length ≤ l.length := by
      intro l
      induction l with
      | nil => intro k; exact Nat.le_refl _
      | cons x xs ih => intro k; unfold placesL; have := ih (k + 1); split <;> simp <;> omega
    have := this a 0
    simp; omega
  have hne : ¬ ((#[c] : Array UInt8).isEmpty = true) := by simp
  rw [if_neg hne]
  have hsl : sizeLine = 16777216 := sizeLine_eq
  by_cases hp : placesL c 0 a = []
  · have hcond : (if false = true then Bytes.occurrencesFromRight a.toArray #[c] (if (-1 : Int) < 0 then a.toArray.size + 1 else (-1 : Int).toNat) else (placesL c 0 a).take (if (-1 : Int) < 0 then a.toArray.size + 1 else (-1 : Int).toNat)).isEmpty = true := by
      rw [if_neg (by decide), htake, hp]; rfl
    refine wpAny_ite_true (decide_eq_true hcond) ?_
    refine wpAny_bind (wpAny_rule ?_)
    have hs : splitL c a = [a] := placesL_nil hp
    refine wpAny_bind (wpAny_of_eq (a := Value.bytes a.toArray t) rfl ?_)
    refine wpAny_bind (wpAny_newList (items := [.bytes a.toArray t]) ?_ (by simp [hsl]))
    exact wpAny_pure ⟨_, rfl, h [.bytes a.toArray t] s.toks (by rw [hs]; exact BsAre.nil.cons)⟩
  · have hcond : ¬ ((if false = true then Bytes.occurrencesFromRight a.toArray #[c] (if (-1 : Int) < 0 then a.toArray.size + 1 else (-1 : Int).toNat) else (placesL c 0 a).take (if (-1 : Int) < 0 then a.toArray.size + 1 else (-1 : Int).toNat)).isEmpty = true) := by
      rw [if_neg (by decide), htake]; simpa using hp
    refine wpAny_ite_false (decide_eq_false hcond) ?_
    rw [if_neg (by decide), htake]
    rw [show (#[c] : Array UInt8).size = 1 from rfl, between_eq]
    refine wpAny_bind (mapM_new _ _ _ (fun x hx => ?_) fun vs k hb => wpAny_bind ?_)
    · have := splitL_sizes c a x hx
      rw [hsl]; omega
    · refine wpAny_newList ?_ ?_
      · exact wpAny_pure ⟨_, rfl, h vs k hb⟩
      · have := splitL_count c a
        rw [hb.length, hsl]; omega
end

section
variable {M : Model} {A : Around} {E : Value → Shared → Prop} {s : Shared}
theorem forIn_list_inv {β : Type} {f : Nat → β → Sem (ForInStep β)} (ρ : Nat → β) (N : Nat) {Q : β → Shared → Prop} :
    ∀ (n k : Nat), k + n = N → (∀ i, k ≤ i → i < N → ∀ Q' : ForInStep β → Shared → Prop, Q' (.yield (ρ (i + 1))) s → wpAny M A (f i (ρ i)) Q' E s) → Q (ρ N) s → wpAny M A (forIn (List.range' k n) (ρ k) f) Q E s
  | 0, k, hN, _, hq => by
    rw [show List.range' k 0 = [] from rfl, List.forIn_nil]
    have : k = N := by omega
    subst this
    exact wpAny_pure hq
  | n + 1, k, hN, hs, hq => by
    rw [List.range'_succ, List.forIn_cons]
    refine wpAny_bind (hs k (Nat.le_refl _) (by omega) _ ?_)
    exact forIn_list_inv ρ N n (k + 1) (by omega) (fun i hi => hs i (by omega)) hq
theorem forIn_range_inv {β : Type} {f : Nat → β → Sem (ForInStep β)} (ρ : Nat → β) {N : Nat} {Q : β → Shared → Prop}
    (hs : ∀ i, i < N → ∀ Q' : ForInStep β → Shared → Prop, Q' (.yield (ρ (i + 1))) s → wpAny M A (f i (ρ i)) Q' E s) (hq : Q (ρ N) s) : wpAny M A (forIn [0:N] (ρ 0) f) Q E s := by
  rw [Std.Legacy.Range.forIn_eq_forIn_range']
  have : [0:N].size = N := by simp [Std.Legacy.Range.size]
  rw [this]
  exact forIn_list_inv ρ N N 0 (by omega) (fun i _ => hs i) hq
open Builtin in
theorem wpAny_joinLetGo : ∀ (l : List (Value × Option Value)) (keep : List Value) {Q : Unit → Shared → Prop}, (∀ p ∈ l, p.2 = none) → Q () s → wpAny M A (Bytes.joinLetGo l keep) Q E s
  | [], _, _, _, h => wpAny_pure h
  | (x, w) :: r, keep, Q, hn, h => by
    have : w = none := hn _ (.head _)
    subst this
    unfold Bytes.joinLetGo
    exact wpAny_bind (wpAny_letGo (wpAny_joinLetGo r keep (fun p hp => hn p (.tail _ hp)) h))
end
section
open Builtin
theorem take_eq {id : String} {b : Array UInt8} {t : Tok} : Bytes.takeBufferQuiet? id (.bytes b t) 0 = pure (some (b, none)) := by
  unfold Bytes.takeBufferQuiet? Bytes.takeBuffer?
  have e1 : specialOf (.bytes b t) "__buffer__" = pure (some (.builtin "bytes.__buffer__")) := KBy.special_eq KBy.look_buffer
  rw [e1, pure_bind]
  dsimp only
  rw [KBy.own_buffer, pure_bind]
  simp only [Bool.not_true, Bool.false_eq_true, if_false, pure_bind]
  rw [show (0 == Bytes.fullReadOnly) = false from by decide, KBy.buffer_eq]
  rfl
theorem foldl_sizes (ps : List (List UInt8)) : ∀ k : Nat, (ps.map List.toArray).foldl (fun (a : Nat) (p : Array UInt8) => a + p.size) k = k + (ps.map List.length).sum := by
  induction ps with
  | nil => intro k; simp
  | cons p r ih => intro k; simp only [List.map_cons, List.foldl_cons, List.sum_cons]; rw [ih]; simp; omega
theorem meets_join (c : UInt8) (t : Tok) (D : Addr) (vs : List Value) (bs : List (List UInt8)) (hb : BsAre vs bs) (hz : (bs.map List.length).sum + bs.length < 1000000) :
    Meets (Builtin.«bytes.join» ⟨[.bytes #[c] t, .ref D], []⟩) (fun _ R s => (∃ o, s.heap.get? D = some o ∧ o.cls = .type "list" ∧ ∃ n, o.data = .seq vs.toArray n) ∧ ∀ t' k, R (.ok (.ret (.bytes (joinL c bs).toArray t'))) { s with toks := k }) := by
  refine .of_wp fun prog w A R s h => ?_
  obtain ⟨⟨o, ho, hc, n, hd⟩, h⟩ := h
  have hT : s.TypeIs (.ref D) "list" := ⟨o, ho, hc⟩
  unfold Builtin.«bytes.join» Bytes.joinM
  repeat (any_goals (first | assumption | (rw [hd]; dsimp only) | wp_step))
  by_cases hone : ∃ x, vs = [x]
  · obtain ⟨x, hv⟩ := hone
    subst hv
    obtain ⟨b, t', hm, rfl⟩ := hb.mem (.head _)
    have hbs : bs = [b] := by
      have hl := hb.length
      match bs, hl, hm with
      | [b'], _, hm => rw [List.mem_singleton.mp hm]
    subst hbs
    refine wpAny_bind (wpAny_of_eq (a := Value.type "bytes") rfl ?_)
    refine wpAny_ite_true rfl ?_
    refine wpAny_bind (wpAny_rule (wpAny_pure ⟨_, rfl, ?_⟩))
    exact h t' s.toks
  · have hsz : vs.toArray.size = bs.length := by simp [hb.length]
    rw [hsz]
    have hmm : ∀ (f : Value → Sem PySem.Fin) (g : Array Value → Sem PySem.Fin), Bytes.joinM.match_1 (fun _ => Sem PySem.Fin) vs.toArray f g = g vs.toArray := by
      intro f g
      rcases vs with _ | ⟨v, _ | ⟨v', r⟩⟩
      · rfl
      · exact absurd ⟨v, rfl⟩ hone
      · rfl
    rw [hmm]
    refine wpAny_bind (forIn_range_inv (fun i => (((bs.take i).map List.toArray).toArray, (vs.take i).map fun v => (v, none))) (fun i hi Q' hQ' => ?_) ?_)
    · refine wpAny_bind (wpAny_seqItems ho hd ?_)
      dsimp only
      obtain ⟨b, hbi⟩ : ∃ b, bs[i]? = some b := ⟨bs[i], by simp [hi]⟩
      obtain ⟨ti, hvi⟩ := hb.get hbi
      have hget : vs.toArray.getD i Value.none = .bytes b.toArray ti := by
        rw [Array.getD_eq_getD_getElem?]; simp [hvi]
      rw [hget]
      have hno : (Bytes.Kind.bytes == Bytes.Kind.bytearray || ((vs.take i).map fun v => (v, (none : Option Value))).any fun x => x.fst.onHeap) = false := by
        rw [show (Bytes.Kind.bytes == Bytes.Kind.bytearray) = false from rfl, Bool.false_or, List.any_eq_false]
        intro p hp
        obtain ⟨v, hv, rfl⟩ := List.mem_map.mp hp
        obtain ⟨b', t', _, rfl⟩ := hb.mem (List.mem_of_mem_take hv)
        exact Bool.false_ne_true
      refine wpAny_ite_false (by rw [hno]; rfl) ?_
      refine wpAny_bind (wpAny_holding (wpAny_of_eq take_eq ?_))
      dsimp only
      refine wpAny_bind (wpAny_seqItems ho hd ?_)
      dsimp only
      refine wpAny_ite_false (by rw [hsz]; simp) ?_
      refine wpAny_pure ?_
      have e1 : (((bs.take i).map List.toArray).toArray).push b.toArray = ((bs.take (i + 1)).map List.toArray).toArray := by
        rw [List.take_add_one, hbi]; simp
      have e2 : ((vs.take i).map fun v => (v, (none : Option Value))) ++ [(.bytes b.toArray ti, none)] = (vs.take (i + 1)).map fun v => (v, none) := by
        rw [List.take_add_one, hvi]; simp
      rw [e1, e2]
      exact hQ'
    · dsimp only
      refine wpAny_bind (wpAny_of_eq (a := #[c]) rfl ?_)
      rw [List.take_length, ← hb.length, List.take_length]
      have hsl : sizeLine = 16777216 := sizeLine_eq
      have hlong : Bytes.tooLong ((((bs.map List.toArray).toArray).foldl (fun (a : Nat) (p : Array UInt8) => a + p.size) ((#[c] : Array UInt8).size * (((bs.map List.toArray).toArray).size - 1)))) = false := by
        rw [← Array.foldl_toList]
        rw [show ((bs.map List.toArray).toArray).toList = bs.map List.toArray from rfl, foldl_sizes]
        refine decide_eq_false ?_
        rw [hsl]; simp; omega
      refine wpAny_ite_false (by rw [hlong]; rfl) ?_
      refine wpAny_bind (wpAny_mkBytes ?_ ?_)
      · refine wpAny_bind (wpAny_holding (wpAny_point (wpAny_bind (wpAny_joinLetGo _ _ (fun p hp => ?_) (wpAny_pure ⟨_, rfl, ?_⟩)))))
        · obtain ⟨v, _, rfl⟩ := List.mem_map.mp hp; rfl
        · have := h s.toks (s.toks + 1)
          rw [← joined_eq] at this
          exact this
      · rw [joined_eq, hsl]
        have := joinL_length c bs
        simp; omega
end

/-- a list object -/
abbrev lst (vs : List Value) (n : Nat := 0) : Obj := { cls := .type "list", data := .seq vs.toArray n }
abbrev slc (l u st : Value) : Obj := { cls := .type "slice", data := .fields #[l, u, st] }
def cutL {α : Type} (l : List α) (lo hi : Option Int) : List α := (l.drop (lo.elim 0 (clipAt l.length))).take (hi.elim l.length (clipAt l.length) - lo.elim 0 (clipAt l.length))

/-- the two kinds of texts: octets, and strs; and what normpath does with them -/
structure TK (α : Type) [DecidableEq α] where
  tx : List α → Tok → Value
  as : Value → Option (List α)
  as_mk : ∀ l t, as (tx l t) = some l
  of_as : ∀ {v : Value} {l : List α}, as v = some l → ∃ t, v = tx l t
  nref : ∀ l t a, tx l t ≠ .ref a
  sl : α
  dt : α
  hdt : dt ≠ sl
  idS : String
  idJ : String
  ne : ∀ {w : World} {A : Around} {E : Value → Shared → Prop} {s : Shared} {Q : Value → Shared → Prop} {a b : List α} {u v : Tok}, Q (.bool (decide (a ≠ b))) s → wpAny (model PG w) A (compareOp .NotEq (tx a u) (tx b v)) Q E s
  eq : ∀ {w : World} {A : Around} {E : Value → Shared → Prop} {s : Shared} {Q : Value → Shared → Prop} {a b : List α} {u v : Tok}, Q (.bool (decide (a = b))) s → wpAny (model PG w) A (compareOp .Eq (tx a u) (tx b v)) Q E s
  tr : ∀ {w : World} {A : Around} {E : Value → Shared → Prop} {h : Heap} {g : Array GenState} {d : Drawn} {t : Nat} {os : OsState} {Q : Bool → Shared → Prop} {a : List α} {u : Tok}, a.length < 1000000 → (∀ k, Q (!a.isEmpty) ⟨h, g, d, k, os⟩) → wpAny (model PG w) A (truthy (tx a u)) Q E ⟨h, g, d, t, os⟩
  cut : ∀ {w : World} {A : Around} {E : Value → Shared → Prop} {h : Heap} {g : Array GenState} {d : Drawn} {t : Nat} {os : OsState} {Q : Value → Shared → Prop} {a : List α} {v : Tok} {value slice : Expr} {l u : Value} {lo hi : Option Int},
    IsPart l lo → IsPart u hi → a.length < 1000000 → (∀ h' t' k, Kp h h' → Q (tx (cutL a lo hi) t') ⟨h', g, d, k, os⟩) →
    subscripted slice false (tx a v) (.ref h.objs.size) = operate [.ref h.objs.size, tx a v] (getItem (tx a v) (.ref h.objs.size)) → (∀ r, letTemporaryGo value (tx a v) r = pure ()) →
    wpAny (model PG w) A (subscriptTail value slice (tx a v) (.ref h.objs.size)) Q E ⟨h.push (slc l u .none), g, d, t, os⟩
  mS : ∀ {w : World} {A : Around} {E : Value → Shared → Prop} {s : Shared} {a : List α} {u : Tok} {pl : Sem Bool} {Q : Value × List Value → Shared → Prop}, Q (.builtin idS, [tx a u]) s → wpAny (model PG w) A (getMethod (tx a u) "split" pl) Q E s
  mJ : ∀ {w : World} {A : Around} {E : Value → Shared → Prop} {s : Shared} {a : List α} {u : Tok} {pl : Sem Bool} {Q : Value × List Value → Shared → Prop}, Q (.builtin idJ, [tx a u]) s → wpAny (model PG w) A (getMethod (tx a u) "join" pl) Q E s
  split : ∀ {w : World} {A : Around} {E : Value → Shared → Prop} {h : Heap} {g : Array GenState} {d : Drawn} {t : Nat} {os : OsState} {Q : Value → Shared → Prop} {a : List α} {u v : Tok}, a.length < 1000000 →
    (∀ D h' k vs n, Kp h h' → h.get? D = none → h'.get? D = some (lst vs n) → vs.map as = (splitL sl a).map some → Q (.ref D) ⟨h', g, d, k, os⟩) →
    wpAny (model PG w) A (call (.builtin idS) [tx a u, tx [sl] v]) Q E ⟨h, g, d, t, os⟩
  join : ∀ {w : World} {A : Around} {E : Value → Shared → Prop} {h : Heap} {g : Array GenState} {d : Drawn} {t : Nat} {os : OsState} {Q : Value → Shared → Prop} {D : Addr} {vs : List Value} {n : Nat} {bs : List (List α)} {u : Tok},
    h.get? D = some (lst vs n) → vs.map as = bs.map some → (bs.map List.length).sum + bs.length < 1000000 → (∀ t' k, Q (tx (joinL sl bs) t') ⟨h, g, d, k, os⟩) →
    wpAny (model PG w) A (call (.builtin idJ) [tx [sl] u, .ref D]) Q E ⟨h, g, d, t, os⟩
  add : ∀ {w : World} {A : Around} {E : Value → Shared → Prop} {h : Heap} {g : Array GenState} {d : Drawn} {t : Nat} {os : OsState} {Q : Value → Shared → Prop} {a b : List α} {u v : Tok}, a.length + b.length < 1000000 →
    (∀ t' k, Q (tx (a ++ b) t') ⟨h, g, d, k, os⟩) → wpAny (model PG w) A (binaryOp .Add (tx a u) (tx b v)) Q E ⟨h, g, d, t, os⟩

theorem sz6 {n : Nat} (h : n < 1000000) : n ≤ 16777216 := by omega
theorem fit12 {n : Nat} (h : n < 1000000) : n ≤ 1099511627776 := by omega

theorem none_size (h : Heap) : h.get? h.objs.size = none := by
  cases e : h.get? h.objs.size with
  | none => rfl
  | some o => exact absurd (Heap.lt_size e) (Nat.lt_irrefl _)
section
variable {w : World} {A : Around} {E : Value → Shared → Prop} {h : Heap} {g : Array GenState} {d : Drawn} {t : Nat} {os : OsState} {Q : Value → Shared → Prop} {a b : List UInt8} {u v : Tok}
theorem split_b (hz : a.length < 1000000) (hq : ∀ D h' k vs n, Kp h h' → h.get? D = none → h'.get? D = some (lst vs n) → vs.map asB = (splitL 47 a).map some → Q (.ref D) ⟨h', g, d, k, os⟩) :
    wpAny (model PG w) A (call (.builtin "bytes.split") [.bytes a.toArray u, .bytes [47].toArray v]) Q E ⟨h, g, d, t, os⟩ := by
  have z := meets_split a 47 u v hz
  refine call_meets (s := ⟨h, g, d, t, os⟩) FM.slot_split rfl FM.entry_split (FM.args_split _ _) z ?_
  intro vs k hb
  have e1 : (h.push (lst vs)).get? h.objs.size = some (lst vs) := Heap.get?_push_size h (o := lst vs) rfl
  exact hq h.objs.size (h.push (lst vs)) k vs 0 (Kp.push h _) (none_size h) e1 hb
theorem add_b (hz : a.length + b.length < 1000000) (hq : ∀ t' k, Q (.bytes (a ++ b).toArray t') ⟨h, g, d, k, os⟩) : wpAny (model PG w) A (binaryOp .Add (.bytes a.toArray u) (.bytes b.toArray v)) Q E ⟨h, g, d, t, os⟩ := by
  have e0 : a.toArray.size + b.toArray.size ≤ 16777216 := by rw [List.size_toArray, List.size_toArray]; omega
  refine KBy.add_bytes (s := ⟨h, g, d, t, os⟩) e0 fun t' k => ?_
  rw [List.append_toArray]
  exact hq t' k
end
set_option maxHeartbeats 2000000 in
/-- octets -/
def TKb : TK UInt8 where
  tx := fun l t => .bytes l.toArray t
  as := asB
  as_mk := asB_mk
  of_as := of_asB
  nref := fun _ _ _ e => nomatch e
  sl := 47
  dt := 46
  hdt := by decide
  idS := "bytes.split"
  idJ := "bytes.join"
  ne := by
    intro w A E s Q a b u v h
    refine ne_bytes ?_
    have : (a.toArray.toList != b.toArray.toList) = decide (a ≠ b) := by
      by_cases e : a = b <;> simp [e]
    rw [this]; exact h
  eq := by
    intro w A E s Q a b u v h
    refine eq_bytes ?_
    have : (a.toArray.toList == b.toArray.toList) = decide (a = b) := by
      by_cases e : a = b <;> simp [e]
    rw [this]; exact h
  tr := by
    intro w A E h g d t os Q a u hz hq
    refine truthy_bytes (s := ⟨h, g, d, t, os⟩) (by simpa using fit12 hz) ?_
    have : ((a.toArray.size : Int) != 0) = !a.isEmpty := by
      cases a with
      | nil => rfl
      | cons x r => simp; omega
    rw [this]; exact hq _
  cut := by
    intro w A E h g d t os Q a v value slice l u lo hi hl hu hz hq hs ht
    refine tail_of_ItemOn (s := ⟨h.push (slc l u .none), g, d, t, os⟩) ⟨"bytes", _, FB.slot_bytes_getitem.lookup, typeIs_bytes _ _ _, getItem_meets (typeIs_bytes _ _ _) (by decide) FB.slot_bytes_getitem FB.entry_bytes_getitem (FB.args_bytes_getitem_2 _ _) (KBc.meets_slice2 a.toArray v _ hl hu)
      ⟨Heap.IsSliceOf.new _ _ _ _, ?_, fun t' k => ?_⟩⟩ hs ht
    · refine Nat.le_trans (KBc.size_picked_le _ _ _) ?_
      rw [sizeLine_eq]; simpa using sz6 hz
    · have := hq _ t' k (Kp.push h (slc l u .none))
      have e : KBy.picked a.toArray lo hi = (cutL a lo hi).toArray := by
        rw [KBc.picked_eq]; rfl
      show Q (.bytes (KBy.picked a.toArray lo hi) t') _
      rw [e]; exact this
  mS := by
    intro w A E s a u pl Q h
    exact getMethod_builtin (typeIs_bytes _ _ _) FB.plainAttrs_bytes FM.slot_split FM.type_split (fun _ e => nomatch e) h
  mJ := by
    intro w A E s a u pl Q h
    exact getMethod_builtin (typeIs_bytes _ _ _) FB.plainAttrs_bytes FM.slot_join FM.type_join (fun _ e => nomatch e) h
  split := by
    intro w A E h g d t os Q a u v hz hq
    exact split_b hz hq
  join := by
    intro w A E h g d t os Q D vs n bs u ho hb hz hq
    exact call_meets (s := ⟨h, g, d, t, os⟩) FM.slot_join (typeIs_bytes _ _ _) FM.entry_join (FM.args_join _ _) (meets_join 47 u D vs bs hb hz) ⟨⟨_, ho, rfl, _, rfl⟩, fun t' k => hq t' k⟩
  add := by
    intro w A E h g d t os Q a b u v hz hq
    exact add_b hz hq

def asT : Value → Option (List Nat)
  | .str x _ => some x.cps.toList
  | _ => none
theorem asT_mk (l : List Nat) (t : Tok) : asT (.str ⟨l.toArray⟩ t) = some l := rfl
theorem of_asT {v : Value} {l : List Nat} (h : asT v = some l) : ∃ t, v = .str ⟨l.toArray⟩ t := by
  cases v with
  | str x t =>
    simp only [asT, Option.some.injEq] at h
    subst h
    exact ⟨t, by cases x; simp⟩
  | _ => cases h
theorem idx_eq (n : Nat) (lo hi : Option Int) : Builtin.Str.strSliceIndices lo hi 1 n = (List.range (hi.elim n (clipAt n) - lo.elim 0 (clipAt n))).map (lo.elim 0 (clipAt n) + ·) := by
  unfold Builtin.Str.strSliceIndices
  cases lo with
  | none =>
    cases hi with
    | none => exact sliceRange_one 0 n
    | some j =>
      have := sliceRange_one 0 (clipAt n j)
      rw [clipAt_cast] at this
      exact this
  | some i =>
    cases hi with
    | none =>
      have := sliceRange_one (clipAt n i) n
      rw [clipAt_cast] at this
      exact this
    | some j =>
      have := sliceRange_one (clipAt n i) (clipAt n j)
      rw [clipAt_cast, clipAt_cast] at this
      exact this
theorem slice_text (l : List Nat) (lo hi : Option Int) : Txt.slice ⟨l.toArray⟩ lo hi = ⟨(cutL l lo hi).toArray⟩ := by
  have hl : (⟨l.toArray⟩ : Str).length = l.length := by simp [Str.length]
  have key : ((Builtin.Str.strSliceIndices lo hi 1 l.length).filterMap (l.toArray[·]?)) = cutL l lo hi := by
    rw [idx_eq, pick_run]; rfl
  unfold Txt.slice
  rw [hl]
  split
  · rename_i hc
    have hlen : (Builtin.Str.strSliceIndices lo hi 1 l.length).length = l.length := by simpa using hc
    rw [idx_eq, List.length_map, List.length_range] at hlen
    have hcl : ∀ i : Int, clipAt l.length i ≤ l.length := by
      intro i
      have := clipAt_cast l.length i
      omega
    have hhi : hi.elim l.length (clipAt l.length) ≤ l.length := by
      cases hi with
      | none => exact Nat.le_refl _
      | some j => exact hcl j
    have e : cutL l lo hi = l := by
      unfold cutL
      rw [hlen]
      by_cases h0 : lo.elim 0 (clipAt l.length) = 0
      · rw [h0, List.drop_zero, List.take_length]
      · have hle : l.length = 0 := by omega
        have : l = [] := List.eq_nil_of_length_eq_zero hle
        subst this; simp
    rw [e]
  · rw [key]
theorem glued_go (c : Nat) : ∀ (ps : List (List Nat)) (acc : Array Nat), (ps.map fun l => (⟨l.toArray⟩ : Str)).foldl (fun (acc : Array Nat) (p : Str) => acc ++ (#[c] : Array Nat) ++ p.cps) acc = acc ++ (ps.flatMap fun p => c :: p).toArray
  | [], acc => by simp
  | p :: ps, acc => by
    rw [List.map_cons, List.foldl_cons, glued_go c ps]
    simp
theorem joinL_flatN (c : Nat) : ∀ (p : List Nat) (ps : List (List Nat)), joinL c (p :: ps) = p ++ ps.flatMap fun p => c :: p
  | p, [] => by simp [joinL]
  | p, q :: r => by
    show p ++ c :: joinL c (q :: r) = _
    rw [joinL_flatN c q r]; simp
theorem joinT (c : Nat) (ps : List (List Nat)) : Builtin.Str.glued ⟨#[c]⟩ (ps.map fun l => (⟨l.toArray⟩ : Str)) = ⟨(joinL c ps).toArray⟩ := by
  unfold Builtin.Str.glued
  cases ps with
  | nil => rfl
  | cons p ps =>
    show (⟨((ps.map fun l => (⟨l.toArray⟩ : Str)).foldl (fun (acc : Array Nat) (p : Str) => acc ++ (#[c] : Array Nat) ++ p.cps) p.toArray)⟩ : Str) = _
    rw [glued_go, joinL_flatN]
    simp
theorem joinL_inj_split {l : List Nat} {c : Nat} {ps : List (List Nat)} (hne : ps ≠ []) (hf : ∀ p ∈ ps, c ∉ p) (hj : joinL c ps = l) : ps = splitL c l := by
  rw [← hj, splitL_joinL hne hf]
theorem joinS_eq (c : Nat) : ∀ ss : List Str, (Str.join ⟨#[c]⟩ ss).cps.toList = joinL c (ss.map fun x => x.cps.toList)
  | [] => rfl
  | [x] => rfl
  | x :: y :: r => by
    show (x ++ ⟨#[c]⟩ ++ Str.join ⟨#[c]⟩ (y :: r)).cps.toList = _
    rw [Str.cps_append, Str.cps_append, Array.toList_append, Array.toList_append, joinS_eq c (y :: r)]
    simp [joinL]
theorem splitT (l : List Nat) (c : Nat) : Txt.split ⟨l.toArray⟩ ⟨#[c]⟩ = (splitL c l).map fun p => (⟨p.toArray⟩ : Str) := by
  have hj := StrLaws.join_split (⟨l.toArray⟩ : Str) ⟨#[c]⟩
  have hf := StrLaws.split_free (⟨l.toArray⟩ : Str) c
  generalize hs : Txt.split (⟨l.toArray⟩ : Str) ⟨#[c]⟩ = ss at hj hf
  have e : ss = (ss.map fun x => x.cps.toList).map fun p => (⟨p.toArray⟩ : Str) := by
    rw [List.map_map]
    conv => lhs; rw [← List.map_id ss]
    apply List.map_congr_left
    intro x _
    cases x; simp
  have hne : ss ≠ [] := by
    intro h0
    subst h0
    unfold Txt.split at hs
    split at hs
    · cases hs
    · split at hs
      · cases hs
      · unfold Builtin.Str.partsBetween at hs
        generalize Builtin.Str.occurrences _ _ _ _ _ = cuts at hs
        cases cuts <;> simp at hs
  have hj' := congrArg (fun x : Str => x.cps.toList) hj
  simp only [joinS_eq] at hj'
  have := joinL_inj_split (l := l) (c := c) (ps := ss.map fun x => x.cps.toList) (by simpa using hne) (fun p hp => by
    obtain ⟨x, hx, rfl⟩ := List.mem_map.mp hp
    exact hf x hx) hj'
  rw [e, this]
theorem vals_asT : ∀ (l : List (Str × Tok)), (strValues l).map asT = (l.map (·.1)).map fun x => some x.cps.toList
  | [] => rfl
  | p :: r => by
    show asT (.str p.1 p.2) :: (strValues r).map asT = _
    rw [vals_asT r]; rfl
theorem strsAre_of : ∀ {vs : List Value} {bs : List (List Nat)}, vs.map asT = bs.map some → StrsAre vs (bs.map fun p => (⟨p.toArray⟩ : Str))
  | [], [], _ => .nil
  | [], _ :: _, h => by cases h
  | _ :: _, [], h => by cases h
  | v :: vs, b :: bs, h => by
    rw [List.map_cons, List.map_cons, List.cons.injEq] at h
    obtain ⟨t, rfl⟩ := of_asT h.1
    exact .cons _ _ (strsAre_of h.2)
section
variable {w : World} {A : Around} {E : Value → Shared → Prop} {h : Heap} {g : Array GenState} {d : Drawn} {t : Nat} {os : OsState} {Q : Value → Shared → Prop} {a b : List Nat} {u v : Tok}
theorem lenT (l : List Nat) : (⟨l.toArray⟩ : Str).length = l.length := by simp [Str.length]
theorem split_done {l : List (Str × Tok)} {k : Nat} (hl : l.map (·.1) = Txt.split ⟨a.toArray⟩ ⟨#[47]⟩)
    (hq : ∀ D h' k vs n, Kp h h' → h.get? D = none → h'.get? D = some (lst vs n) → vs.map asT = (splitL 47 a).map some → Q (.ref D) ⟨h', g, d, k, os⟩) :
    Q (.ref h.objs.size) ⟨h.push (lst (strValues l)), g, d, k, os⟩ := by
  have e1 : (h.push (lst (strValues l))).get? h.objs.size = some (lst (strValues l)) := Heap.get?_push_size h (o := lst (strValues l)) rfl
  refine hq _ _ k (strValues l) 0 (Kp.push h _) (none_size h) e1 ?_
  rw [vals_asT, hl, splitT, List.map_map]
  apply List.map_congr_left
  intro p _; rfl
theorem split_t (hz : a.length < 1000000) (hq : ∀ D h' k vs n, Kp h h' → h.get? D = none → h'.get? D = some (lst vs n) → vs.map asT = (splitL 47 a).map some → Q (.ref D) ⟨h', g, d, k, os⟩) :
    wpAny (model PG w) A (call (.builtin "str.split") [.str ⟨a.toArray⟩ u, .str ⟨[47].toArray⟩ v]) Q E ⟨h, g, d, t, os⟩ := by
  show wpAny (model PG w) A (call (.builtin "str.split") [.str ⟨a.toArray⟩ u, .str ⟨#[47]⟩ v]) Q E ⟨h, g, d, t, os⟩
  generalize hx : (⟨a.toArray⟩ : Str) = x
  generalize hy : (⟨#[47]⟩ : Str) = y
  have hy0 : (y.length == 0) = false := by subst hy; rfl
  have hsx : x.length ≤ sizeLine := by subst hx; rw [lenT, sizeLine_eq]; exact sz6 hz
  have hdone : ∀ (l : List (Str × Tok)) (k : Nat), l.map (·.1) = Txt.split x y → Q (.ref h.objs.size) ⟨h.push (lst (strValues l)), g, d, k, os⟩ := by
    intro l k hl
    subst hx hy
    exact split_done hl hq
  cases h1 : (decide (x.length < y.length) || decide (Builtin.Str.strKind x < Builtin.Str.strKind y))
  · cases hf : (Builtin.Str.occurrences x y 0 x.length (x.length + 1)).isEmpty
    · have hsp : Txt.split x y = Builtin.Str.partsBetween x (Builtin.Str.occurrences x y 0 x.length (x.length + 1)) y.length := (if_neg (ne_true_of_eq_false h1)).trans (if_neg (ne_true_of_eq_false hf))
      have hsz2 : (Builtin.Str.partsBetween x (Builtin.Str.occurrences x y 0 x.length (x.length + 1)) y.length).length ≤ sizeLine := by
        rw [← hsp, ← hx, ← hy, splitT, List.length_map, sizeLine_eq]
        have := splitL_count 47 a
        omega
      refine call_meets (s := ⟨h, g, d, t, os⟩) F.slot_str_split (typeIs_str _ _ _) F.entry_str_split (F.args_str_split_2 _ _) (meets_str_split_sep x y u v h1 hy0 hf hsx hsz2) ?_
      have := hdone (numbered t (Builtin.Str.partsBetween x (Builtin.Str.occurrences x y 0 x.length (x.length + 1)) y.length)) (t + (Builtin.Str.partsBetween x (Builtin.Str.occurrences x y 0 x.length (x.length + 1)) y.length).length) ((numbered_texts _ _).trans hsp.symm)
      rw [← strsFrom_eq] at this
      exact this
    · exact call_meets (s := ⟨h, g, d, t, os⟩) F.slot_str_split (typeIs_str _ _ _) F.entry_str_split (F.args_str_split_2 _ _) (meets_str_split_not_found x y u v h1 hy0 hf)
        (hdone [(x, u)] t ((if_neg (ne_true_of_eq_false h1)).trans (if_pos hf)).symm)
  · exact call_meets (s := ⟨h, g, d, t, os⟩) F.slot_str_split (typeIs_str _ _ _) F.entry_str_split (F.args_str_split_2 _ _) (meets_str_split_cannot_occur x y u v h1)
      (hdone [(x, u)] t (if_pos h1).symm)
theorem cut_t {value slice : Expr} {l u : Value} {lo hi : Option Int} (hl : IsPart l lo) (hu : IsPart u hi) (hz : a.length < 1000000)
    (hq : ∀ h' t' k, Kp h h' → Q (.str ⟨(cutL a lo hi).toArray⟩ t') ⟨h', g, d, k, os⟩)
    (hs : subscripted slice false (.str ⟨a.toArray⟩ v) (.ref h.objs.size) = operate [.ref h.objs.size, .str ⟨a.toArray⟩ v] (getItem (.str ⟨a.toArray⟩ v) (.ref h.objs.size))) (ht : ∀ r, letTemporaryGo value (.str ⟨a.toArray⟩ v) r = pure ()) :
    wpAny (model PG w) A (subscriptTail value slice (.str ⟨a.toArray⟩ v) (.ref h.objs.size)) Q E ⟨h.push (slc l u .none), g, d, t, os⟩ := by
  have hk : KeptH (Kp h) := fun h' ob p => p.trans (Kp.push h' ob)
  have hz' : (⟨a.toArray⟩ : Str).length ≤ sizeLine := by rw [lenT, sizeLine_eq]; exact sz6 hz
  have hq' : ∀ h' t' k, Kp h h' → Q (.str (Txt.slice ⟨a.toArray⟩ lo hi) t') ⟨h', g, d, k, os⟩ := by
    rw [slice_text]; exact hq
  cases hl with
  | none =>
    cases hu with
    | none => exact tail_of_ItemOn (SBH.sliceItem_nn (s := ⟨h, g, d, t, os⟩) hk (Kp.refl h) hq' hz') hs ht
    | int j uj => exact tail_of_ItemOn (SBH.sliceItem_ns (s := ⟨h, g, d, t, os⟩) hk (Kp.refl h) hq' hz') hs ht
  | int i ui =>
    cases hu with
    | none => exact tail_of_ItemOn (SBH.sliceItem_sn (s := ⟨h, g, d, t, os⟩) hk (Kp.refl h) hq' hz') hs ht
    | int j uj => exact tail_of_ItemOn (SBH.sliceItem_ss (s := ⟨h, g, d, t, os⟩) hk (Kp.refl h) hq' hz') hs ht
theorem add_t (hz : a.length + b.length < 1000000) (hq : ∀ t' k, Q (.str ⟨(a ++ b).toArray⟩ t') ⟨h, g, d, k, os⟩) : wpAny (model PG w) A (binaryOp .Add (.str ⟨a.toArray⟩ u) (.str ⟨b.toArray⟩ v)) Q E ⟨h, g, d, t, os⟩ := by
  have e : (⟨a.toArray⟩ : Str) ++ ⟨b.toArray⟩ = ⟨(a ++ b).toArray⟩ := by
    apply Str.ext'
    rw [Str.cps_append]; simp
  refine add_str (s := ⟨h, g, d, t, os⟩) (fun t' k => ?_) ?_
  · rw [e]; exact hq t' k
  · rw [lenT, lenT, sizeLine_eq]; omega
theorem join_t {D : Addr} {vs : List Value} {n : Nat} {bs : List (List Nat)} (ho : h.get? D = some (lst vs n)) (hb : vs.map asT = bs.map some) (hz : (bs.map List.length).sum + bs.length < 1000000)
    (hq : ∀ t' k, Q (.str ⟨(joinL 47 bs).toArray⟩ t') ⟨h, g, d, k, os⟩) : wpAny (model PG w) A (call (.builtin "str.join") [.str ⟨[47].toArray⟩ u, .ref D]) Q E ⟨h, g, d, t, os⟩ := by
  refine join_list (s := ⟨h, g, d, t, os⟩) (D := D) (items := vs.toArray) (ys := bs.map fun p => (⟨p.toArray⟩ : Str)) ⟨_, ho, rfl, _, rfl⟩ (strsAre_of hb) ?_ fun t' k => ?_
  · have e : ((bs.map fun p => (⟨p.toArray⟩ : Str)).map (·.length)) = bs.map List.length := by
      rw [List.map_map]; apply List.map_congr_left; intro p _; exact lenT p
    rw [e, List.length_map, lenT]
    simp; omega
  · have := hq t' k
    rw [← joinT] at this
    exact this
end

set_option maxHeartbeats 2000000 in
/-- strs -/
def TKs : TK Nat where
  tx := fun l t => .str ⟨l.toArray⟩ t
  as := asT
  as_mk := asT_mk
  of_as := of_asT
  nref := fun _ _ _ e => nomatch e
  sl := 47
  dt := 46
  hdt := by decide
  idS := "str.split"
  idJ := "str.join"
  ne := by
    intro w A E s Q a b u v h
    refine ne_str ?_
    have : ((⟨a.toArray⟩ : Str) != ⟨b.toArray⟩) = decide (a ≠ b) := by
      by_cases e : a = b <;> simp [e]
    rw [this]; exact h
  eq := by
    intro w A E s Q a b u v h
    refine eq_str ?_
    have : ((⟨a.toArray⟩ : Str) == ⟨b.toArray⟩) = decide (a = b) := by
      by_cases e : a = b <;> simp [e]
    rw [this]; exact h
  tr := by
    intro w A E h g d t os Q a u hz hq
    refine P.truthy_str (s := ⟨h, g, d, t, os⟩) (by rw [lenT]; omega) ?_
    have : (((⟨a.toArray⟩ : Str).length : Int) != 0) = !a.isEmpty := by
      rw [lenT]
      cases a with
      | nil => rfl
      | cons x r => simp; omega
    rw [this]; exact hq _
  cut := by
    intro w A E h g d t os Q a v value slice l u lo hi hl hu hz hq hs ht
    exact cut_t hl hu hz hq hs ht
  mS := by
    intro w A E s a u pl Q h
    exact getMethod_builtin (typeIs_str _ _ _) F.plainAttrs_str F.slot_str_split F.type_str_split (fun _ e => nomatch e) h
  mJ := by
    intro w A E s a u pl Q h
    exact getMethod_builtin (typeIs_str _ _ _) F.plainAttrs_str F.slot_str_join F.type_str_join (fun _ e => nomatch e) h
  split := by
    intro w A E h g d t os Q a u v hz hq
    exact split_t hz hq
  join := by
    intro w A E h g d t os Q D vs n bs u ho hb hz hq
    exact join_t ho hb hz hq
  add := by
    intro w A E h g d t os Q a b u v hz hq
    exact add_t hz hq

theorem ext_kp {h h' : Heap} (e : Heap.ExtBut h.objs.size h h') : Kp h h' := fun b o q => e b o (Nat.ne_of_lt (Heap.lt_size q)) q
abbrev tup (vs : List Value) (n : Nat := 0) : Obj := { cls := .type "tuple", data := .seq vs.toArray n }

section
variable {h₀ h h' : Heap} {L : Addr} {K : List Str} {vs vs' : List (Option Value)} {news news' : List (Addr × Obj)}
theorem Wd.extBut {d : Addr} {o : Obj} (W : Wd h₀ L K vs ((d, o) :: news) h) (he : Heap.ExtBut d h h') : Wd h₀ L K vs news h' := by
  obtain ⟨m, F, hm⟩ := W.fr
  have z := W.nw (d, o) (.head _)
  have nd := List.nodup_cons.mp W.nd
  obtain ⟨oL, es, ep, hL, r⟩ := F.ns
  refine ⟨⟨m, ⟨⟨oL, es, ep, he _ _ (Ne.symm z.2.1) hL, r⟩, fun b x e => he b x (fun q => ?_) (F.keep b x e), F.above⟩, hm⟩, fun p hp => ?_, nd.2, W.kn⟩
  · have := z.2.2
    rw [q] at e
    have e' : h₀.get? d = some x := e
    have t' : h₀.get? d = none := this
    rw [t'] at e'; cases e'
  · have := W.nw p (.tail _ hp)
    refine ⟨he _ _ (fun q => nd.1 ?_) this.1, this.2⟩
    have := List.mem_map_of_mem (f := (·.1)) hp
    rw [q] at this; exact this
theorem Wd.same {d : Addr} {o o' : Obj} (W : Wd h₀ L K vs ((d, o) :: news) h) (hs : Heap.SameBut d h h') (ho : h'.get? d = some o') : Wd h₀ L K vs ((d, o') :: news) h' :=
  Wd.upd (pre := []) W hs ho
theorem Wd.lst (W : Wd h₀ L K vs news h) {l : Addr} {us : List Value} {n : Nat} (hm : (l, Mine.lst us n) ∈ news) : h.IsList l us.toArray := ⟨_, W.get hm, rfl, _, rfl⟩
theorem Wd.tup (W : Wd h₀ L K vs news h) {l : Addr} {us : List Value} {n : Nat} (hm : (l, Mine.tup us n) ∈ news) : IsTup h l us.toArray := ⟨_, W.get hm, rfl, _, rfl⟩
end

section
variable {w : World} {A : Around} {E : Value → Shared → Prop} {h₀ h : Heap} {g : Array GenState} {d : Drawn} {t : Nat} {os : OsState} {L a : Addr} {K : List Str} {vs : List (Option Value)} {news : List (Addr × Obj)}
theorem zUnpT {l : Addr} {n : Nat} {us : List Value} {Q : List Value → Shared → Prop} (hh : A.handled = none) (ht : IsTup h l us.toArray) (hn : n = us.length) (hq : ∀ h', Kp h h' → Q us ⟨h', g, d, t, os⟩) :
    wpAny (model PG w) A (unpackItems (.ref l) n none) Q E ⟨h, g, d, t, os⟩ := by
  have z := unpackItems_tuple (prog := PG) (w := w) (A := A) (E := E) (s := ⟨h, g, d, t, os⟩) (Q := Q) hh ht (fun h' e => hq h' (ext_kp e))
  rw [List.size_toArray] at z
  rw [hn]; exact z
theorem zUnpL {l : Addr} {n : Nat} {us : List Value} {Q : List Value → Shared → Prop} (hh : A.handled = none) (ht : h.IsList l us.toArray) (hn : n = us.length) (hq : ∀ h', Kp h h' → Q us ⟨h', g, d, t, os⟩) :
    wpAny (model PG w) A (unpackItems (.ref l) n none) Q E ⟨h, g, d, t, os⟩ := by
  have z := kun_itemsOf (prog := PG) (w := w) (A := A) (E := E) (s := ⟨h, g, d, t, os⟩) (Q := Q) hh ht (fun h' e => hq h' (ext_kp e))
  rw [List.size_toArray] at z
  rw [hn]; exact z
theorem zAsgT {l : Addr} {us : List Value} {elts : List Expr} {k : Nat} {pos : Pos} {env : Env} {Q : Unit → Shared → Prop} (hh : A.handled = none) (ht : IsTup h l us.toArray) (hn : (assignEach elts env).length = us.length)
    (hstar : (assignEach elts env).findIdx? (·.1) = none) (hq : ∀ h', Kp h h' → wpAny (model PG w) A (assignInOrder ((assignEach elts env).map (·.2)) us) Q E ⟨h', g, d, t, os⟩) :
    wpAny (model PG w) A (assign (.Tuple elts k pos) env (.ref l)) Q E ⟨h, g, d, t, os⟩ := by
  rw [assign_Tuple]
  refine wpAny_bind (wpAny_standAt ?_)
  unfold unpack
  rw [hstar]
  exact wpAny_bind (wpAny_holding (zUnpT hh ht hn hq))
theorem zAsgL {l : Addr} {us : List Value} {elts : List Expr} {k : Nat} {pos : Pos} {env : Env} {Q : Unit → Shared → Prop} (hh : A.handled = none) (ht : h.IsList l us.toArray) (hn : (assignEach elts env).length = us.length)
    (hstar : (assignEach elts env).findIdx? (·.1) = none) (hq : ∀ h', Kp h h' → wpAny (model PG w) A (assignInOrder ((assignEach elts env).map (·.2)) us) Q E ⟨h', g, d, t, os⟩) :
    wpAny (model PG w) A (assign (.Tuple elts k pos) env (.ref l)) Q E ⟨h, g, d, t, os⟩ := by
  rw [assign_Tuple]
  refine wpAny_bind (wpAny_standAt ?_)
  unfold unpack
  rw [hstar]
  exact wpAny_bind (wpAny_holding (zUnpL hh ht hn hq))
theorem zAio {M : Model} {s : Shared} {e : Expr} {es : List Expr} {x : Value} {xs : List Value} {env : Env} {Q : Unit → Shared → Prop} (hq : wpAny M A (assign e env x) (fun _ s' => wpAny M A (assignInOrder ((assignEach es env).map (·.2)) xs) Q E s') E s)
    (he : (assignEach (e :: es) env).map (·.2) = assign e env :: (assignEach es env).map (·.2)) : wpAny M A (assignInOrder ((assignEach (e :: es) env).map (·.2)) (x :: xs)) Q E s := by
  rw [he]
  exact wpAny_bind (wpAny_holding hq)
theorem zAio0 {M : Model} {s : Shared} {env : Env} {Q : Unit → Shared → Prop} (hq : Q () s) : wpAny M A (assignInOrder ((assignEach [] env).map (·.2)) []) Q E s := wpAny_pure hq
theorem zAsN {M : Model} {s : Shared} {x : Str} {pos : Pos} {v : Value} {env : Env} {Q : Unit → Shared → Prop} (hq : wpAny M A (storeName env x v) Q E s) : wpAny M A (assign (.Name x pos) env v) Q E s := PyProof.Rows.assign_Name hq

def SlEnd (l u v : Value) (Q : Value → Shared → Prop) (s : Shared) : Prop := Q (.ref s.heap.objs.size) { s with heap := s.heap.push (slc l u v) }
theorem zSlE {l u v : Value} {Q : Value → Shared → Prop} (hq : Q (.ref h.objs.size) ⟨h.push (slc l u v), g, d, t, os⟩) : SlEnd l u v Q ⟨h, g, d, t, os⟩ := hq
theorem zSl {lo hi st : Option Expr} {pos : Pos} {env : Env} {Q : Value → Shared → Prop}
    (hq : wpAny (model PG w) A (evalPart lo env) (fun l s₁ => wpAny (model PG w) A (evalPart hi env) (fun u s₂ => wpAny (model PG w) A (evalPart st env) (fun v s₃ => SlEnd l u v Q s₃) E s₂) E s₁) E ⟨h, g, d, t, os⟩) :
    wpAny (model PG w) A (eval (.Slice lo hi st pos) env) Q E ⟨h, g, d, t, os⟩ := wpAny_Slice hq

/-- a for over a list -/
theorem zForL (L : Addr) {x : Str} {px : Pos} {body : List Stmt} {env : Env} {Q : Flow → Shared → Prop} {l : Addr} {items : List Value} (I : Nat → List (Option Value) → List (Addr × Obj) → Prop)
    (hh : A.handled = none) (hL : env.locals = L) (hkx : env.kindOf x = some .local) (hkf : (env.scope.kind == .class || (env.scope.kind == .module && env.locals != env.globals)) = false)
    (hl : h.IsList l items.toArray) (W : Wd h₀ L K vs news h)
    (keep : ∀ i vs' news' h' d' o', I i vs' news' → Wd h₀ L K vs' ((d', o') :: news') h' → h'.IsList l items.toArray)
    (h0 : I 0 vs news)
    (step : ∀ i v vs₁ news₁ it ito, items[i]? = some v → I i vs₁ news₁ → ∃ vs₂, Put K vs₁ x v vs₂ ∧ ∀ h₁ t₁, Wd h₀ L K vs₂ ((it, ito) :: news₁) h₁ →
      wpAny (model PG w) A (execs body env) (fun f s' => match f with
        | .next | .cont => ∃ vs' news' h' t', s' = ⟨h', g, d, t', os⟩ ∧ Wd h₀ L K vs' ((it, ito) :: news') h' ∧ I (i + 1) vs' news'
        | .brk => Q .next s'
        | .ret v => Q (.ret v) s') (fun _ _ => False) ⟨h₁, g, d, t₁, os⟩)
    (done : ∀ vs' news' h' t', Wd h₀ L K vs' news' h' → I items.length vs' news' → Q .next ⟨h', g, d, t', os⟩) :
    wpAny (model PG w) A (pyIter (.ref l)) (fun it s₂ => codeAny (model PG w) A (.forLoop (.Name x px) it body [] env) (fun r s' => match r with | .ok f => Q f s' | .error e => cameBackBy (model PG w) A env E e s') s₂) E ⟨h, g, d, t, os⟩ := by
  refine wpAny_pyIter_list hl ?_
  have W₁ : Wd h₀ L K vs ((h.objs.size, { cls := .type "list_iterator", data := .fields #[.ref l, .int 0 0] }) :: news) (h.push { cls := .type "list_iterator", data := .fields #[.ref l, .int 0 0] }) := W.push _ rfl
  refine codeAny_forLoop (fun n s => ∃ i vs' news' ito h' t', n + i = items.length ∧ s = ⟨h', g, d, t', os⟩ ∧ Wd h₀ L K vs' ((h.objs.size, ito) :: news') h' ∧ ito.cls = .type "list_iterator" ∧ ito.data = .fields #[.ref l, .int i 0] ∧ I i vs' news') ?_ items.length ⟨0, vs, news, _, _, t, by omega, rfl, W₁, rfl, rfl, h0⟩
  rintro n s ⟨i, vs', news', ito, h', t', hn, rfl, W', hc, hd, hI⟩
  have hit : h'.IsListIter h.objs.size l i := ⟨ito, W'.get (.head _), hc, hd⟩
  have hl' : h'.IsList l items.toArray := keep i vs' news' h' _ _ hI W'
  cases hx : items[i]? with
  | none =>
    refine wpAny_pyNext_list_end (s := ⟨h', g, d, t', os⟩) hh hit hl' (by simpa using hx) fun h'' he => ?_
    dsimp only
    refine wpAny_execs_nil ?_
    have hi : items.length ≤ i := by simpa using hx
    have : i = items.length := by omega
    subst this
    exact done _ _ _ _ (W'.extBut he) hI
  | some v =>
    refine wpAny_pyNext_list_item (s := ⟨h', g, d, t', os⟩) hit hl' (by simpa using hx) fun h'' hit'' hs => ?_
    obtain ⟨ito'', ho'', hc'', hd''⟩ := hit''
    have W'' := W'.same hs ho''
    dsimp only
    obtain ⟨vs₂, hp, hstep⟩ := step i v vs' news' h.objs.size ito'' hx hI
    refine zAsN ?_
    obtain ⟨m, F, hm⟩ := W''.fr
    subst hL
    refine wpAny_storeName_local hkx F.ns (fun h₃ hn₃ hs₃ => ?_) hkf
    have W₃ : Wd h₀ env.locals K vs₂ ((h.objs.size, ito'') :: news') h₃ := ⟨⟨_, F.set hn₃ hs₃, fun y u l => by
      rcases hp.back W''.kn l with ⟨rfl, rfl⟩ | ⟨hne, l'⟩
      · exact if_pos rfl
      · show (if y = x then some v else m y) = some u
        rw [if_neg hne]; exact hm y u l'⟩, W''.nw.set hs₃, W''.nd, W''.kn⟩
    refine wpAny_mono (hstep h₃ _ W₃) (fun f s' hf => ?_) fun _ _ e => e.elim
    have hlt : i < items.length := by
      have := List.getElem?_eq_some_iff.mp hx
      exact this.1
    cases f with
    | next =>
      obtain ⟨v4, n4, h4, t4, rfl, W4, I4⟩ := hf
      exact ⟨n - 1, by omega, i + 1, v4, n4, ito'', h4, t4, by omega, rfl, W4, hc'', hd'', I4⟩
    | cont =>
      obtain ⟨v4, n4, h4, t4, rfl, W4, I4⟩ := hf
      exact ⟨n - 1, by omega, i + 1, v4, n4, ito'', h4, t4, by omega, rfl, W4, hc'', hd'', I4⟩
    | brk => exact hf
    | ret v => exact hf
end

section
variable {w : World} {A : Around} {E : Value → Shared → Prop} {h : Heap} {g : Array GenState} {d : Drawn} {t : Nat} {os : OsState} {Q : Value → Shared → Prop} {D : Addr} {us : List Value} {n : Nat} {x y : Value}
theorem zAppend (ho : h.get? D = some (lst us n)) (hz : us.length ≤ 16777216) (hq : ∀ h', Heap.SameBut D h h' → h'.get? D = some (lst (us ++ [x]) (n + 1)) → Q .none ⟨h', g, d, t, os⟩) :
    wpAny (model PG w) A (call (.builtin "list.append") [.ref D, x]) Q E ⟨h, g, d, t, os⟩ := by
  refine append_at (s := ⟨h, g, d, t, os⟩) (hsz := by rw [List.size_toArray, sizeLine_eq]; exact hz) ho fun h' hs ho' => hq h' hs ?_
  rw [List.push_toArray] at ho'
  exact ho'
theorem zPop (ho : h.get? D = some (lst (us ++ [y]) n)) (hz : us.length + 1 ≤ 16777216) (hq : ∀ h', Heap.SameBut D h h' → h'.get? D = some (lst us (n + 1)) → Q y ⟨h', g, d, t, os⟩) :
    wpAny (model PG w) A (call (.builtin "list.pop") [.ref D]) Q E ⟨h, g, d, t, os⟩ := by
  have hk : (us ++ [y]).toArray.size - 1 = us.length := by rw [List.size_toArray, List.length_append]; rfl
  have hy : (us ++ [y]).toArray[(us ++ [y]).toArray.size - 1]? = some y := by rw [hk]; simp
  refine call_meets (s := ⟨h, g, d, t, os⟩) PySem.F.slot_list_pop ⟨_, ho, rfl⟩ PySem.F.entry_list_pop (PySem.F.args_list_pop_1 _) (PySem.MeetsSeq.list_pop_last D _ n y hy ?_) ⟨ho, hq _ (Heap.SameBut.update ..) ?_⟩
  · rw [List.size_toArray, List.length_append, sizeLine_eq]; exact hz
  · have q := PySem.IsL.update ho (fun xs => xs.eraseIdxIfInBounds ((us ++ [y]).toArray.size - 1))
    have he : (us ++ [y]).toArray.eraseIdxIfInBounds ((us ++ [y]).toArray.size - 1) = us.toArray := by
      rw [hk, kl_erase, List.append_nil]
    rw [he, if_neg (by simp)] at q
    exact q
theorem zMeth {name : Str} {id : String} {pl : Sem Bool} {o : Obj} {Q : Value × List Value → Shared → Prop} (ho : h.get? D = some o) (hc : o.cls = .type "list") (hd : o.dict = none) (slot : Slot "list" name id) (hty : typeOf (.builtin id) = pure (.type "method_descriptor"))
    (hq : Q (.builtin id, [.ref D]) ⟨h, g, d, t, os⟩) : wpAny (model PG w) A (getMethod (.ref D) name pl) Q E ⟨h, g, d, t, os⟩ :=
  getMethod_builtin (s := ⟨h, g, d, t, os⟩) ⟨_, ho, hc⟩ PySem.F.plainAttrs_list slot hty (fun a e => by cases e; exact ⟨_, ho, hd⟩) hq
theorem zTrL {Q : Bool → Shared → Prop} (hl : h.IsList D us.toArray) (hz : us.length ≤ 16777216) (hq : ∀ t', Q (!us.isEmpty) ⟨h, g, d, t', os⟩) : wpAny (model PG w) A (truthy (.ref D)) Q E ⟨h, g, d, t, os⟩ := by
  refine wpAny_truthy_list (s := ⟨h, g, d, t, os⟩) hl (by rw [List.size_toArray]; omega) ?_
  have := hq (t + 1 + 1)
  simpa using this
theorem zItem {value slice : Expr} {i : Int} {u : Tok} (hl : h.IsList D us.toArray) (h0 : 0 ≤ i) (hz : i < 2 ^ 63) (hx : us[i.toNat]? = some x) (hq : Q x ⟨h, g, d, t, os⟩)
    (hs : subscripted slice false (.ref D) (.int i u) = operate [.ref D, .int i u] (getItem (.ref D) (.int i u))) : wpAny (model PG w) A (subscriptTail value slice (.ref D) (.int i u)) Q E ⟨h, g, d, t, os⟩ :=
  tail_any (s := ⟨h, g, d, t, os⟩) hl.typeIs slot_list_getitem.lookup (wpAny_getItem_list (s := ⟨h, g, d, t, os⟩) hl h0 hz (by simpa using hx) hq) hs
theorem zItemLast {value slice : Expr} {u : Tok} (hl : h.IsList D (us ++ [x]).toArray) (hq : Q x ⟨h, g, d, t, os⟩)
    (hs : subscripted slice false (.ref D) (.int (-1) u) = operate [.ref D, .int (-1) u] (getItem (.ref D) (.int (-1) u))) : wpAny (model PG w) A (subscriptTail value slice (.ref D) (.int (-1) u)) Q E ⟨h, g, d, t, os⟩ :=
  tail_any (s := ⟨h, g, d, t, os⟩) hl.typeIs slot_list_getitem.lookup (wpAny_getItem_list_neg (s := ⟨h, g, d, t, os⟩) hl (by omega) (by rw [List.size_toArray, List.length_append]; simp; omega) (by omega) (by
    have e : ((-1 : Int) + ((us ++ [x]).toArray.size : Nat)).toNat = us.length := by rw [List.size_toArray, List.length_append]; simp; omega
    rw [e]; simp) hq) hs
end
section
theorem cut_hi {α : Type} (a : List α) (k : Nat) : cutL a none (some (k : Int)) = a.take k := by
  unfold cutL
  rw [Option.elim, Option.elim, clipAt_nat, Nat.sub_zero, List.drop_zero]
  rcases Nat.le_total k a.length with h | h
  · rw [Nat.min_eq_left h]
  · rw [Nat.min_eq_right h, List.take_length, List.take_of_length_le h]
theorem cut_mid {α : Type} (a : List α) (j k : Nat) (hjk : j ≤ k) : cutL a (some (j : Int)) (some (k : Int)) = (a.drop j).take (k - j) := by
  unfold cutL
  rw [Option.elim, Option.elim, clipAt_nat, clipAt_nat]
  rcases Nat.le_total j a.length with h | h
  · rw [Nat.min_eq_left h]
    rcases Nat.le_total k a.length with h' | h'
    · rw [Nat.min_eq_left h']
    · rw [Nat.min_eq_right h', List.take_of_length_le (by simp), List.take_of_length_le (by simp; omega)]
  · rw [Nat.min_eq_right h, List.drop_of_length_le h, List.drop_of_length_le (Nat.le_refl _)]; simp
theorem cut_lo {α : Type} (a : List α) (j : Nat) : cutL a (some (j : Int)) none = a.drop j := by
  unfold cutL
  rw [Option.elim, Option.elim, clipAt_nat]
  rcases Nat.le_total j a.length with h | h
  · rw [Nat.min_eq_left h, List.take_of_length_le (by simp)]
  · rw [Nat.min_eq_right h, List.drop_of_length_le h, List.drop_of_length_le (Nat.le_refl _)]; simp
end

theorem kf_fspath (w : World) : keepIn (KF w) (.ref 94) = true := by kernel_rfl!
theorem kf_splitroot (w : World) : keepIn (KF w) (.ref 101) = true := by kernel_rfl!
theorem kf_normpath (w : World) : keepIn (KF w) (.ref 108) = true := by kernel_rfl!
theorem kf_sld (w : World) : keepIn (KF w) (.ref 115) = true := by kernel_rfl!
theorem kf_byteswap (w : World) : keepIn (KF w) (.ref 122) = true := by kernel_rfl!
theorem kf_straight (w : World) : keepIn (KF w) (.ref 129) = true := by kernel_rfl!
theorem kf_heights (w : World) : keepIn (KF w) (.ref 136) = true := by kernel_rfl!
theorem kf_left (w : World) : keepIn (KF w) (.ref 141) = true := by kernel_rfl!
theorem kf_only (w : World) : keepIn (KF w) (.ref 146) = true := by kernel_rfl!
theorem kf_apart (w : World) : keepIn (KF w) (.ref 153) = true := by kernel_rfl!
theorem zIn {w : World} {mg mb : Str → Option Value} {h₀ h : Heap} {L : Addr} {K : List Str} {vs : List (Option Value)} {news : List (Addr × Obj)} (W : Wd h₀ L K vs news h) (tp : Tp w mg mb h₀) : (KF w).In h := (tp.keeps W.keep).X
theorem zCw {w : World} {M : Model} {A : Around} {E : Value → Shared → Prop} {s : Shared} {env : Env} {pos : Pos} {f : Addr} {e : Expr} {rest : List Expr} {Q : Value → Shared → Prop} {h₀ h : Heap} {L : Addr} {K : List Str} {vs : List (Option Value)} {news : List (Addr × Obj)} {mg mb : Str → Option Value}
    (W : Wd h₀ L K vs news h) (tp : Tp w mg mb h₀) (hk : keepIn (KF w) (.ref f) = true)
    (hq : wpAny M A (spliced (backTo pos (starEach (e :: rest) env))) (fun vs s₁ => (KF w).In s₁.heap ∧ wpAny M A (call (.ref f) vs) Q E s₁) E s)
    (he : starEach (e :: rest) env = (false, eval e env) :: starEach rest env) (hplain : (backTo pos (starEach rest env)).any (·.1) = false) :
    wpAny M A (callWith pos (.ref f) [] (backTo pos (starEach (e :: rest) env)) []) Q E s := callWith_K (h₀ := h) (zIn W tp) hk hq he hplain
theorem wp_execs_app {M : Model} {Γ : Ctx} {env : Env} {E : Value → Pos → Shared → Prop} {l₂ : List Stmt} {Q : Flow → Pos → Shared → Prop} : ∀ (l₁ : List Stmt) (p : Pos) (s : Shared),
    Sem.wp M Γ (execs l₁ env) (fun f p' s' => match f with | .next => Sem.wp M Γ (execs l₂ env) Q E p' s' | f => Q f p' s') E p s → Sem.wp M Γ (execs (l₁ ++ l₂) env) Q E p s
  | [], p, s, h => h
  | st :: r, p, s, h => by
    rw [execs_cons, Sem.wp_bind'] at h
    rw [List.cons_append, execs_cons, Sem.wp_bind']
    refine Sem.wp_mono M Γ _ (fun f p' s' hf => ?_) (fun _ _ _ x => x) p s h
    cases f with
    | next => exact wp_execs_app r p' s' hf
    | brk => exact hf
    | cont => exact hf
    | ret v => exact hf
theorem execs_app {M : Model} {A : Around} {E : Value → Shared → Prop} {env : Env} {l₁ l₂ : List Stmt} {Q : Flow → Shared → Prop} {s : Shared} (h : wpAny M A (execs l₁ env) (fun f s' => match f with | .next => wpAny M A (execs l₂ env) Q E s' | f => Q f s') E s) : wpAny M A (execs (l₁ ++ l₂) env) Q E s := fun Γ p hΓ => by
  refine wp_execs_app l₁ p s (Sem.wp_mono M Γ _ (fun f p' s' hf => ?_) (fun _ _ _ x => x) p s (h Γ p hΓ))
  cases f with
  | next => exact hf Γ p' hΓ
  | brk => exact hf
  | cont => exact hf
  | ret v => exact hf
theorem execs_at {M : Model} {A : Around} {E : Value → Shared → Prop} {env : Env} (n : Nat) {l : List Stmt} {Q : Flow → Shared → Prop} {s : Shared} (h : wpAny M A (execs (l.take n) env) (fun f s' => match f with | .next => wpAny M A (execs (l.drop n) env) Q E s' | f => Q f s') E s) : wpAny M A (execs l env) Q E s := by
  have := execs_app h
  rwa [List.take_append_drop] at this
theorem zCBool {M : Model} {A : Around} {E : Value → Shared → Prop} {s : Shared} {env : Env} {b : Bool} {k : Nat} {pos : Pos} {Q : Value → Shared → Prop} (hq : Q (.bool b) s) : wpAny M A (eval (.Constant (.bool b) k pos) env) Q E s := fun _ _ _ => hq
theorem zNeg {w : World} {A : Around} {E : Value → Shared → Prop} {h : Heap} {g : Array GenState} {d : Drawn} {t : Nat} {os : OsState} {i : Int} {u : Tok} {Q : Value → Shared → Prop} (hq : ∀ u' t', Q (.int (-i) u') ⟨h, g, d, t', os⟩) :
    wpAny (model PG w) A (unaryOp .USub (.int i u)) Q E ⟨h, g, d, t, os⟩ := neg_int (s := ⟨h, g, d, t, os⟩) (hq _ _)
theorem zExpr {M : Model} {A : Around} {E : Value → Shared → Prop} {s : Shared} {env : Env} {e : Expr} {pos : Pos} {Q : Flow → Shared → Prop} (hq : wpAny M A (eval e env) (fun v s' => (∀ a, v ≠ .ref a) ∧ Q .next s') E s)
    (hi : interactive env = false) (hs : swapsWith e none pos.line env = pure false) : wpAny M A (exec (.Expr e pos) env) Q E s := by
  refine wpAny_Expr (wpAny_mono hq (fun v s' hv => ?_) fun _ _ x => x) hi hs
  cases v with
  | ref a => exact absurd rfl (hv.1 a)
  | _ => exact hv.2
theorem nrNone : ∀ a, Value.none ≠ .ref a := fun _ e => nomatch e
--MACRO
local macro_rules | `(tactic| none_booked) => `(tactic| first
  | ((with_reducible show wpAny _ _ (eval _ _) _ _ _); first
    | ((with_reducible show wpAny _ _ (eval (PySem.Expr.Name _ _) _) _ _ _); first
      | with_reducible refine zLd (by assumption) (by repeat (with_reducible first | apply Loc.head | apply Loc.tail)) ?_ (by kernel_rfl!) (by kernel_rfl!) (by decide +kernel)
      | with_reducible refine zB (by assumption) (by assumption) (by with_reducible first | apply b_len | apply b_type | apply b_issubclass | apply b_isinstance | apply b_str | apply b_bytes | apply b_range | apply b_bytearray | apply b_sorted | apply b_max | apply b_enumerate | apply b_sum | apply b_list | apply b_IndexError) ?_ (by kernel_rfl!) (by kernel_rfl!)
      | with_reducible refine zG (by assumption) (by assumption) (by with_reducible first | apply g_fspath | apply g_splitroot | apply g_normpath | apply g_sorted_list_difference | apply g_byteswap | apply g_law_straight | apply g_law_heights | apply g_law_left | apply g_law_only | apply g_law_apart) ?_ (by kernel_rfl!) (by kernel_rfl!))
    | ((with_reducible show wpAny _ _ (eval (PySem.Expr.Constant _ _ _) _) _ _ _); first
      | (with_reducible refine zInt ?_; intro _ _)
      | (with_reducible refine zByt ?_; intro _ _)
      | (with_reducible refine zStr ?_; intro _ _)
      | with_reducible refine zCBool ?_)
    | ((with_reducible show wpAny _ _ (eval (PySem.Expr.Call _ _ _ _) _) _ _ _); first
      | ((with_reducible show wpAny _ _ (eval (PySem.Expr.Call (PySem.Expr.Name _ _) _ [] _) _) _ _ _); refine Call_ ?_ (by kernel_rfl!))
      | ((with_reducible show wpAny _ _ (eval (PySem.Expr.Call (PySem.Expr.Attribute _ _ _) _ [] _) _) _ _ _); refine MethodCall_ ?_))
    | with_reducible refine Tuple_ ?_
    | with_reducible refine List_ ?_
    | with_reducible refine Subscript_ ?_
    | with_reducible refine zSl ?_
    | with_reducible refine wpAny_Compare1 ?_ (by kernel_rfl!)
    | with_reducible refine IfExp_ ?_
    | with_reducible refine wpAny_BinOp ?_
    | with_reducible refine BoolOp_one ?_
    | with_reducible refine BoolOp_or ?_
    | with_reducible refine BoolOp_and ?_
    | with_reducible refine wpAny_UnaryOp ?_)
  | ((with_reducible show wpAny _ _ (exec _ _) _ _ _); first
    | with_reducible refine wpAny_Assign_Name ?_ (by kernel_rfl!)
    | with_reducible refine wpAny_If ?_
    | with_reducible refine Assign_Tuple ?_ (by kernel_rfl!) (by kernel_rfl!)
    | with_reducible refine wpAny_Return_some ?_
    | with_reducible refine wpAny_Continue ?_
    | with_reducible refine zExpr ?_ (by kernel_rfl!) (by kernel_rfl!))
  | ((with_reducible show wpAny _ _ (execs _ _) _ _ _); first
    | with_reducible refine wpAny_execs_cons ?_
    | with_reducible refine wpAny_execs_nil ?_)
  | ((with_reducible show wpAny _ _ (spliced _) _ _ _); first
    | with_reducible refine spliced_none ?_
    | with_reducible refine spliced_more ?_ (by kernel_rfl!))
  | ((with_reducible show wpAny _ _ (callWith _ _ _ _ _) _ _ _); first
    | (with_reducible refine zCw (by assumption) (by assumption) (by with_reducible first | apply kf_fspath | apply kf_splitroot | apply kf_normpath | apply kf_sld | apply kf_byteswap | apply kf_straight | apply kf_heights | apply kf_left | apply kf_only | apply kf_apart) ?_ (by kernel_rfl!) (by kernel_rfl!))
    | with_reducible refine Pv.callWith_type1 ?_ (by kernel_rfl!) (by kernel_rfl!)
    | with_reducible refine PyProof.Rows.callWith_builtin1 ?_ (by kernel_rfl!) (by kernel_rfl!)
    | with_reducible refine callWith_method1 ?_ (by kernel_rfl!) (by kernel_rfl!)
    | with_reducible refine callWith_method0 ?_)
  | ((with_reducible show wpAny _ _ (PySem.isTrue _ _ _) _ _ _); first
    | with_reducible refine wpAny_isTrue_Compare1 ?_ (by kernel_rfl!)
    | with_reducible refine isTrue_not ?_
    | with_reducible refine isTrue_or_nil ?_
    | with_reducible refine isTrue_or ?_
    | with_reducible refine isTrue_and_nil ?_
    | with_reducible refine isTrue_and ?_
    | with_reducible refine isTrue_plain ?_ (by kernel_rfl!))
  | ((with_reducible show wpAny _ _ _ _ _ _); first
    | (with_reducible refine zSt (by assumption) (by repeat (with_reducible first | apply Put.head | apply Put.tail)) ?_ (by kernel_rfl!) (by kernel_rfl!); intro _ _ _)
    | (with_reducible refine zNew (by assumption) (Nat.le_of_ble_eq_true (by kernel_rfl!)) ?_; intro _ _ _)
    | (with_reducible refine zNewL (by assumption) (Nat.le_of_ble_eq_true (by kernel_rfl!)) ?_; intro _ _ _)
    | with_reducible refine truthyB ?_
    | (with_reducible refine zNeg ?_; intro _ _)
    | with_reducible refine evalPart_none_step ?_
    | with_reducible refine evalPart_some_step ?_
    | with_reducible refine zAio ?_ (by kernel_rfl!)
    | with_reducible refine zAio0 ?_
    | with_reducible refine zAsN ?_)
  | with_reducible refine iteT ?_
  | with_reducible refine iteF ?_
  | with_reducible refine zSlE ?_
  | (with_reducible refine And.intro (zIn (by assumption) (by assumption)) ?_)
  | (with_reducible refine And.intro nrNone ?_)
  )
--END


section
variable {w : World} {mg mb : Str → Option Value} {A : Around} {E : Value → Shared → Prop} {Q : Value → Shared → Prop} {h : Heap} {g : Array GenState} {d : Drawn} {t : Nat} {os : OsState} {b : Array UInt8} {u : Tok}
theorem fspath_bytes (tp : Tp w mg mb h) (hr : A.depth < recursionLimit) (hq : ∀ h' t', Kp h h' → Q (.bytes b u) ⟨h', g, d, t', os⟩) :
    wpAny (model PG w) A (call (.ref 94) [.bytes b u]) Q E ⟨h, g, d, t, os⟩ := by
  refine zCall ["path", "kind"] [some (.bytes b u), none] [("path", .bytes b u)] tp hr (by kernel_rfl!) (by kernel_rfl!) (by kernel_rfl!) (by kernel_rfl!) (by kernel_rfl!) (by decide +kernel) (by kernel_rfl!) (by kernel_rfl!) (fun _ => by kernel_rfl!) (by kernel_rfl!) (by kernel_rfl!) (by kernel_rfl!) ?_
  intro L h₁ t₁ W
  conv => arg 3; arg 1; whnf
  repeat none_booked
  refine call_type_of rfl (by decide +kernel) ?_
  repeat none_booked
  rename_i W
  refine issub_bytes (W.get (by repeat (with_reducible first | apply List.mem_cons_self | apply List.mem_cons_of_mem))) rfl ⟨_, rfl⟩ ?_
  repeat none_booked
  exact hq _ _ W.keep
theorem fspath_str {b : Str} (tp : Tp w mg mb h) (hr : A.depth < recursionLimit) (hq : ∀ h' t', Kp h h' → Q (.str b u) ⟨h', g, d, t', os⟩) :
    wpAny (model PG w) A (call (.ref 94) [.str b u]) Q E ⟨h, g, d, t, os⟩ := by
  refine zCall ["path", "kind"] [some (.str b u), none] [("path", .str b u)] tp hr (by kernel_rfl!) (by kernel_rfl!) (by kernel_rfl!) (by kernel_rfl!) (by kernel_rfl!) (by decide +kernel) (by kernel_rfl!) (by kernel_rfl!) (fun _ => by kernel_rfl!) (by kernel_rfl!) (by kernel_rfl!) (by kernel_rfl!) ?_
  intro L h₁ t₁ W
  conv => arg 3; arg 1; whnf
  repeat none_booked
  refine call_type_of rfl (by decide +kernel) ?_
  repeat none_booked
  rename_i W
  refine issub_str (W.get (by repeat (with_reducible first | apply List.mem_cons_self | apply List.mem_cons_of_mem))) rfl ⟨_, rfl⟩ ?_
  repeat none_booked
  exact hq _ _ W.keep
end
section
variable {w : World} {mg mb : Str → Option Value} {A : Around} {E : Value → Shared → Prop} {Q : Value → Shared → Prop} {h₀ h : Heap} {g : Array GenState} {d : Drawn} {t : Nat} {os : OsState} {u : Tok} {L : Addr}
theorem splitroot_tail {α : Type} [DecidableEq α] (T : TK α) {a : List α} {x y : Tok} {news : List (Addr × Obj)} {stmts : List Stmt} (hst : stmts = (bodyOf (fdOf w 101)).drop 2)
    (W : Wd h₀ L ["p", "sep", "empty"] [some (T.tx a u), some (T.tx [T.sl] x), some (T.tx [] y)] news h) (hz : a.length < 1000000) (hns : a.take 1 = [T.sl] → (a.drop 1).take 1 ≠ [T.sl])
    (hq : ∀ l h' k i r u₁ u₂ u₃, Kp h₀ h' → h₀.get? l = none → h'.get? l = some (tup [T.tx [] u₁, T.tx i u₂, T.tx r u₃]) →
      ((a.take 1 ≠ [T.sl] ∧ i = [] ∧ r = a) ∨ (a.take 1 = [T.sl] ∧ i = [T.sl] ∧ r = a.drop 1)) → Q (.ref l) ⟨h', g, d, k, os⟩) :
    wpAny (model PG w) A (execs stmts (fe w 101 L)) (fun f s' => Q (match f with | .ret v => v | _ => .none) s') (fun _ _ => False) ⟨h, g, d, t, os⟩ := by
  subst hst
  conv => arg 3; arg 1; whnf
  repeat none_booked
  refine T.cut .none (.int _ _) hz ?_ rfl (fun _ => rfl)
  intro h1 u1 t1 k1
  replace W := W.kp k1
  rw [show cutL a none (some 1) = a.take 1 from cut_hi a 1]
  repeat none_booked
  refine T.ne ?_
  repeat none_booked
  by_cases hc : a.take 1 = [T.sl]
  · rw [decide_eq_false (by simpa using hc)]
    repeat none_booked
    refine T.cut (.int _ _) (.int _ _) hz ?_ rfl (fun _ => rfl)
    intro h2 u2 t2 k2
    replace W := W.kp k2
    rw [show cutL a (some 1) (some 2) = (a.drop 1).take 1 from cut_mid a 1 2 (by omega)]
    repeat none_booked
    refine T.ne ?_
    rw [decide_eq_true (hns hc)]
    repeat none_booked
    refine T.cut (.int _ _) .none hz ?_ rfl (fun _ => rfl)
    intro h3 u3 t3 k3
    replace W := W.kp k3
    rw [show cutL a (some 1) none = a.drop 1 from cut_lo a 1]
    repeat none_booked
    rename_i W'
    exact hq _ _ _ _ _ _ _ _ W'.keep (W'.nw _ (.head _)).2.2 (W'.get (.head _)) (.inr ⟨hc, rfl, rfl⟩)
  · rw [decide_eq_true hc]
    repeat none_booked
    rename_i W'
    exact hq _ _ _ _ _ _ _ _ W'.keep (W'.nw _ (.head _)).2.2 (W'.get (.head _)) (.inl ⟨hc, rfl, rfl⟩)
end
section
variable {w : World} {mg mb : Str → Option Value} {A : Around} {E : Value → Shared → Prop} {Q : Value → Shared → Prop} {h₀ h : Heap} {g : Array GenState} {d : Drawn} {t : Nat} {os : OsState} {u : Tok} {L : Addr}
theorem isi_bytes {b : Array UInt8} (hq : Q (.bool true) ⟨h, g, d, t, os⟩) : wpAny (model PG w) A (call (.builtin "isinstance") [.bytes b u, .type "bytes"]) Q E ⟨h, g, d, t, os⟩ :=
  call_isinstance (isinstance_true (Tx := "bytes") ty_bytes sub_bb) ⟨rfl, hq⟩
theorem isi_str {b : Str} (hq : ∀ t', Q (.bool false) ⟨h, g, d, t', os⟩) : wpAny (model PG w) A (call (.builtin "isinstance") [.str b u, .type "bytes"]) Q E ⟨h, g, d, t, os⟩ :=
  call_isinstance (isinstance_false_str (by decide) ty_bytes sub_sb) (hq _)
theorem splitroot_b {a : List UInt8} (tp : Tp w mg mb h) (hr : A.depth + 2 < recursionLimit) (hz : a.length < 1000000) (hns : a.take 1 = [47] → (a.drop 1).take 1 ≠ [47])
    (hq : ∀ l h' k i r u₁ u₂ u₃, Kp h h' → h.get? l = none → h'.get? l = some (tup [TKb.tx [] u₁, TKb.tx i u₂, TKb.tx r u₃]) →
      ((a.take 1 ≠ [47] ∧ i = [] ∧ r = a) ∨ (a.take 1 = [47] ∧ i = [47] ∧ r = a.drop 1)) → Q (.ref l) ⟨h', g, d, k, os⟩) :
    wpAny (model PG w) A (call (.ref 101) [TKb.tx a u]) Q E ⟨h, g, d, t, os⟩ := by
  refine zCall ["p", "sep", "empty"] [some (TKb.tx a u), none, none] [("p", TKb.tx a u)] tp (by omega) (by kernel_rfl!) (by kernel_rfl!) (by kernel_rfl!) (by kernel_rfl!) (by kernel_rfl!) (by decide +kernel) (by kernel_rfl!) (by kernel_rfl!) (fun _ => by kernel_rfl!) (by kernel_rfl!) (by kernel_rfl!) (by kernel_rfl!) ?_
  intro L h₁ t₁ W
  refine execs_at 2 ?_
  conv => arg 3; arg 1; arg 2; whnf
  dsimp only [List.take_succ_cons, List.take_zero]
  repeat none_booked
  refine fspath_bytes (tp.keeps W.keep) (by show A.depth + 1 < _; omega) fun h2 t2 k2 => ?_
  replace W := W.kp k2
  repeat none_booked
  refine isi_bytes ?_
  repeat none_booked
  rename_i W'
  exact splitroot_tail TKb rfl W' hz hns hq
theorem splitroot_s {a : List Nat} (tp : Tp w mg mb h) (hr : A.depth + 2 < recursionLimit) (hz : a.length < 1000000) (hns : a.take 1 = [47] → (a.drop 1).take 1 ≠ [47])
    (hq : ∀ l h' k i r u₁ u₂ u₃, Kp h h' → h.get? l = none → h'.get? l = some (tup [TKs.tx [] u₁, TKs.tx i u₂, TKs.tx r u₃]) →
      ((a.take 1 ≠ [47] ∧ i = [] ∧ r = a) ∨ (a.take 1 = [47] ∧ i = [47] ∧ r = a.drop 1)) → Q (.ref l) ⟨h', g, d, k, os⟩) :
    wpAny (model PG w) A (call (.ref 101) [TKs.tx a u]) Q E ⟨h, g, d, t, os⟩ := by
  refine zCall ["p", "sep", "empty"] [some (TKs.tx a u), none, none] [("p", TKs.tx a u)] tp (by omega) (by kernel_rfl!) (by kernel_rfl!) (by kernel_rfl!) (by kernel_rfl!) (by kernel_rfl!) (by decide +kernel) (by kernel_rfl!) (by kernel_rfl!) (fun _ => by kernel_rfl!) (by kernel_rfl!) (by kernel_rfl!) (by kernel_rfl!) ?_
  intro L h₁ t₁ W
  refine execs_at 2 ?_
  conv => arg 3; arg 1; arg 2; whnf
  dsimp only [List.take_succ_cons, List.take_zero]
  repeat none_booked
  refine fspath_str (tp.keeps W.keep) (by show A.depth + 1 < _; omega) fun h2 t2 k2 => ?_
  replace W := W.kp k2
  repeat none_booked
  refine isi_str fun _ => ?_
  repeat none_booked
  rename_i W'
  exact splitroot_tail TKs rfl W' hz hns hq
end

section
variable {α : Type} [DecidableEq α]
/-- one component of a path, as normpath takes it -/
def nstep (dt : α) (ab : Bool) (acc : List (List α)) (c : List α) : List (List α) :=
  if c = [] ∨ c = [dt] then acc
  else if c ≠ [dt, dt] ∨ (ab = false ∧ acc = []) ∨ acc.getLast? = some [dt, dt] then acc ++ [c]
  else acc.dropLast
def initL (sl : α) (a : List α) : List α := if a.take 1 = [sl] then [sl] else []
def restL (sl : α) (a : List α) : List α := if a.take 1 = [sl] then a.drop 1 else a
def normL (sl dt : α) (a : List α) : List α :=
  let p := initL sl a ++ joinL sl ((splitL sl (restL sl a)).foldl (nstep dt (!(initL sl a).isEmpty)) [])
  if p = [] then [dt] else p
theorem nstep_skip {dt : α} {ab : Bool} {acc : List (List α)} {c : List α} (h : c = [] ∨ c = [dt]) : nstep dt ab acc c = acc := if_pos h
theorem nstep_push {dt : α} {ab : Bool} {acc : List (List α)} {c : List α} (h1 : c ≠ []) (h2 : c ≠ [dt]) (h : c ≠ [dt, dt] ∨ (ab = false ∧ acc = []) ∨ acc.getLast? = some [dt, dt]) : nstep dt ab acc c = acc ++ [c] :=
  (if_neg (fun e => e.elim h1 h2)).trans (if_pos h)
theorem nstep_pop {dt : α} {ab : Bool} {acc : List (List α)} {c : List α} (h1 : c ≠ []) (h2 : c ≠ [dt]) (h : ¬ (c ≠ [dt, dt] ∨ (ab = false ∧ acc = []) ∨ acc.getLast? = some [dt, dt])) : nstep dt ab acc c = acc.dropLast :=
  (if_neg (fun e => e.elim h1 h2)).trans (if_neg h)
theorem nstep_len {dt : α} {ab : Bool} {acc : List (List α)} {c : List α} {m : Nat} (h : acc.length ≤ m) : (nstep dt ab acc c).length ≤ m + 1 := by
  unfold nstep
  split
  · omega
  · split
    · simp; omega
    · simp; omega
theorem nstep_all {dt : α} {ab : Bool} {acc : List (List α)} {c : List α} {P : List α → Prop} (h : ∀ x ∈ acc, P x) (hc : P c) : ∀ x ∈ nstep dt ab acc c, P x := by
  unfold nstep
  split
  · exact h
  · split
    · intro x hx
      rcases List.mem_append.mp hx with hx | hx
      · exact h x hx
      · rw [List.mem_singleton.mp hx]; exact hc
    · intro x hx
      exact h x (List.dropLast_subset _ hx)
omit [DecidableEq α] in
theorem sum_le {l : List (List α)} {m : Nat} (h : ∀ x ∈ l, x.length ≤ m) : (l.map List.length).sum ≤ l.length * m := by
  induction l with
  | nil => simp
  | cons x r ih =>
    have h1 := h x (.head _)
    have h2 := ih fun y hy => h y (.tail _ hy)
    simp only [List.map_cons, List.sum_cons, List.length_cons, Nat.add_mul]
    omega
end
section
variable {w : World} {mg mb : Str → Option Value} {A : Around} {E : Value → Shared → Prop} {Q : Value → Shared → Prop} {h₀ h : Heap} {g : Array GenState} {d : Drawn} {t : Nat} {os : OsState} {u : Tok} {L : Addr}
def RootRule {α : Type} [DecidableEq α] (T : TK α) : Prop :=
  ∀ {w : World} {mg mb : Str → Option Value} {A : Around} {E : Value → Shared → Prop} {Q : Value → Shared → Prop} {h : Heap} {g : Array GenState} {d : Drawn} {t : Nat} {os : OsState} {u : Tok} {a : List α},
    Tp w mg mb h → A.depth + 2 < recursionLimit → a.length < 1000000 → (a.take 1 = [T.sl] → (a.drop 1).take 1 ≠ [T.sl]) →
    (∀ l h' k i r u₁ u₂ u₃, Kp h h' → h.get? l = none → h'.get? l = some (tup [T.tx [] u₁, T.tx i u₂, T.tx r u₃]) →
      ((a.take 1 ≠ [T.sl] ∧ i = [] ∧ r = a) ∨ (a.take 1 = [T.sl] ∧ i = [T.sl] ∧ r = a.drop 1)) → Q (.ref l) ⟨h', g, d, k, os⟩) →
    wpAny (model PG w) A (call (.ref 101) [T.tx a u]) Q E ⟨h, g, d, t, os⟩
theorem rootB : RootRule TKb := fun tp hr hz hns hq => splitroot_b tp hr hz hns hq
theorem rootS : RootRule TKs := fun tp hr hz hns hq => splitroot_s tp hr hz hns hq

theorem norm_tail {α : Type} [DecidableEq α] (T : TK α) (root : RootRule T) {a : List α} {x y z : Tok} {news : List (Addr × Obj)} (tp : Tp w mg mb h₀) (hh : A.handled = none) (hr : A.depth + 2 < recursionLimit)
    (W : Wd h₀ L ["path", "sep", "dot", "dotdot", "_", "initial_slashes", "comps", "new_comps", "comp"] [some (T.tx a u), some (T.tx [T.sl] x), some (T.tx [T.dt] y), some (T.tx [T.dt, T.dt] z), none, none, none, none, none] news h)
    (hz : a.length < 500) (hne : a ≠ []) (hns : a.take 1 = [T.sl] → (a.drop 1).take 1 ≠ [T.sl])
    (hq : ∀ h' k u', Kp h₀ h' → Q (T.tx (normL T.sl T.dt a) u') ⟨h', g, d, k, os⟩) :
    wpAny (model PG w) A (execs ((bodyOf (fdOf w 108)).drop 2) (fe w 108 L)) (fun f s' => Q (match f with | .ret v => v | _ => .none) s') (fun _ _ => False) ⟨h, g, d, t, os⟩ := by
  conv => arg 3; arg 1; whnf
  repeat none_booked
  refine T.tr (by omega) fun _ => ?_
  rw [show a.isEmpty = false from by cases a with | nil => exact absurd rfl hne | cons => rfl]
  rw [Bool.not_false, Bool.not_true]
  repeat none_booked
  refine root (tp.keeps W.keep) hr (by omega) hns fun l h2 k2 i r u1 u2 u3 kp hn ho hir => ?_
  replace W := W.laid kp hn ho
  refine zAsgT hh (W.tup (by repeat (with_reducible first | apply List.mem_cons_self | apply List.mem_cons_of_mem))) (by kernel_rfl!) (by kernel_rfl!) fun h3 k3 => ?_
  replace W := W.kp k3
  repeat none_booked
  refine T.mS ?_
  repeat none_booked
  have hrl : r.length < 500 := by
    rcases hir with ⟨_, _, rfl⟩ | ⟨_, _, rfl⟩
    · exact hz
    · rw [List.length_drop]; omega
  refine T.split (by omega) fun D h4 k4 cs n kp4 hn4 ho4 hcs => ?_
  rename Wd _ _ _ _ _ _ => W1
  replace W1 := (W1.laid kp4 hn4 ho4).sub (List.Sublist.cons_cons _ (List.nil_sublist _))
  repeat none_booked
  refine wpAny_For ?_ (by intro _; rfl)
  repeat none_booked
  rename Wd _ _ _ _ _ _ => W2
  rename_i N _ _ _ _
  refine zForL L (fun j vs' news' => ∃ cv us m, vs' = [some (T.tx r u3), some (T.tx [T.sl] x), some (T.tx [T.dt] y), some (T.tx [T.dt, T.dt] z), some (T.tx [] u1), some (T.tx i u2), some (.ref D), some (.ref N), cv] ∧
      news' = [(N, lst us m), (D, lst cs n)] ∧ us.map T.as = (((splitL T.sl r).take j).foldl (nstep T.dt (!i.isEmpty)) []).map some) hh rfl (by kernel_rfl!) (by kernel_rfl!) (W2.lst (by repeat (with_reducible first | apply List.mem_cons_self | apply List.mem_cons_of_mem))) W2 ?_ ⟨none, [], 0, rfl, rfl, rfl⟩ ?_ ?_
  · rintro j vs' news' h' d' o' ⟨cv, us, m, rfl, rfl, _⟩ W'
    exact W'.lst (by repeat (with_reducible first | apply List.mem_cons_self | apply List.mem_cons_of_mem))
  · rintro j v vs' news' it ito hv ⟨cv, us, m, rfl, rfl, hus⟩
    refine ⟨_, by repeat (with_reducible first | apply Put.head | apply Put.tail), fun h₁ t₁ W' => ?_⟩
    obtain ⟨c, hc, hvc⟩ : ∃ c, (splitL T.sl r)[j]? = some c ∧ T.as v = some c := by
      have := congrArg (·[j]?) hcs
      simp only [List.getElem?_map, hv, Option.map_some] at this
      cases e : (splitL T.sl r)[j]? with
      | none => rw [e] at this; cases this
      | some c => rw [e] at this; exact ⟨c, rfl, Option.some.inj this⟩
    obtain ⟨tc, rfl⟩ := T.of_as hvc
    have hcl : c.length < 500 := by
      have := splitL_sizes T.sl r c (List.mem_of_getElem? hc)
      omega
    generalize hacc : ((splitL T.sl r).take j).foldl (nstep T.dt (!i.isEmpty)) [] = acc at hus
    have hnext : ((splitL T.sl r).take (j + 1)).foldl (nstep T.dt (!i.isEmpty)) [] = nstep T.dt (!i.isEmpty) acc c := by
      rw [List.take_add_one, hc, Option.toList_some, List.foldl_append, hacc]; rfl
    rw [hnext]
    have hul : us.length ≤ 500 := by
      have h1 : us.length = acc.length := by simpa using congrArg List.length hus
      have h2 : ∀ (l : List (List α)) (acc : List (List α)), (l.foldl (nstep T.dt (!i.isEmpty)) acc).length ≤ acc.length + l.length := by
        intro l
        induction l with
        | nil => intro acc; simp
        | cons c l ih => intro acc; have := ih (nstep T.dt (!i.isEmpty) acc c); have h3 := nstep_len (dt := T.dt) (ab := !i.isEmpty) (c := c) (Nat.le_refl acc.length); simp only [List.foldl_cons, List.length_cons]; omega
      have h3 := h2 ((splitL T.sl r).take j) []
      have h4 := splitL_count T.sl r
      rw [hacc, List.length_take] at h3
      simp at h3
      omega
    repeat none_booked
    refine T.tr (by omega) fun _ => ?_
    by_cases hce : c = []
    · rw [show c.isEmpty = true from by rw [hce]; rfl, Bool.not_true, Bool.not_false]
      repeat none_booked
      exact ⟨_, _, _, _, rfl, W', _, us, m, rfl, rfl, by rw [nstep_skip (.inl hce)]; exact hus⟩
    · rw [show c.isEmpty = false from by cases c with | nil => exact absurd rfl hce | cons => rfl, Bool.not_false, Bool.not_true]
      repeat none_booked
      refine T.eq ?_
      repeat none_booked
      by_cases hcd : c = [T.dt]
      · rw [decide_eq_true hcd]
        repeat none_booked
        exact ⟨_, _, _, _, rfl, W', _, us, m, rfl, rfl, by rw [nstep_skip (.inr hcd)]; exact hus⟩
      · rw [decide_eq_false hcd]
        repeat none_booked
        refine T.ne ?_
        repeat none_booked
        by_cases hdd : c = [T.dt, T.dt]
        · rw [decide_eq_false (by simpa using hdd)]
          repeat none_booked
          refine T.tr (by rcases hir with ⟨_, rfl, _⟩ | ⟨_, rfl, _⟩ <;> simp) fun _ => ?_
          rcases List.eq_nil_or_concat us with hu | ⟨us', q, hu⟩
          · subst hu
            have ha : acc = [] := by simpa using hus.symm
            subst ha
            cases hie : i.isEmpty with
            | true =>
              rw [Bool.not_true, Bool.not_false]
              repeat none_booked
              refine zTrL (W'.lst (by repeat (with_reducible first | apply List.mem_cons_self | apply List.mem_cons_of_mem))) (by omega) fun _ => ?_
              rw [List.isEmpty_nil, Bool.not_true, Bool.not_false]
              repeat none_booked
              refine zMeth (W'.get (by repeat (with_reducible first | apply List.mem_cons_self | apply List.mem_cons_of_mem))) rfl rfl FM.slot_append FM.type_append ?_
              repeat none_booked
              refine zAppend (W'.get (by repeat (with_reducible first | apply List.mem_cons_self | apply List.mem_cons_of_mem))) (by omega) fun h5 hs5 ho5 => ?_
              have W5 := Wd.upd (pre := [(it, ito)]) W' hs5 ho5
              repeat none_booked
              exact ⟨_, _, _, _, rfl, W5, _, [] ++ [T.tx c tc], m + 1, rfl, rfl, by rw [nstep_push hce hcd (.inr (.inl ⟨by simp, rfl⟩)), List.map_append, List.map_append, hus, List.map_singleton, T.as_mk]; rfl⟩
            | false =>
              rw [Bool.not_false, Bool.not_true]
              repeat none_booked
              refine zTrL (W'.lst (by repeat (with_reducible first | apply List.mem_cons_self | apply List.mem_cons_of_mem))) (by omega) fun _ => ?_
              rw [List.isEmpty_nil, Bool.not_true]
              repeat none_booked
              refine zTrL (W'.lst (by repeat (with_reducible first | apply List.mem_cons_self | apply List.mem_cons_of_mem))) (by omega) fun _ => ?_
              rw [List.isEmpty_nil, Bool.not_true]
              repeat none_booked
              exact ⟨_, _, _, _, rfl, W', _, [], m, rfl, rfl, by rw [nstep_pop hce hcd (by simp [hdd])]; rfl⟩
          · rw [List.concat_eq_append] at hu
            subst hu
            obtain ⟨acc', e, hacc', hus', hqe⟩ : ∃ acc' e, acc = acc' ++ [e] ∧ us'.map T.as = acc'.map some ∧ T.as q = some e := by
              rcases List.eq_nil_or_concat acc with ha | ⟨acc', e, ha⟩
              · subst ha; simp at hus
              · rw [List.concat_eq_append] at ha
                subst ha
                rw [List.map_append, List.map_append] at hus
                have := List.append_inj' hus rfl
                exact ⟨acc', e, rfl, this.1, by simpa using this.2⟩
            obtain ⟨te, rfl⟩ := T.of_as hqe
            have hisF : (us' ++ [T.tx e te]).isEmpty = false := by simp
            have hlast : acc.getLast? = some e := by rw [hacc']; simp
            have hane : acc ≠ [] := by rw [hacc']; simp
            cases hie : i.isEmpty with
            | true =>
              rw [Bool.not_true, Bool.not_false]
              repeat none_booked
              refine zTrL (W'.lst (by repeat (with_reducible first | apply List.mem_cons_self | apply List.mem_cons_of_mem))) (by omega) fun _ => ?_
              rw [hisF, Bool.not_false, Bool.not_true]
              repeat none_booked
              refine zTrL (W'.lst (by repeat (with_reducible first | apply List.mem_cons_self | apply List.mem_cons_of_mem))) (by omega) fun _ => ?_
              rw [hisF, Bool.not_false]
              repeat none_booked
              refine zItemLast (W'.lst (by repeat (with_reducible first | apply List.mem_cons_self | apply List.mem_cons_of_mem))) ?_ rfl
              repeat none_booked
              refine T.eq ?_
              repeat none_booked
              by_cases hed : e = [T.dt, T.dt]
              · rw [decide_eq_true hed]
                repeat none_booked
                refine zMeth (W'.get (by repeat (with_reducible first | apply List.mem_cons_self | apply List.mem_cons_of_mem))) rfl rfl FM.slot_append FM.type_append ?_
                repeat none_booked
                refine zAppend (W'.get (by repeat (with_reducible first | apply List.mem_cons_self | apply List.mem_cons_of_mem))) (by omega) fun h5 hs5 ho5 => ?_
                have W5 := Wd.upd (pre := [(it, ito)]) W' hs5 ho5
                repeat none_booked
                exact ⟨_, _, _, _, rfl, W5, _, (us' ++ [T.tx e te]) ++ [T.tx c tc], m + 1, rfl, rfl, by rw [nstep_push hce hcd (.inr (.inr (by rw [hlast, hed]))), List.map_append (l₁ := us' ++ [T.tx e te]), List.map_append (l₁ := acc), hus, List.map_singleton, T.as_mk]; rfl⟩
              · rw [decide_eq_false hed]
                repeat none_booked
                refine zTrL (W'.lst (by repeat (with_reducible first | apply List.mem_cons_self | apply List.mem_cons_of_mem))) (by omega) fun _ => ?_
                rw [hisF, Bool.not_false]
                repeat none_booked
                refine zMeth (W'.get (by repeat (with_reducible first | apply List.mem_cons_self | apply List.mem_cons_of_mem))) rfl rfl FM.slot_pop FM.type_pop ?_
                repeat none_booked
                refine zPop (W'.get (by repeat (with_reducible first | apply List.mem_cons_self | apply List.mem_cons_of_mem))) (by rw [List.length_append] at hul; exact Nat.le_trans hul (by decide)) fun h5 hs5 ho5 => ?_
                have W5 := Wd.upd (pre := [(it, ito)]) W' hs5 ho5
                refine And.intro (T.nref _ _) ?_
                repeat none_booked
                exact ⟨_, _, _, _, rfl, W5, _, us', m + 1, rfl, rfl, by rw [nstep_pop hce hcd (by simp [hdd, hane, hlast, hed]), hacc', List.dropLast_concat]; exact hus'⟩
            | false =>
              rw [Bool.not_false, Bool.not_true]
              repeat none_booked
              refine zTrL (W'.lst (by repeat (with_reducible first | apply List.mem_cons_self | apply List.mem_cons_of_mem))) (by omega) fun _ => ?_
              rw [hisF, Bool.not_false]
              repeat none_booked
              refine zItemLast (W'.lst (by repeat (with_reducible first | apply List.mem_cons_self | apply List.mem_cons_of_mem))) ?_ rfl
              repeat none_booked
              refine T.eq ?_
              repeat none_booked
              by_cases hed : e = [T.dt, T.dt]
              · rw [decide_eq_true hed]
                repeat none_booked
                refine zMeth (W'.get (by repeat (with_reducible first | apply List.mem_cons_self | apply List.mem_cons_of_mem))) rfl rfl FM.slot_append FM.type_append ?_
                repeat none_booked
                refine zAppend (W'.get (by repeat (with_reducible first | apply List.mem_cons_self | apply List.mem_cons_of_mem))) (by omega) fun h5 hs5 ho5 => ?_
                have W5 := Wd.upd (pre := [(it, ito)]) W' hs5 ho5
                repeat none_booked
                exact ⟨_, _, _, _, rfl, W5, _, (us' ++ [T.tx e te]) ++ [T.tx c tc], m + 1, rfl, rfl, by rw [nstep_push hce hcd (.inr (.inr (by rw [hlast, hed]))), List.map_append (l₁ := us' ++ [T.tx e te]), List.map_append (l₁ := acc), hus, List.map_singleton, T.as_mk]; rfl⟩
              · rw [decide_eq_false hed]
                repeat none_booked
                refine zTrL (W'.lst (by repeat (with_reducible first | apply List.mem_cons_self | apply List.mem_cons_of_mem))) (by omega) fun _ => ?_
                rw [hisF, Bool.not_false]
                repeat none_booked
                refine zMeth (W'.get (by repeat (with_reducible first | apply List.mem_cons_self | apply List.mem_cons_of_mem))) rfl rfl FM.slot_pop FM.type_pop ?_
                repeat none_booked
                refine zPop (W'.get (by repeat (with_reducible first | apply List.mem_cons_self | apply List.mem_cons_of_mem))) (by rw [List.length_append] at hul; exact Nat.le_trans hul (by decide)) fun h5 hs5 ho5 => ?_
                have W5 := Wd.upd (pre := [(it, ito)]) W' hs5 ho5
                refine And.intro (T.nref _ _) ?_
                repeat none_booked
                exact ⟨_, _, _, _, rfl, W5, _, us', m + 1, rfl, rfl, by rw [nstep_pop hce hcd (by simp [hdd, hane, hlast, hed]), hacc', List.dropLast_concat]; exact hus'⟩
        · rw [decide_eq_true hdd]
          repeat none_booked
          refine zMeth (W'.get (by repeat (with_reducible first | apply List.mem_cons_self | apply List.mem_cons_of_mem))) rfl rfl FM.slot_append FM.type_append ?_
          repeat none_booked
          refine zAppend (W'.get (by repeat (with_reducible first | apply List.mem_cons_self | apply List.mem_cons_of_mem))) (by omega) fun h5 hs5 ho5 => ?_
          have W5 := Wd.upd (pre := [(it, ito)]) W' hs5 ho5
          repeat none_booked
          exact ⟨_, _, _, _, rfl, W5, _, us ++ [T.tx c tc], m + 1, rfl, rfl, by rw [nstep_push hce hcd (.inl hdd), List.map_append, List.map_append, hus, List.map_singleton, T.as_mk]; rfl⟩
  · rintro vs' news' h' t' W' ⟨cv, us, m, rfl, rfl, hus⟩
    dsimp only
    repeat none_booked
    refine T.mJ ?_
    repeat none_booked
    generalize hacc : ((splitL T.sl r).take cs.length).foldl (nstep T.dt (!i.isEmpty)) [] = acc at hus
    have hcl : cs.length = (splitL T.sl r).length := by simpa using congrArg List.length hcs
    have hlen : acc.length ≤ 500 := by
      have h2 : ∀ (l : List (List α)) (acc : List (List α)), (l.foldl (nstep T.dt (!i.isEmpty)) acc).length ≤ acc.length + l.length := by
        intro l
        induction l with
        | nil => intro acc; simp
        | cons c l ih => intro acc; have := ih (nstep T.dt (!i.isEmpty) acc c); have h3 := nstep_len (dt := T.dt) (ab := !i.isEmpty) (c := c) (Nat.le_refl acc.length); simp only [List.foldl_cons, List.length_cons]; omega
      have h3 := h2 ((splitL T.sl r).take cs.length) []
      have h4 := splitL_count T.sl r
      rw [hacc, List.length_take] at h3
      simp at h3
      omega
    have hall : ∀ x ∈ acc, x.length ≤ 500 := by
      have h2 : ∀ (l : List (List α)) (acc : List (List α)), (∀ x ∈ acc, x.length ≤ 500) → (∀ x ∈ l, x.length ≤ 500) → ∀ x ∈ l.foldl (nstep T.dt (!i.isEmpty)) acc, x.length ≤ 500 := by
        intro l
        induction l with
        | nil => intro acc h _; exact h
        | cons c l ih => intro acc h hl; exact ih _ (nstep_all h (hl c (.head _))) fun x hx => hl x (.tail _ hx)
      rw [← hacc]
      refine h2 _ _ (fun _ hx => nomatch hx) fun x hx => ?_
      have := splitL_sizes T.sl r x (List.mem_of_mem_take hx)
      omega
    have hsum := sum_le hall
    have hbig : (acc.map List.length).sum + acc.length < 500000 := by
      have : acc.length * 500 ≤ 500 * 500 := Nat.mul_le_mul_right 500 hlen
      omega
    rename Wd _ _ _ _ _ _ => W6
    refine T.join (W6.get (by repeat (with_reducible first | apply List.mem_cons_self | apply List.mem_cons_of_mem))) hus (by omega) fun t7 k7 => ?_
    have hil : i.length ≤ 1 := by rcases hir with ⟨_, rfl, _⟩ | ⟨_, rfl, _⟩ <;> simp
    have hjl := joinL_length T.sl acc
    refine T.add (by omega) fun t8 k8 => ?_
    repeat none_booked
    refine T.tr (by rw [List.length_append]; omega) fun k9 => ?_
    have hnorm : normL T.sl T.dt a = if i ++ joinL T.sl acc = [] then [T.dt] else i ++ joinL T.sl acc := by
      have hi : initL T.sl a = i := by
        unfold initL
        rcases hir with ⟨hc, rfl, _⟩ | ⟨hc, rfl, _⟩
        · rw [if_neg hc]
        · rw [if_pos hc]
      have hrs : restL T.sl a = r := by
        unfold restL
        rcases hir with ⟨hc, _, rfl⟩ | ⟨hc, _, rfl⟩
        · rw [if_neg hc]
        · rw [if_pos hc]
      unfold normL
      rw [hi, hrs]
      have : (splitL T.sl r).take cs.length = splitL T.sl r := by rw [hcl, List.take_length]
      rw [this] at hacc
      rw [hacc]
    cases hem : (i ++ joinL T.sl acc).isEmpty with
    | true =>
      rw [Bool.not_true]
      repeat none_booked
      rename Wd _ _ _ _ _ _ => W9
      rw [if_pos (by simpa using hem)] at hnorm
      have := hq _ k9 y W9.keep
      rw [hnorm] at this
      exact this
    | false =>
      rw [Bool.not_false]
      repeat none_booked
      rename Wd _ _ _ _ _ _ => W9
      rw [if_neg (fun e => by rw [e] at hem; simp at hem)] at hnorm
      have := hq _ k9 t8 W9.keep
      rw [hnorm] at this
      exact this
theorem normpath_b {a : List UInt8} (tp : Tp w mg mb h) (hh : A.handled = none) (hr : A.depth + 3 < recursionLimit) (hz : a.length < 500) (hne : a ≠ []) (hns : a.take 1 = [47] → (a.drop 1).take 1 ≠ [47])
    (hq : ∀ h' k u', Kp h h' → Q (.bytes (normL 47 46 a).toArray u') ⟨h', g, d, k, os⟩) :
    wpAny (model PG w) A (call (.ref 108) [.bytes a.toArray u]) Q E ⟨h, g, d, t, os⟩ := by
  refine zCall ["path", "sep", "dot", "dotdot", "_", "initial_slashes", "comps", "new_comps", "comp"] [some (TKb.tx a u), none, none, none, none, none, none, none, none] [("path", TKb.tx a u)] tp (by omega) (by kernel_rfl!) (by kernel_rfl!) (by kernel_rfl!) (by kernel_rfl!) (by kernel_rfl!) (by decide +kernel) (by kernel_rfl!) (by kernel_rfl!) (fun _ => by kernel_rfl!) (by kernel_rfl!) (by kernel_rfl!) (by kernel_rfl!) ?_
  intro L h₁ t₁ W
  refine execs_at 2 ?_
  conv => arg 3; arg 1; arg 2; whnf
  dsimp only [List.take_succ_cons, List.take_zero]
  repeat none_booked
  refine fspath_bytes (tp.keeps W.keep) (by show A.depth + 1 < _; omega) fun h2 t2 k2 => ?_
  replace W := W.kp k2
  repeat none_booked
  refine isi_bytes ?_
  repeat none_booked
  rename Wd _ _ _ _ _ _ => W'
  exact norm_tail TKb rootB tp hh (by show A.depth + 1 + 2 < _; omega) W' hz hne hns hq
theorem normpath_s {a : List Nat} (tp : Tp w mg mb h) (hh : A.handled = none) (hr : A.depth + 3 < recursionLimit) (hz : a.length < 500) (hne : a ≠ []) (hns : a.take 1 = [47] → (a.drop 1).take 1 ≠ [47])
    (hq : ∀ h' k u', Kp h h' → Q (.str ⟨(normL 47 46 a).toArray⟩ u') ⟨h', g, d, k, os⟩) :
    wpAny (model PG w) A (call (.ref 108) [.str ⟨a.toArray⟩ u]) Q E ⟨h, g, d, t, os⟩ := by
  refine zCall ["path", "sep", "dot", "dotdot", "_", "initial_slashes", "comps", "new_comps", "comp"] [some (TKs.tx a u), none, none, none, none, none, none, none, none] [("path", TKs.tx a u)] tp (by omega) (by kernel_rfl!) (by kernel_rfl!) (by kernel_rfl!) (by kernel_rfl!) (by kernel_rfl!) (by decide +kernel) (by kernel_rfl!) (by kernel_rfl!) (fun _ => by kernel_rfl!) (by kernel_rfl!) (by kernel_rfl!) (by kernel_rfl!) ?_
  intro L h₁ t₁ W
  refine execs_at 2 ?_
  conv => arg 3; arg 1; arg 2; whnf
  dsimp only [List.take_succ_cons, List.take_zero]
  repeat none_booked
  refine fspath_str (tp.keeps W.keep) (by show A.depth + 1 < _; omega) fun h2 t2 k2 => ?_
  replace W := W.kp k2
  repeat none_booked
  refine isi_str fun _ => ?_
  repeat none_booked
  rename Wd _ _ _ _ _ _ => W'
  exact norm_tail TKs rootS tp hh (by show A.depth + 1 + 2 < _; omega) W' hz hne hns hq
end

/-- contexts in which no part of a buffer is lent out: the rules that «bytearray» wants -/
def tame : Code → Bool
  | .builtin id _ => !(["bytearray.__contains__", "bytearray.__mod__", "bytearray.__rmod__", "_struct.pack_into.held", "bytearray.find.held"].contains id) && !Builtin.Bytes.decodersThatHold.contains id
  | _ => true
def Clean (Γ : Ctx) : Prop := ∀ x ∈ Γ.below, tame x.1 = true

def wpN {α : Type} (M : Model) (A : Around) (t : Sem α) (Q : α → Shared → Prop) (E : Value → Shared → Prop) (s : Shared) : Prop :=
  ∀ Γ p, Γ.In A → Clean Γ → tame Γ.code = true → Sem.wp M Γ t (fun a _ s' => Q a s') (fun e _ s' => E e s') p s
def codeN (M : Model) (A : Around) (c : Code) (R : Result → Shared → Prop) (s : Shared) : Prop :=
  ∀ Γ p, Γ.code = c → Γ.Below A → Clean Γ → wpCode M Γ R p s

section
variable {α β : Type} {M : Model} {A : Around} {E : Value → Shared → Prop} {s : Shared}
theorem wpN.of {t : Sem α} {Q : α → Shared → Prop} (h : wpAny M A t Q E s) : wpN M A t Q E s := fun Γ p i _ _ => h Γ p i
theorem codeN.of {c : Code} {R : Result → Shared → Prop} (h : codeAny M A c R s) : codeN M A c R s := fun Γ p e b _ => h Γ p e b
theorem wpN.mono {t : Sem α} {Q Q' : α → Shared → Prop} {E' : Value → Shared → Prop} (h : wpN M A t Q E s)
    (hQ : ∀ a s, Q a s → Q' a s) (hE : ∀ e s, E e s → E' e s) : wpN M A t Q' E' s :=
  fun Γ p i c k => Sem.wp_mono M Γ t (fun a _ s => hQ a s) (fun e _ s => hE e s) p s (h Γ p i c k)
theorem wpN.bind {m : Sem α} {f : α → Sem β} {Q : β → Shared → Prop} (h : wpN M A m (fun a s' => wpN M A (f a) Q E s') E s) :
    wpN M A (m >>= f) Q E s := fun Γ p i c k => by
  rw [Sem.wp_bind']
  exact Sem.wp_mono M Γ m (fun a p' s' h' => h' Γ p' i c k) (fun _ _ _ h' => h') p s (h Γ p i c k)
theorem wpN.onRaise {m : Sem α} {k : Value → Sem Unit} {Q : α → Shared → Prop}
    (h : wpN M A m Q (fun e s' => wpN M A (k e) (fun _ s'' => E e s'') E s') s) : wpN M A (m.onRaise k) Q E s := fun Γ p i c t => by
  rw [Sem.wp_onRaise]
  exact Sem.wp_mono M Γ m (fun _ _ _ h' => h') (fun e p' s' h' => h' Γ p' i c t) p s (h Γ p i c t)
theorem wpN.holding {vs : List Value} {m : Sem α} {Q : α → Shared → Prop} (h : wpN M A m Q E s) : wpN M A (holding vs m) Q E s :=
  fun Γ p i c t => by rw [Sem.wp_holding]; exact h Γ p i c t
theorem clean_enter {Γ : Ctx} {c : Code} {h : Option Value} {p : Pos} (hc : Clean Γ) (ht : tame Γ.code = true) : Clean (Γ.enter c h p) := fun x hx => by
  rcases List.mem_cons.mp (show x ∈ (Γ.code, p) :: Γ.below from hx) with e | e
  · rw [e]; exact ht
  · exact hc x e
theorem wpN.runValue {c : Code} {Q : Value → Shared → Prop}
    (hc : codeN M A c (fun r s' => match r with | .ok (.ret v) => Q v s' | .ok _ => False | .error e => E e s') s) :
    wpN M A (runValue c) Q E s := fun Γ p i cl k => by
  rw [Sem.wp_runValue]; exact hc _ p rfl (i.enter c none p (by intro x; cases x)) (clean_enter cl k)
theorem wpN.call {f : Value} {pos : List Value} {kw : List (Str × Value)} {Q : Value → Shared → Prop}
    (hc : codeN M A (.call f ⟨pos, kw⟩) (fun r s' => match r with | .ok (.ret v) => Q v s' | .ok _ => False | .error e => E e s') s) :
    wpN M A (call f pos kw) Q E s := wpN.runValue hc
theorem codeN_of_tree {c : Code} {R : Result → Shared → Prop} (ht : tame c = true)
    (h : wpN M (A.under c) (M.den c) (fun fin s' => match fin with | .done f => R (.ok f) s' | .again c' => c'.quiet = true ∧ codeN M A c' R s')
      (fun e s' => R (.error e) s') s) : codeN M A c R s := fun Γ p hc hΓ cl => by
  rw [wpCode_iff_wp, hc]
  refine Sem.wp_mono M Γ _ (fun fin p' s' h' => ?_) (fun _ _ _ h' => h') p s (h Γ p (hc ▸ hΓ.in) cl (hc ▸ ht))
  cases fin with
  | done f => exact h'
  | again c' => exact ⟨h'.1, h'.2 (Γ.goto c') p' rfl (hΓ.goto c') cl⟩
theorem not_lent {c : Code} (self : Value) (p : Pos) (h : tame c = true) : (match (c, p) with
    | (.builtin "bytearray.__contains__" ⟨v :: _, _⟩, _) | (.builtin "bytearray.__mod__" ⟨v :: _, _⟩, _)
    | (.builtin "bytearray.__rmod__" ⟨_ :: v :: _, _⟩, _) | (.builtin "_struct.pack_into.held" ⟨v :: _, _⟩, _) => Builtin.Bytes.sameRef v self
    | (.builtin "bytearray.find.held" ⟨_ :: _ :: held, _⟩, _) => held.any (Builtin.Bytes.sameRef self)
    | (.builtin id ⟨v :: _, _⟩, _) => Builtin.Bytes.sameRef v self && Builtin.Bytes.decodersThatHold.contains id
    | _ => false) = false := by
  unfold tame at h
  split at h
  · rename_i id a
    obtain ⟨h1, h2⟩ := Bool.and_eq_true_iff.mp h
    have h2 : Builtin.Bytes.decodersThatHold.contains id = false := by simpa using h2
    split <;> rename_i e
    all_goals first
      | (obtain ⟨e, _⟩ := Prod.mk.inj e; cases e; exact absurd h1 (by decide))
      | (obtain ⟨e, _⟩ := Prod.mk.inj e; cases e; rw [h2, Bool.and_false])
      | rfl
  · rename_i hn
    split <;> rename_i e
    all_goals first
      | (obtain ⟨e, _⟩ := Prod.mk.inj e; exact absurd e (hn _ _))
      | rfl
theorem wpN.exported {self : Value} {Q : Bool → Shared → Prop} (h : Q false s) : wpN M A (Builtin.Bytes.exported self) Q E s := fun Γ p _ cl k => by
  unfold Builtin.Bytes.exported
  rw [Sem.wp_bind']
  show Q (((Γ.code, p) :: Γ.below).any _) s
  rw [List.any_eq_false.mpr ?_]
  · exact h
  · intro x hx
    rw [Bool.not_eq_true]
    rcases List.mem_cons.mp hx with e | e
    · subst e; exact not_lent self p k
    · obtain ⟨c, q⟩ := x
      exact not_lent self q (cl _ e)
end
section
variable {prog : Program} {w : World} {A : Around} {s : Shared} {R : Result → Shared → Prop}
theorem tame_id {id : String} {a a' : Args} (h : tame (.builtin id a') = true) : tame (.builtin id a) = true := h
theorem codeN_builtin {id : String} {args : Args} {b : Builtin} (ht : tame (.builtin id {}) = true) (hb : entryFor table id = some b)
    (h : wpN (model prog w) (A.under (.builtin id args)) (b args)
      (fun fin s' => match fin with | .done f => R (.ok f) s' | .again c' => c'.quiet = true ∧ codeN (model prog w) A c' R s') (fun e s' => R (.error e) s') s) :
    codeN (model prog w) A (.builtin id args) R s := by
  refine codeN_of_tree (tame_id ht) ?_
  show wpN _ _ (match entryFor table id with | some b => b args | none => unsupported ((withoutEnding? id "#data").getD id)) _ _ s
  rw [hb]; exact h
theorem codeN_call_builtin {id : String} {args : Args} {b : Builtin} (ht : tame (.builtin id {}) = true) (hq : plainId id = true) (hb : entryFor table id = some b)
    (h : wpAny (model prog w) A.in1 (checkBuiltinCall id args) (fun _ s₁ => wpN (model prog w) A.in1 (b args)
      (fun fin s' => match fin with | .done f => R (.ok f) s' | .again c' => c'.quiet = true ∧ codeN (model prog w) A c' R s') (fun e s' => R (.error e) s') s₁)
      (fun e s' => R (.error e) s') s) : codeN (model prog w) A (.call (.builtin id) args) R s := by
  refine codeN_of_tree rfl (wpN.of ?_)
  show wpAny _ A.in1 (do checkBuiltinCall id args; again (.builtin id args)) _ _ s
  refine wpAny_bind (wpAny_mono h (fun _ s₁ h₁ => wpAny_pure (And.intro (plainId_quiet hq args) (codeN_builtin ht hb ?_))) fun _ _ h' => h')
  rw [Around.under_plainId hq args]
  exact h₁
end

/-- the one context a claim is called from -/
abbrev Γ₀ : Ctx := ⟨.builtin "claim.caller" {}, none, none, [], none⟩
theorem clean₀ : Clean Γ₀ := fun _ hx => by cases hx
theorem tame₀ : tame Γ₀.code = true := by decide +kernel

abbrev Walk0 (q : Program) (XP : (Str → Option Value) → Heap → Prop) (YP : World → Heap → Prop) (r : RowW) (d : DefRec) (kwd : List (Str × Expr)) : Prop :=
  ∀ (w : World) (s₀ s₁ : Shared) (mg mb : Str → Option Value), Ground q [] r.records XP w s₀ mg mb s₁.heap → YP w s₁.heap → ∀ (a : Addr) (o : Obj) (pm cd doc dV kV : Value), s₁.heap.get? a = some o →
    o.data = .func { docDef d.name d.params d.body d.scope pm cd doc with defaults := dV, kwdefaults := kV } → s₁.heap.CodeRec cd d.name → Dflts mg s₁.heap d.params kwd dV kV → mg d.name = some (.ref a) → s₁.gens = #[] →
    ∀ (args : List WData) (vals : List Value) (as : List Addr), r.claim.pre args = true → WData.layableAll args = true → ReadsAllW r.records (classAt s₀.heap) s₁.heap vals args as → WellAll w.params s₁.heap vals args → (∀ a ∈ as, (a == sysModules) = false) →
      wpN (model r.prog w) callerA (PySem.call (.ref a) vals) (fun v s' => GoodWG r.claim (classAt s₀.heap) (ExcName.means s₀.heap) args s₁ (.ok (.ret v)) s')
        (fun e s' => GoodWG r.claim (classAt s₀.heap) (ExcName.means s₀.heap) args s₁ (.error e) s') s₁

/-- a call that ends well from that context is a claim's call -/
theorem callFrom0 {c : ClaimW} {tree : List Value → Sem Fin} {w : World} {s : Shared} {free : Addr → Prop} {gens : Prop} {kept : Heap → Prop} (hz : s.asleep) (hgens : s.gens = #[])
    (spec : ∀ args, c.pre args = true → WData.layableAll args = true → ∀ ord : List DictEntry → List DictEntry, (∀ l, (ord l).Perm l) →
      ∃ vs s₁, layAllW c.records (classAt s.heap) w.params ord args s = some (vs, s₁) ∧
        wpN (model c.prog w) callerA (tree vs) (fun fin s' => ∃ f, fin = .done f ∧ (c.Ends s args vs s₁ (.ok f) s' ∧ s'.os = s.os ∧ AllBare s'.gens ∧ kept s'.heap))
          (fun e s' => c.Ends s args vs s₁ (.error e) s' ∧ s'.os = s.os ∧ AllBare s'.gens ∧ kept s'.heap) s₁) :
    c.CallFrom (fun vs => ⟨tree vs, .builtin "claim.caller" {}, default, []⟩) w free gens kept s := by
  intro args hpre hlay ord hord
  obtain ⟨vs, s₁, hl, hw⟩ := spec args hpre hlay ord hord
  have rest := layAllW_rest _ _ _ hl
  have w0 : Sem.wp (model c.prog w) Γ₀ (tree vs) (Sem.finPost (model c.prog w) Γ₀ fun r s' => (c.Ends s args vs s₁ r s' ∧ s'.os = s.os ∧ kept s'.heap) ∧ leftWithCleanup s'.gens = false)
      (fun e _ s' => (c.Ends s args vs s₁ (.error e) s' ∧ s'.os = s.os ∧ kept s'.heap) ∧ leftWithCleanup s'.gens = false) default s₁ := by
    refine Sem.wp_mono _ Γ₀ _ (fun fin _ s' h' => ?_) (fun e _ s' h' => ?_) _ _ (hw Γ₀ default caller_in clean₀ tame₀)
    · obtain ⟨f, rfl, a, b, g, k⟩ := h'
      exact ⟨⟨a, b, k⟩, leftWithCleanup_false_of_bare g⟩
    · obtain ⟨a, b, g, k⟩ := h'
      exact ⟨⟨a, b, k⟩, leftWithCleanup_false_of_bare g⟩
  obtain ⟨n, r, s₂, s', hs, hn, hfo, hcase, hos, hkp⟩ := wp_halts_full (M := model c.prog w)
    (R := fun r s' => c.Ends s args vs s₁ r s' ∧ s'.os = s.os ∧ kept s'.heap) (Shared.asleep_of_life rest.2.2.2 hz) w0
  obtain ⟨eh, _, _, eo, _⟩ := Shared.forget_eq hfo
  have hcase := hcase.congr eh
  have hkp : kept s'.heap := by rw [eh]; exact hkp
  rw [← eo] at hos
  have hlife : s'.heap.life = s.heap.life := (runN_life _ _ _ hn).trans rest.2.2.2
  refine ⟨vs, s₁, hl, n, _, s', hs, ?_, (fun _ i x hx => by rw [hgens] at hx; simp at hx), hkp, by rw [hlife], Shared.rest_eq hos⟩
  rcases hcase with ⟨v, rfl, d1, d2, d3, d4, d5⟩ | ⟨e, ob, cls, rfl, d1, d2, d3, d4, d5⟩
  · exact .inl ⟨v, rfl, d1, d2, d3, fun b o y _ => d4 b o y, d5⟩
  · exact .inr ⟨e, ob, cls, rfl, d1, d2, d3, d4, fun b o y _ => d5 b o y⟩

theorem holds0 {r : OpenRow} {q : Program} {Xt : Shared → Bool} {XP : (Str → Option Value) → Heap → Prop} {α : Type} {Yf : Shared → α} {Ya : World → α} {YP : World → Heap → Prop} {d : DefRec} {kwd : List (Str × Expr)} {N : Nat}
    (left : LeftO r.prog q [] Xt Yf Ya N) (hY : ∀ w s, Yf s = Ya w → YP w s.heap) (hYk : ∀ w h h', YP w h → Kp h h' → YP w h')
    (hX : ∀ s, Xt s = true → XP (s.heap.nsMap mainGlobals) s.heap) (hXk : ∀ mg h h', XP mg h → Kp h h' → XP mg h')
    (hdef : defOf q r.name = some (d, kwd)) (hp : r.prog.theDef r.name = some (d.params, d.body, d.scope)) (hk : kwWritten? d.params.kwonlyargs d.params.kw_defaults = some kwd) (hRf : ∀ s, Xt s = true → RecFacts r.records s.heap) (hwr : (!r.writes || r.records.isEmpty) = true)
    (k1 : r.wellSaid = true) (ok : (chainsOk q && opensWell r.prog && (frees r.toRowW && r.within.isEmpty)) = true) (hb : r.prog.bare) (hw : r.toRowW.promised)
    (walk : Walk0 q XP YP r.toRowW d kwd) : r.Holds := by
  obtain ⟨ok, k5⟩ := Bool.and_eq_true_iff.mp ok
  obtain ⟨hch, o1⟩ := Bool.and_eq_true_iff.mp ok
  obtain ⟨k5, k6⟩ := Bool.and_eq_true_iff.mp k5
  obtain ⟨hsame, hu, ha, hap, hm⟩ := frees_parts k5
  refine ⟨k1, hw, ⟨hb, o1, by show r.toRowW.makers.map _ = []; rw [hm]; rfl⟩, hw.witness, fun w => ⟨(left.behind hX hch w).1, fun s' hs' => ?_⟩⟩
  obtain ⟨s₀, hf, hg0, s, hT, hz, hgens, hg, G2, y⟩ := (left.behind (XP := fun mg h => XP mg h ∧ RecFacts r.records h) (fun s hs => ⟨hX s hs, hRf s hs⟩) hch w).2 s' hs'
  have G1 : Ground q [] [] XP w s (s.heap.nsMap mainGlobals) (s.heap.nsMap builtinsNs) s.heap := ⟨G2.T, G2.B, G2.D, G2.TE, G2.TD, G2.W, G2.X.1, G2.cls, G2.has, G2.apart, G2.once, G2.K⟩
  have RF := G2.X.2
  refine ⟨s₀, hf, hg0, s, hT, fun n hn => ?_, RF.1, RF.2.1, ?_⟩
  · obtain rfl : n = r.name := by split at hn <;> simp_all
    exact pinned_of_view hg G1 hdef hp hk
  have hgens : s.gens = #[] := Array.eq_empty_of_size_eq_zero (beq_iff_eq.mp hgens)
  have G : Ground q [] r.records XP w s _ _ s.heap := RF.ground G1
  refine callFrom0 (c := r.toRowW.claim) hz hgens fun args hpre hlay ord hord => ?_
  obtain ⟨⟨vs, s₁⟩, hlaid⟩ := Option.isSome_iff_exists.mp (layAllW_isSome (P := w.params) (ord := ord) G.has args r.args s (pre_splitW hpre).1)
  have keeps := layAllW_keeps _ _ _ hlaid
  have rest := layAllW_rest _ _ _ hlaid
  obtain ⟨as, hrd, hin, hold⟩ := reads_layAllW hord _ _ _ hlaid hlay s₁.heap (fun _ _ e => e)
  have L : Laid r.records w s s₁ args vs as := ⟨⟨ord, hord, hlaid⟩, hrd, hin, hold, keeps, rest.1.trans hgens, rest.2.2.1⟩
  have G₁ := G.keeps hXk keeps
  obtain ⟨a, o, pm, cd, doc, dV, kV, h1, h2, h3, h4, h5⟩ := G₁.fn hdef
  have h := walk w s s₁ _ _ G₁ (hYk _ _ _ (hY w s y) keeps) a o pm cd doc dV kV h2 h3 h4 h5 (defOf_name hdef ▸ h1) L.gens args vs as hpre hlay L.reads L.well (L.low G.low)
  have hi := ident_freeW hu ha hap
  have hwi : r.toRowW.claim.within = [] := List.isEmpty_iff.mp k6
  refine ⟨vs, s₁, hlaid, wpN.bind (wpN.of (wpAny_nsGet G₁.T.g ?_))⟩
  rw [h1]
  refine wpN.bind (h.mono (fun v s' g => ?_) fun e s' g => ?_)
  · have z := g.laid (c := r.toRowW.claim) hsame hwi hi L
    exact wpN.of (wpAny_pure ⟨_, rfl, z.1, z.2.1, z.2.2, fun q => ⟨namesKept_of hT hg _ keeps g.2.1.old, noTable hwr q⟩⟩)
  · have z := g.laid (c := r.toRowW.claim) hsame hwi hi L
    exact ⟨z.1, z.2.1, z.2.2, fun q => ⟨namesKept_of hT hg _ keeps g.2.1.old, noTable hwr q⟩⟩

noncomputable def lawDef : DefRec := ((defOf vw PySem.Challenge.rw_oc0037_01.row.name).get (by kernel_rfl!)).1
theorem lawDef_eq : defOf vw PySem.Challenge.rw_oc0037_01.row.name = some (lawDef, []) := by kernel_rfl!
theorem lawDef_prog : PG.theDef PySem.Challenge.rw_oc0037_01.row.name = some (lawDef.params, lawDef.body, lawDef.scope) := by kernel_rfl!
theorem chains_ok : (chainsOk vw && opensWell PySem.Challenge.rw_oc0037_01.row.prog && (frees PySem.Challenge.rw_oc0037_01.row.toRowW && PySem.Challenge.rw_oc0037_01.row.within.isEmpty)) = true := by kernel_rfl!
theorem tables_whole : PySem.Challenge.rw_oc0037_01.row.prog.tablesWhole = true := by kernel_rfl!
theorem wit_pre : PySem.Challenge.rw_oc0037_01.row.toRowW.claim.pre [WData.list []] = true := by decide +kernel
theorem wit_lay : (WData.layableAll [WData.list []] && PySem.Challenge.rw_oc0037_01.row.toRowW.returnsAt [WData.list []]) = true := by decide +kernel
theorem hdz (walk : Walk0 vw (XL vw []) topK.says PySem.Challenge.rw_oc0037_01.row.toRowW lawDef []) : PySem.Challenge.rw_oc0037_01.Holds := by
  refine holds_law said fun sd => ?_
  exact holds0 (q := vw) top_left (Hook.of topK) (Hook.keeps topK) (fun s e => xl_of s (Bool.and_eq_true_iff.mp e).1) XL.keeps lawDef_eq lawDef_prog (by kernel_rfl!)
    (fun s e => recFacts_of (Bool.and_eq_true_iff.mp e).2) (by kernel_rfl!) sd chains_ok ⟨rfl, rfl, rfl, rfl, rfl, tables_whole⟩ ⟨_, wit_pre, wit_lay⟩ walk

theorem ba_mro : mroOf (.type "bytearray") = pure [.type "bytearray", .type "object"] := by rw [mroOf_type]; kernel_rfl
theorem ba_look_new : typeLookup (.type "bytearray") "__new__" = pure (some (.builtin "bytearray.__new__")) := by rw [typeLookup_type, builtinLookup_eq_fast]; kernel_rfl
theorem ba_made : Bind.madeBy (.type "bytearray") = pure (some "bytearray.__new__") := madeBy_type ba_mro ba_look_new (by decide +kernel)
theorem ba_sub : isSubtype (.type "bytearray") (.type "bytearray") = pure true := by rw [isSubtype_type]; kernel_rfl
theorem ba_slot_init : Slot "bytearray" "__init__" "bytearray.__init__" :=
  .of (owner := "bytearray") (n := "__init__") (by rw [typeLookup_type, builtinLookup_eq_fast]; kernel_rfl) (by decide +kernel) (by decide +kernel) (by decide +kernel)
    (by first | exact .inl (by decide +kernel) | exact .inr (by decide +kernel)) (by rw [isSubtype_type]; kernel_rfl)
theorem ba_called : TypeCalled "bytearray" "bytearray.__new__" "bytearray.__init__" :=
  ⟨by decide +kernel, by decide +kernel, ⟨_, _, ba_mro⟩, ba_made, by decide +kernel, ba_sub, ba_slot_init⟩
theorem ba_typeCall (a : Value) : checkTypeCall "bytearray" ⟨[a], []⟩ = pure () := by kernel_rfl
theorem ba_newCall (a : Value) : checkBuiltinCall "bytearray.__new__" ⟨[.type "bytearray", a], []⟩ = pure () := by kernel_rfl
theorem ba_entry_new : entryFor table "bytearray.__new__" = some Builtin.«list.__new__» :=
  entryFor_alias (id' := "list.__new__") (by rw [fastTable_eq_tree]; kernel_rfl) (by first | rfl | decide +kernel) (by decide +kernel) (by rw [fastTable_eq_tree]; kernel_rfl)
theorem ba_entry_init : entryFor table "bytearray.__init__" = some Builtin.«bytearray.__init__» := entryFor_of_tree (by kernel_rfl)
theorem ba_rel : typeLookup (.type "bytearray") "__release_buffer__" = pure (some (.builtin "bytearray.__release_buffer__")) := by rw [typeLookup_type, builtinLookup_eq_fast]; kernel_rfl
theorem ba_bind (v : Value) : Builtin.Bytes.bindOptional "bytearray.__init__" "bytearray" ["source", "encoding", "errors"] [v] [] = pure [some v, none, none] := by kernel_rfl
theorem nIfF {α : Type} {M : Model} {A : Around} {a b : Sem α} {Q : α → Shared → Prop} {E : Value → Shared → Prop} {s : Shared} (h : wpN M A b Q E s) : wpN M A (if false = true then a else b) Q E s := h
theorem ba_owners : Manifest.owners.lookup (String.ofList ['y', 'a', 'r', 'r', 'a', 'e', 't', 'y', 'b'].reverse) = some Manifest.sig_bytearray := by kernel_rfl
theorem ba_args (a b : Value) : argsOk "bytearray.__init__" ⟨[a, b], []⟩ := by
  unfold argsOk; rw [signature?_of (id := "bytearray.__init__") (n := ['_', '_', 't', 'i', 'n', 'i', '_', '_']) (o := ['y', 'a', 'r', 'r', 'a', 'e', 't', 'y', 'b']) (by kernel_rfl) ba_owners]; kernel_rfl
set_option maxRecDepth 1000000 in
theorem ba_owner : ("bytearray.__new__".splitOn ".__new__").headD "" = "bytearray" := by simp +decide [String.splitOn, String.splitOnAux]

section
variable {prog : Program} {w : World} {A : Around} {E : Value → Shared → Prop} {s : Shared}
theorem ba_own {M : Model} {a : Addr} {Q : Bool → Shared → Prop} (hT : s.TypeIs (.ref a) "bytearray") (h : Q false s) : wpAny M A (Builtin.Bytes.ownRelease (.ref a)) Q E s := by
  have key : ∀ x : String, x = "bytearray" → wpAny M A (isInstance (.ref a) (.type x)) (fun b s' => Q (!b) s') E s := fun x hx => by
    rw [hx]; exact wpAny_isInstance hT ba_sub h
  unfold Builtin.Bytes.ownRelease Builtin.Bytes.slotIsOwn
  refine wpAny_bind (wpAny_bind (wpAny_specialOf hT ba_rel ?_))
  dsimp only
  split
  · rename_i hx
    exact absurd hx (by decide +kernel)
  · exact wpAny_mono (key _ (by decide +kernel)) (fun _ _ x => wpAny_pure x) fun _ _ x => x
theorem ba_new (a : Value) {Q₁ : Value → Shared → Prop}
    (h : Q₁ (.ref s.heap.objs.size) { s with heap := s.heap.push { cls := .type "bytearray", data := .bytearray #[] } }) :
    codeAny (model prog w) A (.call (.builtin "bytearray.__new__") ⟨[.type "bytearray", a], []⟩) (wants Q₁ E) s := by
  refine codeAny_of_tree ?_
  show wpAny _ A.in1 (do checkBuiltinCall "bytearray.__new__" ⟨[.type "bytearray", a], []⟩; again (.builtin "bytearray.__new__" ⟨[.type "bytearray", a], []⟩)) _ _ s
  refine wpAny_bind (wpAny_of_eq (ba_newCall a) (wpAny_pure ⟨plainId_quiet ba_called.plain _, codeAny_builtin_stack ba_entry_new rfl fun p st => ?_⟩))
  rw [Around.under_plainId ba_called.plain _]
  have hsub := ba_sub
  have hown := ba_owner
  obtain ⟨hp, g, d, tk, os⟩ := s
  simp only [hown]
  wp_walk
  exact h
end

section
variable {prog : Program} {w : World} {A : Around} {E : Value → Shared → Prop} {h : Heap} {g : Array GenState} {d : Drawn} {t : Nat} {os : OsState}
abbrev baObj (b : List UInt8) : Obj := { cls := .type "bytearray", data := .bytearray b.toArray }
theorem ba_write {M : Model} {a : Addr} {b c : List UInt8} {f : Array UInt8 → Array UInt8} {Q : Unit → Shared → Prop} (ho : h.get? a = some (baObj b)) (hf : f b.toArray = c.toArray) (hn : c.length ≤ 100000)
    (hq : ∀ h', Heap.SameBut a h h' → h'.get? a = some (baObj c) → Q () ⟨h', g, d, t, os⟩) : wpAny M A (Builtin.Bytes.write (.ref a) f) Q E ⟨h, g, d, t, os⟩ := by
  show wpAny _ _ (updateBytearray a f) _ _ _
  unfold updateBytearray
  refine wpAny_bind (wpAny_load ho ?_)
  show wpAny _ _ (update a (Obj.mapBytearray f) >>= fun _ => lookBehind a) _ _ _
  refine wpAny_bind (wpAny_update ho ?_)
  have e : (h.update a (Obj.mapBytearray f)).get? a = some (baObj c) := by
    have := Heap.get?_update_self (Obj.mapBytearray f) ho rfl
    rw [this]
    show some ({ cls := .type "bytearray", data := .bytearray (f b.toArray) } : Obj) = _
    rw [hf]
  refine wpAny_lookBehind e ?_ (hq _ (Heap.SameBut.update ..) e)
  show (if c.toArray.size > sizeLine then some "bytearray:memory" else none) = none
  rw [if_neg]
  rw [sizeLine_eq]
  simp
  omega
theorem attempt_pure {α : Type} (a : α) : (pure a : Sem α).attempt = pure (.ok a) := rfl
theorem asStr_int (i : Int) (t : Tok) : asStr? (.int i t) = pure none := rfl
theorem special_int (i : Int) (t : Tok) : specialOf (.int i t) "__index__" = typeLookup (.type "int") "__index__" := rfl
theorem asIndex_int (i : Int) (t : Tok) : asIndex (.int i t) = pure i := rfl
theorem int_index : typeLookup (.type "int") "__index__" = pure (some (.builtin "int.__index__")) := by rw [typeLookup_type, builtinLookup_eq_fast]; kernel_rfl
theorem ba_init {n : Nat} {tk : Tok} {a : Addr} {Q : Fin → Shared → Prop} (ho : h.get? a = some (baObj [])) (hn : n ≤ 100000)
    (hq : ∀ h', Heap.SameBut a h h' → h'.get? a = some (baObj (List.replicate n 0)) → Q (.done (.ret .none)) ⟨h', g, d, t, os⟩) :
    wpN (model prog w) A (Builtin.«bytearray.__init__» ⟨[.ref a, .int n tk], []⟩) Q E ⟨h, g, d, t, os⟩ := by
  have hT : (⟨h, g, d, t, os⟩ : Shared).TypeIs (.ref a) "bytearray" := ⟨_, ho, rfl⟩
  unfold Builtin.«bytearray.__init__»
  dsimp only
  refine wpN.bind (wpN.of (ba_own hT ?_))
  refine nIfF ?_
  refine wpN.bind (wpN.of (wpAny_of_eq (ba_bind _) ?_))
  dsimp only
  refine wpN.bind (wpN.of (wpAny_of_eq (a := ()) rfl ?_))
  refine wpN.bind (wpN.of (wpAny_of_eq (a := ()) rfl ?_))
  refine wpN.bind ?_
  refine wpN.bind (wpN.exported ?_)
  refine wpN.of ?_
  show wpAny _ _ (Builtin.Bytes.exportsOf (.ref a) >>= fun k => pure (decide (k > 0))) _ _ _
  unfold Builtin.Bytes.exportsOf
  refine wpAny_bind (wpAny_bind (wpAny_load ho ?_))
  refine wpAny_pure (wpAny_pure ?_)
  show wpN _ _ (if false = true then _ else _) _ _ _
  refine nIfF (wpN.of ?_)
  have f1 : Builtin.Bytes.fitsIndex (n : Int) = true := by
    unfold Builtin.Bytes.fitsIndex
    simp
    omega
  have f2 : Builtin.Bytes.tooLong n = false := KBy.tooLong_not (by omega)
  refine wpAny_bind ?_
  refine ba_write (c := []) ho rfl (by simp) fun h₁ e₁ o₁ => ?_
  refine wpAny_bind ?_
  have q := asStr_int (n : Int) tk
  rw [q]
  refine wpAny_pure ?_
  simp only [Option.isSome_none, Bool.false_eq_true, if_false, pure_bind, special_int, int_index, Option.isSome_some, if_true, asIndex_int, attempt_pure, f1, Bool.not_true, Int.toNat_natCast, f2]
  rw [if_neg (by omega)]
  rw [if_neg (by simp; omega)]
  refine wpAny_bind (wpAny_rule ?_)
  by_cases h0 : (n : Int) > 0
  · rw [if_pos h0]
    refine wpAny_bind (ba_write (c := List.replicate n 0) o₁ (by simp) (by simpa using hn) fun h₂ e₂ o₂ => ?_)
    exact wpAny_pure (hq _ (e₁.trans e₂) o₂)
  · rw [if_neg h0]
    have : n = 0 := by omega
    subst this
    exact wpAny_pure (hq _ e₁ o₁)

/-- «bytearray(n)» -/
theorem ba_make {n : Nat} {tk : Tok} {Q : Value → Shared → Prop} (hn : n ≤ 100000)
    (hq : ∀ h', Heap.SameBut h.objs.size (h.push (baObj [])) h' → h'.get? h.objs.size = some (baObj (List.replicate n 0)) → Q (.ref h.objs.size) ⟨h', g, d, t, os⟩) :
    wpN (model prog w) A (call (.type "bytearray") [.int n tk]) Q E ⟨h, g, d, t, os⟩ := by
  have ft := ba_called
  have hmro := ba_mro
  have hmade := ft.made
  have hsub := ft.sub
  have h1 := ft.notType
  have h2 := ft.canCreate
  have hct := ba_typeCall (.int n tk)
  refine wpN.call (codeN_of_tree rfl (wpN.of ?_))
  show wpAny _ _ (callAny (.type "bytearray") _) _ _ _
  refine wpAny_pure ⟨Code.quiet_builtin _ (by decide +kernel), codeN_builtin (by decide +kernel) F.entry_type_call ?_⟩
  rw [Around.under_plain (weight_type_call_type "bytearray" [.int n tk] []) rfl]
  unfold Builtin.«type.__call__»
  dsimp only
  simp only [h1, h2, hct, Bool.false_eq_true, if_false, hmro, hmade, pure_bind, List.isEmpty_cons]
  refine wpN.bind (wpN.of (wpAny_holding (wpAny_call ?_)))
  refine codeAny_mono (ba_new (E := E) (Q₁ := fun obj s₁ => obj = .ref h.objs.size ∧ s₁ = ⟨h.push (baObj []), g, d, t, os⟩) _ ⟨rfl, rfl⟩) fun r s₁ hr => ?_
  cases r with
  | error e => exact hr
  | ok fl =>
    cases fl with
    | ret obj =>
      obtain ⟨rfl, rfl⟩ := hr
      have ho : (h.push (baObj [])).get? h.objs.size = some (baObj []) := Heap.get?_push_size _ rfl
      have hT : (⟨h.push (baObj []), g, d, t, os⟩ : Shared).TypeIs (.ref h.objs.size) "bytearray" := ⟨_, ho, rfl⟩
      show wpN _ _ (isInstance (.ref h.objs.size) (.type "bytearray") >>= _) _ _ _
      refine wpN.bind (wpN.of (wpAny_isInstance hT hsub ?_))
      show wpN _ _ (if (!true) = true then _ else _) _ _ _
      refine nIfF ?_
      refine wpN.bind (wpN.holding ?_)
      unfold callSpecial?
      refine wpN.bind (wpN.of (wpAny_specialOf hT ft.init.lookup ?_))
      dsimp only
      refine wpN.holding ?_
      refine wpN.bind (wpN.of (wpAny_of_eq (ft.init.bind _) ?_))
      dsimp only
      refine wpN.bind (wpN.call (codeN_call_builtin (by decide +kernel) ft.init.plain ba_entry_init (ft.init.check _ _ _ _ _ _ _ _ hT (ba_args _ _) ?_)))
      refine ba_init ho hn fun h' e' o' => ?_
      show wpN _ _ (pure _) _ _ _
      refine wpN.of (wpAny_pure ?_)
      exact wpN.of (wpAny_pure (hq h' e' o'))
    | _ => exact hr.elim
end

section
variable {M : Model} {A : Around} {E : Value → Shared → Prop} {s : Shared} {env : Env}
theorem wpN.keep {α : Type} {vs : List Value} {m : Sem α} {Q : α → Shared → Prop} (h : wpN M A m Q E s) : wpN M A (m.keep vs) Q E s :=
  fun Γ p i c t => by rw [Sem.wp_keep]; exact h Γ p i c t
theorem nCall {func : Expr} {args : List Expr} {pos : Pos} {Q : Value → Shared → Prop}
    (h : wpAny M A (eval func env) (fun f s₁ => wpN M A (callWith pos f [] (backTo pos (starEach args env)) []) Q E s₁) E s)
    (he : eval (.Call func args [] pos) env = (do callWith pos (← eval func env) [] (backTo pos (starEach args env)) (backToKw pos (keywordEach [] env)))) :
    wpN M A (eval (.Call func args [] pos) env) Q E s := by
  rw [he]; exact wpN.bind (wpN.of h)
theorem nTail {t : Sem Value} {Q : Value → Shared → Prop} (h : wpN M A t Q E s) : wpN M A (t >>= fun r => holding [r] point >>= fun _ => pure r) Q E s :=
  wpN.bind (h.mono (fun _ _ hr => wpN.of (wpAny_bind (wpAny_holding (wpAny_point (wpAny_pure hr))))) fun _ _ x => x)
theorem nCwT {pos : Pos} {T : String} {e : Expr} {rest : List Expr} {Q : Value → Shared → Prop}
    (h : wpAny M A (spliced (backTo pos (starEach (e :: rest) env))) (fun vs s₁ => wpN M A (call (.type T) vs) Q E s₁) E s)
    (he : starEach (e :: rest) env = (false, eval e env) :: starEach rest env) (hplain : (backTo pos (starEach rest env)).any (·.1) = false) :
    wpN M A (callWith pos (.type T) [] (backTo pos (starEach (e :: rest) env)) []) Q E s := by
  rw [he] at h ⊢
  have hp : (backTo pos ((false, eval e env) :: starEach rest env)).any (·.1) = false := by
    show (false || (backTo pos (starEach rest env)).any (·.1)) = false; rw [hplain]; rfl
  have ha : wpAny M A (evalArgs (.type T) true (backTo pos ((false, eval e env) :: starEach rest env)) []) (fun a s₁ => wpN M A (call (.type T) ([] ++ a.pos) a.kw) Q E s₁) E s := evalArgs_plain h
  unfold callWith
  refine wpN.bind (wpN.of (wpAny_holding (wpAny_mono ha (fun a s₁ h₁ => wpN.bind (wpN.of (wpAny_standAt ?_))) fun _ _ x => x)))
  simp only [hp, List.any_nil, Bool.or_false]
  exact wpN.bind (wpN.of (wpAny_pure (nTail h₁)))
theorem nCwF {w : World} {pos : Pos} {f : Addr} {e : Expr} {rest : List Expr} {Q : Value → Shared → Prop} {h₀ h : Heap} {L : Addr} {K : List Str} {vs : List (Option Value)} {news : List (Addr × Obj)} {mg mb : Str → Option Value}
    (_W : Wd h₀ L K vs news h) (_tp : Tp w mg mb h₀) (hk : keepIn (KF w) (.ref f) = true)
    (hq : wpAny M A (spliced (backTo pos (starEach (e :: rest) env))) (fun vs s₁ => (KF w).In s₁.heap ∧ wpN M A (call (.ref f) vs) Q E s₁) E s)
    (he : starEach (e :: rest) env = (false, eval e env) :: starEach rest env) (hplain : (backTo pos (starEach rest env)).any (·.1) = false) :
    wpN M A (callWith pos (.ref f) [] (backTo pos (starEach (e :: rest) env)) []) Q E s := by
  rw [he] at hq ⊢
  have hp : ((backTo pos ((false, eval e env) :: starEach rest env)).any (·.1) || ([] : List (Option Str × Sem Value)).any (·.1.isNone)) = false := by
    show ((false || (backTo pos (starEach rest env)).any (·.1)) || false) = false; rw [hplain]; rfl
  have ha : wpAny M A (evalArgs (.ref f) true (backTo pos ((false, eval e env) :: starEach rest env)) []) (fun a s₁ => (KF w).In s₁.heap ∧ wpN M A (call (.ref f) ([] ++ a.pos) a.kw) Q E s₁) E s := evalArgs_plain hq
  unfold callWith
  refine wpN.bind (wpN.of (wpAny_holding (wpAny_mono ha (fun a s₁ h₁ => wpN.bind (wpN.of (wpAny_standAt ?_))) fun _ _ x => x)))
  obtain ⟨k, hk', Lk⟩ := keeps_K (M := M) hk _ h₁.1
  simp only [hp]
  refine wpN.bind (wpN.of (Lk.here ?_))
  have marked (mk : Value) : wpN M A (callMarked mk (.ref f) ([] ++ a.pos) a.kw) Q E s₁ := by unfold callMarked; exact h₁.2.keep
  rcases hk' with rfl | rfl | rfl <;> dsimp only <;> first | exact nTail h₁.2 | (split <;> first | exact nTail h₁.2 | exact nTail (marked _))
theorem nAssign {x pos' value pos} {Q : Flow → Shared → Prop}
    (h : wpN M A (eval value env) (fun v s₁ => wpAny M A (storeName env x v) (fun _ => Q .next) E s₁) E s)
    (hs : swapsWith value (some (.Name x pos')) pos.line env = pure false) :
    wpN M A (exec (.Assign [.Name x pos'] value pos) env) Q E s := fun Γ p i c t => by
  simp only [exec_Assign_Name env x pos' value pos hs, Sem.wp_bind', Sem.wp_cmd_standAt, Sem.wp_bindName, Sem.wp_pure']
  exact Sem.wp_mono M Γ _ (fun v _ s₁ h₁ => h₁ Γ _ i) (fun _ _ _ h' => h') _ _ (h Γ _ i c t)
theorem nExecs {st rest} {Q : Flow → Shared → Prop}
    (h : wpN M A (exec st env) (fun f s' => match f with | .next => wpN M A (execs rest env) Q E s' | f => Q f s') E s) :
    wpN M A (execs (st :: rest) env) Q E s := fun Γ p i c t => by
  rw [execs_cons, Sem.wp_bind']
  refine Sem.wp_mono M Γ _ (fun f p' s' h' => ?_) (fun _ _ _ h' => h') _ _ (h Γ p i c t)
  cases f <;> first | exact h' Γ p' i c t | exact h'
theorem nExecs_at (n : Nat) {l : List Stmt} {Q : Flow → Shared → Prop} (h : wpN M A (execs (l.take n) env) (fun f s' => match f with | .next => wpN M A (execs (l.drop n) env) Q E s' | f => Q f s') E s) : wpN M A (execs l env) Q E s := fun Γ p i c t => by
  have z := wp_execs_app (M := M) (Γ := Γ) (env := env) (E := fun e _ s' => E e s') (l₂ := l.drop n) (Q := fun f _ s' => Q f s') (l.take n) p s (Sem.wp_mono M Γ _ (fun f p' s' hf => ?_) (fun _ _ _ x => x) p s (h Γ p i c t))
  · rwa [List.take_append_drop] at z
  · cases f with
    | next => exact hf Γ p' i c t
    | brk => exact hf
    | cont => exact hf
    | ret v => exact hf
end

section
variable {w : World} {mg mb : Str → Option Value} {A : Around} {E : Value → Shared → Prop} {Q : Value → Shared → Prop} {h : Heap} {g : Array GenState} {d : Drawn} {t : Nat} {os : OsState} {a : Addr} {vals : List Value} {binds : List (Str × Value)} {K : List Str} {vs : List (Option Value)}
theorem codeN_func {prog : Program} {w : World} {s : Shared} {R : Result → Shared → Prop} {body : List Stmt} {env : Env}
    (h : wpN (model prog w) (A.deeper env) (execs body env) (fun f s' => R (.ok (.ret (match f with | .ret v => v | _ => .none))) s') (fun _ _ => False) s) :
    codeN (model prog w) A (.func body env) R s := by
  refine codeN_of_tree rfl ?_
  show wpN _ (A.deeper env) (do point; match ← (execs body env).onRaise (leaving env) with | .ret v => ret v | _ => ret .none) _ _ s
  refine wpN.bind (wpN.of (wpAny_point (wpN.bind (wpN.onRaise (h.mono (fun f s' h' => ?_) fun _ _ h' => h'.elim)))))
  cases f <;> exact wpN.of (wpAny_pure h')
/-- a call of one of the top's functions, in the clean context -/
theorem zCallN (K : List Str) (vs : List (Option Value)) (binds : List (Str × Value)) (tp : Tp w mg mb h) (hr : A.depth < recursionLimit)
    (hf : fnAt w a = some (fdOf w a)) (hcd : codeIn (KF w) (fdOf w a).code (fdOf w a).qualname = true)
    (hbody : (fdOf w a).body = .stmts (bodyOf (fdOf w a))) (hbind : bindArgs (fdOf w a) ⟨vals, []⟩ = pure binds) (hz : binds.reverse = zipO K vs) (hK : K.Nodup)
    (hcell : ((fdOf w a).scope.names.all fun x => x.2 != .cell) = true) (hloc : (binds.all fun x => (fdOf w a).scope.names.lookup x.1 == some .local) = true)
    (henv : ∀ L, callEnv (fdOf w a) L a = fe w a L)
    (hco : (fdOf w a).scope.isCoroutine = false) (hgen : (fdOf w a).scope.isGenerator = false) (hk : (fdOf w a).scope.kind = .function)
    (hq : ∀ L h₁ t₁, Wd h L K vs [] h₁ → wpN (model PG w) (A.deeper (fe w a L)) (execs (bodyOf (fdOf w a)) (fe w a L))
      (fun f s' => Q (match f with | .ret v => v | _ => .none) s') (fun _ _ => False) ⟨h₁, g, d, t₁, os⟩) :
    wpN (model PG w) A (call (.ref a) vals) Q E ⟨h, g, d, t, os⟩ := by
  obtain ⟨o, ho, hd⟩ := fn_obj tp.X hf
  refine wpN.call (codeN_of_tree rfl (wpN.of ?_))
  show wpAny _ A.in1 (callAny (.ref a) ⟨vals, []⟩) _ _ _
  simp only [callAny]
  refine wpAny_bind (wpAny_load ho ?_)
  obtain ⟨c, oc, vs', tq, hc, hoc, hdc, hq'⟩ := codeRec_of tp.X hcd
  simp only [hd, callFunction, hco, hgen, hbody, hc]
  refine wpAny_bind (m := field (.ref c) 1) (wpAny_field hoc hdc hq' (wpAny_bind (wpAny_pure ?_)))
  rw [hbind]
  refine wpAny_bind (wpAny_pure (wpAny_bind ?_))
  rw [← hc]
  refine wpAny_newFunctionEnv (fun x hx e => ?_) (fun x hx => ?_) (fun h₀ hns hsb => ?_) hk
  · have := List.all_eq_true.mp hcell x hx
    rw [e] at this; cases this
  · exact beq_iff_eq.mp (List.all_eq_true.mp hloc x hx)
  · refine wpAny_bind (wpAny_enterFrame (tp.T.nolimit.fresh _ hsb) hr (wpAny_pure (And.intro rfl (codeN_func ?_))))
    have hkp : Kp h h₀ := fun b o e => hsb.extBut b o (Nat.ne_of_lt (Heap.lt_size e)) (Heap.get?_push_of_some _ e)
    have F : Fr h h.objs.size h₀ (fun x => binds.reverse.lookup x) := ⟨hns, hkp, Nat.le_refl _⟩
    have W : Wd h h.objs.size K vs [] h₀ := ⟨⟨_, F, fun x v l => by rw [hz]; exact l.lookup hK⟩, News.nil, List.nodup_nil, hK⟩
    have z := hq _ h₀ (t + binds.length) W
    have e := henv h.objs.size
    unfold callEnv at e
    rw [e]
    exact z
end

section
variable {w : World} {mg mb : Str → Option Value} {A : Around} {E : Value → Shared → Prop} {h₀ h : Heap} {g : Array GenState} {d : Drawn} {t : Nat} {os : OsState} {K : List Str} {vs : List (Option Value)} {news : List (Addr × Obj)}
abbrev rngObj (a b c : Int) (t u v : Tok) : Obj := { cls := .type "range", data := .fields #[.int a t, .int b u, .int c v] }
theorem zRange1 {L : Addr} {n : Int} {u : Tok} {Q : Value → Shared → Prop} (W : Wd h₀ L K vs news h)
    (hq : ∀ r u₁ u₂ u₃ h' t', Wd h₀ L K vs ((r, rngObj 0 n 1 u₁ u₂ u₃) :: news) h' → Q (.ref r) ⟨h', g, d, t', os⟩) : wpAny (model PG w) A (call (.type "range") [.int n u]) Q E ⟨h, g, d, t, os⟩ :=
  call_range_1 (s := ⟨h, g, d, t, os⟩) (hq _ _ _ _ _ _ (W.push _ rfl))
theorem zRange3 {L : Addr} {a b c : Int} {u₁ u₂ u₃ : Tok} {Q : Value → Shared → Prop} (W : Wd h₀ L K vs news h) (hc : c ≠ 0) (hs : c.natAbs < 1073741824)
    (hq : ∀ r h' t', Wd h₀ L K vs ((r, rngObj a b c u₁ u₂ u₃) :: news) h' → Q (.ref r) ⟨h', g, d, t', os⟩) : wpAny (model PG w) A (call (.type "range") [.int a u₁, .int b u₂, .int c u₃]) Q E ⟨h, g, d, t, os⟩ :=
  call_range_3 (s := ⟨h, g, d, t, os⟩) hc (hq _ _ _ (W.push _ rfl)) (.inl (PyProof.noPylong_small hs))

/-- a for over a range -/
theorem zForR (L : Addr) {x : Str} {px : Pos} {body : List Stmt} {env : Env} {Q : Flow → Shared → Prop} {r : Addr} {a b c : Int} {u₁ u₂ u₃ : Tok} (n : Nat) (I : Nat → List (Option Value) → List (Addr × Obj) → Prop)
    (hh : A.handled = none) (hL : env.locals = L) (hkx : env.kindOf x = some .local) (hkf : (env.scope.kind == .class || (env.scope.kind == .module && env.locals != env.globals)) = false)
    (hr : (r, rngObj a b c u₁ u₂ u₃) ∈ news) (hsmall : Builtin.Range.small a b c = true) (hn : Builtin.Range.rangeSize a b c = n) (W : Wd h₀ L K vs news h)
    (h0 : I 0 vs news)
    (step : ∀ i tk vs₁ news₁ it ito, i < n → I i vs₁ news₁ → ∃ vs₂, Put K vs₁ x (.int (a + i * c) tk) vs₂ ∧ ∀ h₁ t₁, Wd h₀ L K vs₂ ((it, ito) :: news₁) h₁ →
      wpAny (model PG w) A (execs body env) (fun f s' => match f with
        | .next | .cont => ∃ vs' news' h' t', s' = ⟨h', g, d, t', os⟩ ∧ Wd h₀ L K vs' ((it, ito) :: news') h' ∧ I (i + 1) vs' news'
        | .brk => Q .next s'
        | .ret v => Q (.ret v) s') (fun _ _ => False) ⟨h₁, g, d, t₁, os⟩)
    (done : ∀ vs' news' h' t', Wd h₀ L K vs' news' h' → I n vs' news' → Q .next ⟨h', g, d, t', os⟩) :
    wpAny (model PG w) A (pyIter (.ref r)) (fun it s₂ => codeAny (model PG w) A (.forLoop (.Name x px) it body [] env) (fun r s' => match r with | .ok f => Q f s' | .error e => cameBackBy (model PG w) A env E e s') s₂) E ⟨h, g, d, t, os⟩ := by
  refine wpAny_pyIter_range (s := ⟨h, g, d, t, os⟩) (W.get hr) hsmall ?_
  rw [hn]
  have W₁ := W.push { cls := .type "range_iterator", data := .fields #[rawInt a, rawInt (n : Int), rawInt c] } rfl
  refine codeAny_forLoop (fun k s => ∃ i vs' news' ito h' t', k + i = n ∧ s = ⟨h', g, d, t', os⟩ ∧ Wd h₀ L K vs' ((h.objs.size, ito) :: news') h' ∧ ito = { cls := .type "range_iterator", data := .fields #[rawInt (a + i * c), rawInt ((n : Int) - i), rawInt c] } ∧ I i vs' news') ?_ n ⟨0, vs, news, _, _, t, by omega, rfl, W₁, by simp, h0⟩
  rintro k s ⟨i, vs', news', ito, h', t', hk, rfl, W', rfl, hI⟩
  have hit : IsRangeIter h' h.objs.size (a + i * c) ((n : Int) - i) c := W'.get (.head _)
  by_cases hx : i < n
  · refine wpAny_pyNext_range_item (s := ⟨h', g, d, t', os⟩) hit (by omega) fun h'' hit'' hs => ?_
    have W'' := W'.same hs hit''
    dsimp only
    obtain ⟨vs₂, hp, hstep⟩ := step i t' vs' news' h.objs.size { cls := .type "range_iterator", data := .fields #[rawInt (a + i * c + c), rawInt ((n : Int) - i - 1), rawInt c] } hx hI
    refine zAsN ?_
    obtain ⟨m, F, hm⟩ := W''.fr
    subst hL
    refine wpAny_storeName_local hkx F.ns (fun h₃ hn₃ hs₃ => ?_) hkf
    have W₃ : Wd h₀ env.locals K vs₂ ((h.objs.size, { cls := .type "range_iterator", data := .fields #[rawInt (a + i * c + c), rawInt ((n : Int) - i - 1), rawInt c] }) :: news') h₃ := ⟨⟨_, F.set hn₃ hs₃, fun y u l => by
      rcases hp.back W''.kn l with ⟨rfl, rfl⟩ | ⟨hne, l'⟩
      · exact if_pos rfl
      · show (if y = x then some _ else m y) = some u
        rw [if_neg hne]; exact hm y u l'⟩, W''.nw.set hs₃, W''.nd, W''.kn⟩
    refine wpAny_mono (hstep h₃ _ W₃) (fun f s' hf => ?_) fun _ _ e => e.elim
    have e1 : a + (i : Int) * c + c = a + ((i + 1 : Nat) : Int) * c := by push_cast; rw [Int.add_mul, Int.one_mul, Int.add_assoc]
    have e2 : (n : Int) - (i : Int) - 1 = (n : Int) - ((i + 1 : Nat) : Int) := by push_cast; omega
    cases f with
    | next =>
      obtain ⟨v4, n4, h4, t4, rfl, W4, I4⟩ := hf
      exact ⟨k - 1, by omega, i + 1, v4, n4, _, h4, t4, by omega, rfl, W4, by rw [e1, e2], I4⟩
    | cont =>
      obtain ⟨v4, n4, h4, t4, rfl, W4, I4⟩ := hf
      exact ⟨k - 1, by omega, i + 1, v4, n4, _, h4, t4, by omega, rfl, W4, by rw [e1, e2], I4⟩
    | brk => exact hf
    | ret v => exact hf
  · refine wpAny_pyNext_range_end (s := ⟨h', g, d, t', os⟩) hh hit (by omega) fun h'' he => ?_
    dsimp only
    refine wpAny_execs_nil ?_
    have : i = n := by omega
    subst this
    exact done _ _ _ _ (W'.extBut he) hI
end

theorem ba_slot_set : Slot "bytearray" "__setitem__" "bytearray.__setitem__" :=
  .of (owner := "bytearray") (n := "__setitem__") (by rw [typeLookup_type, builtinLookup_eq_fast]; kernel_rfl) (by decide +kernel) (by decide +kernel) (by decide +kernel)
    (by first | exact .inl (by decide +kernel) | exact .inr (by decide +kernel)) (by rw [isSubtype_type]; kernel_rfl)
theorem ba_entry_set : entryFor table "bytearray.__setitem__" = some Builtin.«bytearray.__setitem__» := entryFor_of_tree (by kernel_rfl)
theorem ba_args_set (a b c : Value) : argsOk "bytearray.__setitem__" ⟨[a, b, c], []⟩ := by
  unfold argsOk; rw [signature?_of (id := "bytearray.__setitem__") (n := ['_', '_', 'm', 'e', 't', 'i', 't', 'e', 's', '_', '_']) (o := ['y', 'a', 'r', 'r', 'a', 'e', 't', 'y', 'b']) (by kernel_rfl) ba_owners]; kernel_rfl
theorem ba_no_bytes : typeLookup (.type "bytearray") "__bytes__" = pure none := by rw [typeLookup_type, builtinLookup_eq_fast]; kernel_rfl
theorem ba_no_index : typeLookup (.type "bytearray") "__index__" = pure none := by rw [typeLookup_type, builtinLookup_eq_fast]; kernel_rfl
theorem ba_buffer : typeLookup (.type "bytearray") "__buffer__" = pure (some (.builtin "bytearray.__buffer__")) := by rw [typeLookup_type, builtinLookup_eq_fast]; kernel_rfl

section
variable {w : World} {A : Around} {E : Value → Shared → Prop} {h : Heap} {g : Array GenState} {d : Drawn} {t : Nat} {os : OsState}
theorem ba_payload {M : Model} {a : Addr} {b : List UInt8} {s : Shared} {Q : Array UInt8 → Shared → Prop} (ho : s.heap.get? a = some (baObj b)) (hq : Q b.toArray s) : wpAny M A (Builtin.Bytes.payload (.ref a)) Q E s := by
  unfold Builtin.Bytes.payload Builtin.Bytes.payload?
  refine wpAny_bind (wpAny_bind (wpAny_load ho ?_))
  exact wpAny_pure (wpAny_pure hq)
theorem subscript_int {M : Model} {s : Shared} {k : Int} {u : Tok} {Q : Option Int → Shared → Prop} (h0 : 0 ≤ k) (h1 : k ≤ 100000) (hq : Q (some k) s) : wpAny M A (Builtin.Bytes.subscript? (.int k u)) Q E s := by
  unfold Builtin.Bytes.subscript?
  have f1 : Builtin.Bytes.fitsIndex k = true := by
    unfold Builtin.Bytes.fitsIndex
    simp
    omega
  simp only [special_int, int_index, pure_bind, Option.isNone_some, Bool.false_eq_true, if_false, asIndex_int, f1, Bool.not_true]
  exact wpAny_pure hq
theorem ba_set {a : Addr} {b : List UInt8} {k : Nat} {v : UInt8} {u u' : Tok} {Q : Unit → Shared → Prop} (ho : h.get? a = some (baObj b)) (hk : k < b.length) (hb : b.length ≤ 100000)
    (hq : ∀ h', Heap.SameBut a h h' → h'.get? a = some (baObj (b.set k v)) → Q () ⟨h', g, d, t, os⟩) : wpAny (model PG w) A (setItem (.ref a) (.int k u) (.int v.toNat u')) Q E ⟨h, g, d, t, os⟩ := by
  have hT : (⟨h, g, d, t, os⟩ : Shared).TypeIs (.ref a) "bytearray" := ⟨_, ho, rfl⟩
  unfold setItem
  try with_reducible refine wpAny_holding ?_
  first | refine wpAny_bind (wpAny_pure ?_) | skip
  refine wpAny_bind (wpAny_sequenceKey hT (by decide) ?_)
  refine wpAny_bind (wpAny_callSpecial?_slot (name := Str.ofString "__setitem__") hT ba_slot_set
    (wpAny_call_entry ba_slot_set hT ba_entry_set ?_ (ba_args_set _ _ _)))
  unfold Builtin.«bytearray.__setitem__»
  simp only [List.isEmpty_nil, Bool.not_true, Bool.false_eq_true, if_false]
  refine wpAny_bind ?_
  refine subscript_int ?_ ?_ ?_
  · omega
  · omega
  dsimp only
  refine wpAny_bind ?_
  have hv : v.toNat < 256 := UInt8.toNat_lt v
  unfold Builtin.Bytes.byteValue
  simp only [asIndex_int, pure_bind]
  refine bm_if_false (by simp only [Bool.or_eq_false_iff, decide_eq_false_iff_not]; omega) ?_
  refine wpAny_pure ?_
  refine wpAny_bind (ba_payload ho ?_)
  have e : seqIndex? (k : Int) b.toArray.size = some k := by
    have hn : ¬ (k : Int) < 0 := by omega
    have hb : (k : Int) < b.length := by omega
    simp [seqIndex?, hn, hb]
  rw [e]
  dsimp only
  refine wpAny_bind (ba_write (c := b.set k v) ho (by simp) (by simpa using hb) fun h' e' o' => ?_)
  exact wpAny_pure ⟨_, rfl, wpAny_pure (hq h' e' o')⟩
theorem ba_buf {M : Model} {s : Shared} {a : Addr} {b : List UInt8} {id : String} {full : Bool} {Q : Option (Array UInt8) → Shared → Prop} (ho : s.heap.get? a = some (baObj b)) (hq : Q (some b.toArray) s) : wpAny M A (Builtin.Bytes.buffer? id (.ref a) full) Q E s := by
  have hT : s.TypeIs (.ref a) "bytearray" := ⟨_, ho, rfl⟩
  have key : ∀ x : String, x = "bytearray" → ∀ {Q : Bool → Shared → Prop}, Q true s → wpAny M A (isInstance (.ref a) (.type x)) Q E s := fun x hx Q h => by
    rw [hx]; exact wpAny_isInstance hT ba_sub h
  unfold Builtin.Bytes.buffer?
  refine wpAny_bind (wpAny_specialOf hT ba_buffer ?_)
  dsimp only
  refine wpAny_bind ?_
  unfold Builtin.Bytes.slotIsOwn
  refine wpAny_bind (wpAny_specialOf hT ba_buffer ?_)
  dsimp only
  split
  · rename_i hx
    exact absurd hx (by decide +kernel)
  refine key _ (by decide +kernel) ?_
  refine bm_if_false rfl ?_
  refine wpAny_bind (wpAny_specialOf hT ba_buffer ?_)
  refine wpAny_bind (ba_own hT ?_)
  refine bm_if_false rfl ?_
  exact wpAny_bind (ba_payload ho (wpAny_pure hq))
/-- «bytes(b)» of a bytearray -/
theorem ba_bytes {a : Addr} {b : List UInt8} {Q : Value → Shared → Prop} (ho : h.get? a = some (baObj b)) (hb : b.length ≤ 100000)
    (hq : ∀ u t', Q (.bytes b.toArray u) ⟨h, g, d, t', os⟩) : wpAny (model PG w) A (call (.type "bytes") [.ref a]) Q E ⟨h, g, d, t, os⟩ := by
  have hT : (⟨h, g, d, t, os⟩ : Shared).TypeIs (.ref a) "bytearray" := ⟨_, ho, rfl⟩
  refine callType_codes (Q₁ := fun obj s₁ => s₁.TypeIs obj "bytes" ∧ Q obj s₁) F.bm_called (F.bm_typeCall _) F.entry_object_init ?_ fun obj s₁ h₁ => 
    ⟨h₁.1, F.args_object_init_2 obj _, object_init_meets F.bm_called.init.lookup F.bm_called.made (by decide) _ w A.in1 _ s₁ ⟨h₁.1, rfl, h₁.2⟩⟩
  refine codeAny_of_tree ?_
  show wpAny _ A.in1.in1 (do checkBuiltinCall "bytes.__new__" ⟨[.type "bytes", .ref a], []⟩; again (.builtin "bytes.__new__" ⟨[.type "bytes", .ref a], []⟩)) _ _ _
  refine wpAny_bind (wpAny_of_eq (F.bm_newCall _) (wpAny_pure ⟨plainId_quiet F.bm_plain _, codeAny_builtin F.bm_entry ?_⟩))
  unfold Builtin.«bytes.__new__»
  refine wpAny_bind (wpAny_of_eq (a := true) rfl ?_)
  refine bm_if_false rfl ?_
  refine wpAny_bind (wpAny_of_eq F.bm_sub ?_)
  refine bm_if_false rfl ?_
  refine wpAny_bind (wpAny_of_eq (F.bm_bind _) ?_)
  refine wpAny_bind (wpAny_of_eq (a := ()) rfl ?_)
  refine wpAny_bind (wpAny_of_eq (a := ()) rfl ?_)
  refine bm_if_false rfl ?_
  refine wpAny_bind (wpAny_specialOf hT ba_no_bytes ?_)
  refine wpAny_bind (wpAny_bind ?_)
  show wpAny _ _ (load a >>= _) _ _ _
  refine wpAny_bind (wpAny_load ho ?_)
  refine wpAny_pure (wpAny_pure ?_)
  refine bm_if_false rfl ?_
  refine wpAny_bind (wpAny_specialOf hT ba_no_index ?_)
  refine bm_if_true rfl ?_
  show wpAny _ _ (Builtin.Bytes.buffer? "bytes.__new__" (.ref a) true >>= _) _ _ _
  refine wpAny_bind (ba_buf ho ?_)
  show wpAny _ _ (rule "bytes.__new__.bytes-like" >>= _) _ _ _
  refine wpAny_bind (wpAny_rule ?_)
  refine wpAny_bind (wpAny_mkBytes ?_ (by rw [sizeLine_eq]; simp; omega))
  show wpAny _ _ (ret _) _ _ _
  exact wpAny_pure ⟨PySem.W.typeIs_bytes _ _ _, hq _ _⟩
end

section
variable {w : World} {A : Around} {E : Value → Shared → Prop} {h : Heap} {g : Array GenState} {d : Drawn} {t : Nat} {os : OsState} {a b : Int} {u u' : Tok} {Q : Value → Shared → Prop}
theorem zAddI (hq : ∀ u₁ t', Q (.int (a + b) u₁) ⟨h, g, d, t', os⟩) : wpAny (model PG w) A (binaryOp .Add (.int a u) (.int b u')) Q E ⟨h, g, d, t, os⟩ := PyProof.Rows.add_int (s := ⟨h, g, d, t, os⟩) (hq _ _)
theorem zSubI (hq : ∀ u₁ t', Q (.int (a - b) u₁) ⟨h, g, d, t', os⟩) : wpAny (model PG w) A (binaryOp .Sub (.int a u) (.int b u')) Q E ⟨h, g, d, t, os⟩ := PyProof.Rows.sub_int (s := ⟨h, g, d, t, os⟩) (hq _ _)
theorem zLenB {l : List UInt8} (hl : l.length ≤ 100000) (hq : ∀ u₁ t', Q (.int l.length u₁) ⟨h, g, d, t', os⟩) : wpAny (model PG w) A (call (.builtin "len") [.bytes l.toArray u]) Q E ⟨h, g, d, t, os⟩ :=
  len_bytes (s := ⟨h, g, d, t, os⟩) (by simp; omega) (by simpa using hq _ _)
theorem zGetB {value slice : Expr} {l : List UInt8} {k : Nat} {c : UInt8} {i : Int} (hi : i = k) (hl : l.length ≤ 100000) (hk : l[k]? = some c) (hq : ∀ u₁ t', Q (.int c.toNat u₁) ⟨h, g, d, t', os⟩)
    (hs : subscripted slice false (.bytes l.toArray u) (.int i u') = operate [.bytes l.toArray u, .int i u'] (getItem (.bytes l.toArray u) (.int i u'))) : wpAny (model PG w) A (subscriptTail value slice (.bytes l.toArray u) (.int i u')) Q E ⟨h, g, d, t, os⟩ := by
  subst hi
  obtain ⟨hlt, e⟩ := List.getElem?_eq_some_iff.mp hk
  refine tail_any (s := ⟨h, g, d, t, os⟩) (typeIs_bytes _ _ _) FB.slot_bytes_getitem.lookup (getItem_bytes (s := ⟨h, g, d, t, os⟩) (by omega) (by omega) (by omega) ?_) hs
  have : l.getD (k : Int).toNat 0 = c := by simp [List.getD, hk]
  rw [this]
  exact hq _ _
theorem zSetB {B : Addr} {b : List UInt8} {k : Nat} {i : Int} {v : UInt8} {Q : Unit → Shared → Prop} (hi : i = k) (ho : h.get? B = some (baObj b)) (hk : k < b.length) (hb : b.length ≤ 100000)
    (hq : ∀ h', Heap.SameBut B h h' → h'.get? B = some (baObj (b.set k v)) → Q () ⟨h', g, d, t, os⟩) : wpAny (model PG w) A (setItem (.ref B) (.int i u) (.int v.toNat u')) Q E ⟨h, g, d, t, os⟩ := by
  subst hi
  exact ba_set ho hk hb hq
end
--MACRO
local macro_rules | `(tactic| none_booked) => `(tactic| first
  | ((with_reducible show wpAny _ _ (binaryOp _ (Value.int _ _) (Value.int _ _)) _ _ _); first | (with_reducible refine zAddI ?_; intro _ _) | (with_reducible refine zSubI ?_; intro _ _))
  | ((with_reducible show wpAny _ _ (exec (PySem.Stmt.Assign [PySem.Expr.Subscript _ _ _] _ _) _) _ _ _); with_reducible refine wpAny_Assign_Subscript ?_ (by kernel_rfl!)))
--END

/-- where the octets go -/
theorem swap_at {a b : List UInt8} (hab : a.length = b.length) {i j : Nat} (hi : i < 2) (hj : j < a.length) : (a.reverse ++ b.reverse)[i * a.length + a.length - 1 - j]? = (a ++ b)[i * a.length + j]? := by
  have hi' : i = 0 ∨ i = 1 := by omega
  rcases hi' with rfl | rfl
  · rw [List.getElem?_append_left (by simp; omega), List.getElem?_append_left (by omega), List.getElem?_reverse (by omega)]
    congr 1; omega
  · rw [List.getElem?_append_right (by simp; omega), List.getElem?_append_right (by omega), List.getElem?_reverse (by simp; omega)]
    congr 1; simp; omega
theorem range_two {n : Nat} (h0 : 0 < n) : Builtin.Range.rangeSize 0 ((n + n : Nat) : Int) n = (2 : Nat) := by
  unfold Builtin.Range.rangeSize
  rw [if_pos (by omega), if_pos (by omega)]
  have : ((n + n : Nat) : Int) - 0 - 1 = (n : Int) - 1 + 1 * n := by push_cast; omega
  rw [this, Int.add_mul_ediv_right _ _ (by omega), Int.ediv_eq_zero_of_lt (by omega) (by omega)]
  rfl

def swInv (T : List UInt8) (n i j : Nat) (c : List UInt8) : Prop := c.length = T.length ∧ ∀ p, (p < i * n ∨ (i * n + n - j ≤ p ∧ p < i * n + n)) → c[p]? = T[p]?

section
variable {w : World} {mg mb : Str → Option Value} {A : Around} {E : Value → Shared → Prop} {h : Heap} {g : Array GenState} {d : Drawn} {t : Nat} {os : OsState}
theorem byteswap_ab {a b : List UInt8} {u u' : Tok} {Q : Value → Shared → Prop} (tp : Tp w mg mb h) (hr : A.depth + 2 < recursionLimit) (hh : A.handled = none) (hab : a.length = b.length) (h0 : 0 < a.length) (hz : a.length ≤ 1000)
    (hq : ∀ h' k u₁, Kp h h' → Q (.bytes (a.reverse ++ b.reverse).toArray u₁) ⟨h', g, d, k, os⟩) :
    wpN (model PG w) A (call (.ref 122) [.bytes (a ++ b).toArray u, .int a.length u']) Q E ⟨h, g, d, t, os⟩ := by
  refine zCallN ["width", "data", "swapped_data", "i", "j"] [some (.int a.length u'), some (.bytes (a ++ b).toArray u), none, none, none] [("data", .bytes (a ++ b).toArray u), ("width", .int a.length u')] tp (by omega) (by kernel_rfl!) (by kernel_rfl!) (by kernel_rfl!) (by kernel_rfl!) (by kernel_rfl!) (by decide +kernel) (by kernel_rfl!) (by kernel_rfl!) (fun _ => by kernel_rfl!) (by kernel_rfl!) (by kernel_rfl!) (by kernel_rfl!) ?_
  intro L h₁ t₁ W
  have hl : (a ++ b).length ≤ 100000 := by simp; omega
  conv => arg 3; arg 1; whnf
  refine nExecs (nAssign (nCall ?_ (by kernel_rfl!)) (by kernel_rfl!))
  repeat none_booked
  refine nCwT ?_ (by kernel_rfl!) (by kernel_rfl!)
  repeat none_booked
  refine zLenB hl fun _ _ => ?_
  repeat none_booked
  refine ba_make hl fun h₂ hs₂ ho₂ => ?_
  have W₂ := (W.push (baObj []) rfl).same hs₂ ho₂
  clear W
  repeat none_booked
  refine wpN.of ?_
  repeat none_booked
  rename Wd _ _ _ _ _ _ => W3
  refine wpAny_For ?_ (by intro _; rfl)
  repeat none_booked
  refine zLenB hl fun _ _ => ?_
  repeat none_booked
  refine zRange3 W3 (by omega) (by omega) fun R h₃ t₃ W4 => ?_
  clear W₂ W3
  have hlen : ((a ++ b).length : Int) = ((a.length + a.length : Nat) : Int) := by rw [List.length_append, ← hab]
  have hsz := range_two h0
  rw [← hlen] at hsz
  generalize hT : a.reverse ++ b.reverse = T at hq
  have hTl : T.length = a.length + a.length := by rw [← hT]; simp; omega
  have hsm : Builtin.Range.small 0 ((a ++ b).length : Int) a.length = true := by
    unfold Builtin.Range.small
    rw [hsz]
    simp only [Builtin.Range.rangeFitsLong, Bool.and_eq_true, Bool.or_eq_true, decide_eq_true_eq]
    rw [if_pos (by omega)]
    simp only [Bool.and_eq_true, decide_eq_true_eq]
    omega
  refine zForR L 2 (fun i vs' news' => ∃ iv jv c, vs' = [some (.int a.length u'), some (.bytes (a ++ b).toArray u), some (.ref h₁.objs.size), iv, jv] ∧ news' = [(R, rngObj 0 ((a ++ b).length : Int) a.length _ _ _), (h₁.objs.size, baObj c)] ∧ swInv T a.length i 0 c)
    hh rfl (by kernel_rfl!) (by kernel_rfl!) (List.mem_cons_self) hsm hsz W4 ⟨none, none, List.replicate (a ++ b).length 0, rfl, rfl, by simp; omega, fun p hp => by omega⟩ ?_ ?_
  · rintro i tk vs' news' it ito hi ⟨iv, jv, c, rfl, rfl, hc⟩
    refine ⟨_, by repeat (with_reducible first | apply Put.head | apply Put.tail), fun h₅ t₅ W5 => ?_⟩
    repeat none_booked
    refine wpAny_For ?_ (by intro _; rfl)
    repeat none_booked
    refine zRange1 W5 fun R2 u₁ u₂ u₃ h₆ t₆ W6 => ?_
    clear W4 W5
    refine zForR L a.length (fun j vs' news' => ∃ jv c, vs' = [some (.int a.length u'), some (.bytes (a ++ b).toArray u), some (.ref h₁.objs.size), some (.int (0 + i * a.length) tk), jv] ∧ news' = [(R2, rngObj 0 a.length 1 u₁ u₂ u₃), (it, ito), (R, rngObj 0 ((a ++ b).length : Int) a.length _ _ _), (h₁.objs.size, baObj c)] ∧ swInv T a.length i j c)
      hh rfl (by kernel_rfl!) (by kernel_rfl!) (List.mem_cons_self) (small_one (by omega) (by omega) (by omega) (by omega)) (by rw [rangeSize_one, if_pos (by omega)]; omega) W6 ⟨_, c, rfl, rfl, hc⟩ ?_ ?_
    · rintro j tk2 vs' news' it2 ito2 hj ⟨jv, c, rfl, rfl, hc⟩
      refine ⟨_, by repeat (with_reducible first | apply Put.head | apply Put.tail), fun h₇ t₇ W7 => ?_⟩
      clear W6
      obtain ⟨v, hv⟩ : ∃ v, (a ++ b)[i * a.length + j]? = some v := by
        refine ⟨_, List.getElem?_eq_getElem ?_⟩
        have : i * a.length ≤ 1 * a.length := Nat.mul_le_mul_right _ (by omega)
        simp; omega
      have him : i * a.length ≤ 1 * a.length := Nat.mul_le_mul_right _ (by omega)
      have hcast : ((i * a.length : Nat) : Int) = (i : Int) * a.length := by push_cast; rfl
      repeat none_booked
      refine zGetB (k := i * a.length + j) (by omega) hl hv (fun _ _ => ?_) rfl
      repeat none_booked
      refine zSetB (k := i * a.length + a.length - 1 - j) (by omega) (W7.get (by repeat (with_reducible first | apply List.mem_cons_self | apply List.mem_cons_of_mem))) (by rw [hc.1]; omega) (by rw [hc.1]; omega) fun h₈ hs₈ ho₈ => ?_
      have W8 := Wd.upd (pre := [(it2, ito2), (R2, _), (it, ito), (R, _)]) W7 hs₈ ho₈
      repeat none_booked
      refine ⟨_, _, _, _, rfl, W8, _, _, rfl, rfl, by rw [List.length_set]; exact hc.1, fun p hp => ?_⟩
      by_cases hpe : p = i * a.length + a.length - 1 - j
      · subst hpe
        rw [List.getElem?_set_self (by rw [hc.1]; omega), ← hT, swap_at hab hi hj, hv]
      · rw [List.getElem?_set_ne (fun e => hpe e.symm)]
        exact hc.2 p (by omega)
    · rintro vs' news' h₇ t₇ W7 ⟨jv, c, rfl, rfl, hc⟩
      repeat none_booked
      refine ⟨_, _, _, _, rfl, W7.sub (List.sublist_cons_self _ _), _, _, c, rfl, rfl, hc.1, fun p hp => hc.2 p ?_⟩
      rw [Nat.succ_mul] at hp
      omega
  · rintro vs' news' h₅ t₅ W5 ⟨iv, jv, c, rfl, rfl, hc⟩
    have hcT : c = T := List.ext_getElem? fun p => by
      by_cases hp : p < 2 * a.length
      · exact hc.2 p (.inl hp)
      · rw [List.getElem?_eq_none (by rw [hc.1]; omega), List.getElem?_eq_none (by omega)]
    subst hcT
    repeat none_booked
    refine ba_bytes (W5.get (by repeat (with_reducible first | apply List.mem_cons_self | apply List.mem_cons_of_mem))) (by omega) fun _ _ => ?_
    exact hq _ _ _ W5.keep
end

/-- the frames below, each an object of the world -/
def FrsOk : List Env → List (Addr × Obj) → Prop
  | [], [] => True
  | env :: r, (a, o) :: rs => env.scope.kind ≠ .module ∧ env.frame = some a ∧ (∃ es n, o.data = .dict es n) ∧ FrsOk r rs
  | _, _ => False
inductive SlEq : List (Addr × Obj) → List (Addr × Obj) → Prop
  | nil : SlEq [] []
  | cons {a o sl r r'} : SlEq r r' → SlEq ((a, o) :: r) ((a, { o with slots := sl }) :: r')
theorem SlEq.refl : ∀ l, SlEq l l
  | [] => .nil
  | (_, o) :: r => SlEq.cons (sl := o.slots) (SlEq.refl r)
theorem SlEq.trans {a b c : List (Addr × Obj)} (x : SlEq a b) (y : SlEq b c) : SlEq a c := by
  induction x generalizing c with
  | nil => exact y
  | cons _ ih => cases y with | cons y => exact .cons (ih y)
theorem SlEq.ok {l l' : List (Addr × Obj)} (x : SlEq l l') : ∀ {envs : List Env}, FrsOk envs l → FrsOk envs l' := by
  induction x with
  | nil => intro envs h; exact h
  | cons _ ih =>
    intro envs h
    cases envs with
    | nil => exact h
    | cons e r => exact ⟨h.1, h.2.1, h.2.2.1, ih h.2.2.2⟩
theorem SlEq.addrs {l l' : List (Addr × Obj)} (x : SlEq l l') : l'.map (·.1) = l.map (·.1) := by
  induction x with
  | nil => rfl
  | cons _ ih => rw [List.map_cons, List.map_cons, ih]

def IsX (ob : Obj) (tb c : Value) : Prop := ob.cls = .type "IndexError" ∧ ∃ t, ob.data = .fields #[t, tb, c, .none, .bool false, .none]
def IsTb (o : Obj) (fl : Value) : Prop := ∃ ts, o.data = .fields ts ∧ ts[3]? = some fl

section
variable {M : Model} {A : Around} {E : Value → Shared → Prop} {B h : Heap} {g : Array GenState} {d : Drawn} {t : Nat} {os : OsState} {L a : Addr} {K : List Str} {vs : List (Option Value)} {pre mid news frs : List (Addr × Obj)}
  {name : Str} {scope : Scope} {cd : Value} {outer : List Env} {e tb : Addr} {ob otb : Obj} {c : Value}

theorem FrsOk.frames : ∀ {envs : List Env} {frs : List (Addr × Obj)}, FrsOk envs frs → envs.filterMap (·.frame) = frs.map (·.1)
  | [], [], _ => rfl
  | env :: r, (a, o) :: rs, h => by rw [List.filterMap_cons, h.2.1, List.map_cons, FrsOk.frames h.2.2.2]
  | [], _ :: _, h => h.elim
  | _ :: _, [], h => h.elim
theorem FrsOk.fun : ∀ {envs : List Env} {frs : List (Addr × Obj)}, FrsOk envs frs → (∀ p ∈ frs, h.get? p.1 = some p.2 ∧ B.get? p.1 = none) → h.FunFrames B envs
  | [], [], _, _ => trivial
  | _ :: _, (a, o) :: _, x, y => ⟨x.1, ⟨a, o, x.2.1, (y _ (.head _)).2, (y _ (.head _)).1, fun vs q => by obtain ⟨es, n, e⟩ := x.2.2.1; rw [e] at q; cases q⟩, FrsOk.fun x.2.2.2 fun p hp => y p (.tail _ hp)⟩
  | [], _ :: _, x, _ => x.elim
  | _ :: _, [], x, _ => x.elim
theorem slots_news {S : List Addr} {h' : Heap} (x : Heap.SlotsOnly S h h') : ∀ {frs : List (Addr × Obj)}, (∀ p ∈ frs, h.get? p.1 = some p.2) → ∃ frs', SlEq frs frs' ∧ ∀ p ∈ frs', h'.get? p.1 = some p.2
  | [], _ => ⟨[], .nil, fun _ hp => by cases hp⟩
  | (a, o) :: r, y => by
    obtain ⟨r', k1, k2⟩ := slots_news x (frs := r) fun p hp => y p (.tail _ hp)
    obtain ⟨sl, hs⟩ := x.2.2 a o (y _ (.head _))
    refine ⟨(a, { o with slots := sl }) :: r', .cons k1, fun p hp => ?_⟩
    rcases List.mem_cons.mp hp with rfl | hp
    · exact hs
    · exact k2 p hp

theorem xFrame {Q : Value → Shared → Prop} (W : Wd B L K vs (pre ++ frs) h) (hk : scope.kind = .function) (hfr : A.frames = some (envOf name scope L a cd :: outer)) (ho : FrsOk outer frs)
    (hq : ∀ h' frs', Wd B L K vs (pre ++ frs') h' → SlEq frs frs' → Q (.ref L) ⟨h', g, d, t, os⟩) : wpAny M A (frameOf (envOf name scope L a cd)) Q E ⟨h, g, d, t, os⟩ := by
  obtain ⟨m, F, hm⟩ := W.fr
  obtain ⟨oL, es, ep, hoL, hdL, _⟩ := id F.ns
  have hBL : B.get? L = none := by
    cases q : B.get? L with
    | none => rfl
    | some o => exact absurd (Nat.lt_of_lt_of_le (Heap.lt_size q) F.above) (Nat.lt_irrefl _)
  have hf : h.FunFrames B (envOf name scope L a cd :: outer) := ⟨by show scope.kind ≠ .module; rw [hk]; decide, ⟨L, oL, rfl, hBL, hoL, fun vs q => by rw [hdL] at q; cases q⟩,
    ho.fun fun p hp => let z := W.nw p (List.mem_append.mpr (.inr hp)); ⟨z.1, z.2.2⟩⟩
  refine wpAny_frameOf_fun (s := ⟨h, g, d, t, os⟩) hfr hf rfl fun h' x => ?_
  have hS : (envOf name scope L a cd :: outer).filterMap (·.frame) = L :: frs.map (·.1) := by
    rw [List.filterMap_cons]; show L :: _ = _; rw [ho.frames]
  rw [hS] at x
  obtain ⟨frs', k1, k2⟩ := slots_news x (frs := frs) fun p hp => (W.nw p (List.mem_append.mpr (.inr hp))).1
  have nd := W.nd
  rw [List.map_append] at nd
  have hpre : ∀ p ∈ pre, p.1 ∉ L :: frs.map (·.1) := fun p hp hm => by
    rcases List.mem_cons.mp hm with e | hm
    · exact (W.nw p (List.mem_append.mpr (.inl hp))).2.1 e
    · exact (List.nodup_append.mp nd).2.2 _ (List.mem_map_of_mem hp) _ hm rfl
  have keepB : Kp B h' := fun b o q => (x.2.1 b fun hm => by
    rcases List.mem_cons.mp hm with e | hm
    · rw [e, hBL] at q; cases q
    · obtain ⟨p, hp, e⟩ := List.mem_map.mp hm
      have := (W.nw p (List.mem_append.mpr (.inr hp))).2.2
      rw [e, q] at this; cases this).trans (W.keep b o q)
  refine hq h' frs' ⟨⟨m, ⟨?_, keepB, F.above⟩, hm⟩, fun p hp => ?_, ?_, W.kn⟩ k1
  · exact Heap.UpToSlots.ns (fun b o q _ => x.2.2 b o q) F.ns
  · rcases List.mem_append.mp hp with hp | hp
    · have z := W.nw p (List.mem_append.mpr (.inl hp))
      exact ⟨(x.2.1 p.1 (hpre p hp)).trans z.1, z.2⟩
    · have : p.1 ∈ frs.map (·.1) := by rw [← k1.addrs]; exact List.mem_map_of_mem hp
      obtain ⟨p0, h0, e0⟩ := List.mem_map.mp this
      have z := W.nw p0 (List.mem_append.mpr (.inr h0))
      rw [e0] at z
      exact ⟨k2 p hp, z.2⟩
  · rw [List.map_append, k1.addrs]; exact nd

/-- the frame is noted at an exception that bears no trace yet -/
theorem xNote {Q : Unit → Shared → Prop} (W : Wd B L K vs ((e, ob) :: mid ++ frs) h) (hx : IsX ob .none c) (hk : scope.kind = .function) (hfr : A.frames = some (envOf name scope L a cd :: outer)) (ho : FrsOk outer frs)
    (hq : ∀ h' frs' tb otb ob', Wd B L K vs ((tb, otb) :: (e, ob') :: mid ++ frs') h' → SlEq frs frs' → IsX ob' (.ref tb) c → IsTb otb (rawInt L) → Q () ⟨h', g, d, t, os⟩) :
    wpAny M A (noteFrame (.ref e) (envOf name scope L a cd)) Q E ⟨h, g, d, t, os⟩ := by
  obtain ⟨hcls, tt, hd⟩ := hx
  have he : h.get? e = some ob := W.get (.head _)
  unfold noteFrame
  show wpAny M A (field (.ref e) 1 >>= _) _ _ _
  refine wpAny_bind (wpAny_field he hd (x := .none) rfl ?_)
  rw [if_neg (by decide)]
  refine wpAny_bind (xFrame (pre := (e, ob) :: mid) W hk hfr ho fun h₁ frs' W₁ sl => ?_)
  refine wpAny_bind (wpAny_entryPlaceOf fun pl hpl => ?_)
  unfold EntryCells.newEntry newFields
  refine wpAny_bind (wpAny_newObj_type ?_ (hpl.sizeOk5 _ _ _ _ _))
  have W₂ := W₁.push { cls := .type "traceback", dict := none, data := .fields ([Value.none, .ref L, .none, rawInt L, .none] ++ (if pl.isEmpty then List.replicate 6 Value.none else pl)).toArray } rfl
  have he₂ := W₂.get (a := e) (o := ob) (.tail _ (.head _))
  refine wpAny_setField he₂ hd (by simp) ?_
  have he₃ := Heap.get?_update_self (Obj.mapFields (·.setIfInBounds 1 (Value.ref h₁.objs.size))) he₂ (Obj.isFreed_of_fields (Obj.data_mapFields hd _))
  have W₃ := Wd.upd (pre := [_]) W₂ (Heap.SameBut.update ..) he₃
  refine hq _ frs' _ _ _ W₃ sl ⟨(Obj.cls_mapFields _ _).trans hcls, tt, ?_⟩ ⟨_, rfl, ?_⟩
  · rw [Obj.data_mapFields hd]; rfl
  · simp
/-- ... and at one that is in flight in this frame -/
theorem xNoteFly {Q : Unit → Shared → Prop} (W : Wd B L K vs ((tb, otb) :: (e, ob) :: news) h) (hx : IsX ob (.ref tb) c) (hb : IsTb otb (rawInt L)) (hq : Q () ⟨h, g, d, t, os⟩) :
    wpAny M A (noteFrame (.ref e) (envOf name scope L a cd)) Q E ⟨h, g, d, t, os⟩ := by
  obtain ⟨hcls, tt, hd⟩ := hx
  obtain ⟨ts, hdt, h3⟩ := hb
  exact wpAny_noteFrame_inFlight (s := ⟨h, g, d, t, os⟩) rfl (W.get (.tail _ (.head _))) hd rfl (W.get (.head _)) hdt h3 hq
theorem xSet {Q : Unit → Shared → Prop} {fl : Value} (fr : Option Addr) (W : Wd B L K vs ((tb, otb) :: (e, ob) :: news) h) (hx : IsX ob (.ref tb) c) (hb : IsTb otb fl)
    (hq : ∀ h' otb', Wd B L K vs ((tb, otb') :: (e, ob) :: news) h' → IsTb otb' (fr.elim .none fun f => rawInt f) → Q () ⟨h', g, d, t, os⟩) : wpAny M A (setFlight (.ref e) fr) Q E ⟨h, g, d, t, os⟩ := by
  obtain ⟨hcls, tt, hd⟩ := hx
  obtain ⟨ts, hdt, h3⟩ := hb
  have hsz : 3 < ts.size := (Array.getElem?_eq_some_iff.mp h3).1
  unfold setFlight
  refine wpAny_bind (wpAny_field (s := ⟨h, g, d, t, os⟩) (W.get (a := e) (o := ob) (.tail _ (.head _))) hd (x := .ref tb) rfl ?_)
  rw [if_pos (show (Value.ref tb != Value.none) = true from by simp)]
  have ht := W.get (a := tb) (o := otb) (.head _)
  refine wpAny_setField (s := ⟨h, g, d, t, os⟩) ht hdt hsz ?_
  have ht₂ := Heap.get?_update_self (Obj.mapFields (·.setIfInBounds 3 (fr.elim Value.none fun f => rawInt f))) ht (Obj.isFreed_of_fields (Obj.data_mapFields hdt _))
  exact hq _ _ (Wd.upd (pre := []) W (Heap.SameBut.update ..) ht₂) ⟨_, Obj.data_mapFields hdt _, by simp [hsz]⟩
/-- a loop of the frame that ended by it hands it on -/
theorem xBack {E' : Value → Shared → Prop} {fl : Value} (W : Wd B L K vs ((tb, otb) :: (e, ob) :: news) h) (hx : IsX ob (.ref tb) c) (hb : IsTb otb fl)
    (hq : ∀ h' otb', Wd B L K vs ((tb, otb') :: (e, ob) :: news) h' → IsTb otb' (rawInt L) → E' (.ref e) ⟨h', g, d, t, os⟩) : cameBackBy M A (envOf name scope L a cd) E' (.ref e) ⟨h, g, d, t, os⟩ := by
  unfold cameBackBy
  obtain ⟨hcls, tt, hd⟩ := id hx
  refine wpAny_bind (wpAny_field (s := ⟨h, g, d, t, os⟩) (W.get (a := e) (o := ob) (.tail _ (.head _))) hd (x := .ref tb) rfl ?_)
  rw [if_neg (show ¬ (Value.ref tb == Value.none) = true from by simp)]
  exact xSet (some L) W hx hb fun h' otb' W' hb' => hq h' otb' W' hb'
end

theorem entry_unchain : entryFor table "proto.unchain" = some Builtin.«proto.unchain» := entryFor_of_tree (by kernel_rfl)
section
variable {w : World} {A : Around} {E : Value → Shared → Prop} {B h : Heap} {g : Array GenState} {d : Drawn} {t : Nat} {os : OsState} {L a : Addr} {K : List Str} {vs : List (Option Value)} {news : List (Addr × Obj)}
/-- an IndexError is raised where none is handled -/
theorem xRaise0 {α : Type} {M : Model} {msg : String} {Q : α → Shared → Prop} (W : Wd B L K vs news h) (hA : A.handled = none)
    (hE : ∀ h' t' e ob, Wd B L K vs ((e, ob) :: news) h' → IsX ob .none .none → E (.ref e) ⟨h', g, d, t', os⟩) : wpAny M A (raiseErrorWords "IndexError" msg : Sem α) Q E ⟨h, g, d, t, os⟩ := by
  unfold raiseErrorWords
  refine wpAny_bind (wpAny_mkText ?_)
  refine wpAny_bind (wpAny_newExc_plain plainExc_IndexError fun h' e x => wpAny_raiseNew_none hA ?_)
  obtain ⟨tt, he, _⟩ := x.there
  exact hE _ _ _ _ (W.laid x.keeps x.new he) ⟨rfl, _, rfl⟩
/-- ... and where another one is being handled -/
theorem xRaise1 {α : Type} {msg : String} {Q : α → Shared → Prop} {e₁ : Addr} {ob₁ : Obj} {tb₁ : Value} (W : Wd B L K vs news h) (h1 : (e₁, ob₁) ∈ news) (x1 : IsX ob₁ tb₁ .none) (hA : A.handled = some (.ref e₁))
    (hE : ∀ h' t' e ob, Wd B L K vs ((e, ob) :: news) h' → IsX ob .none (.ref e₁) → E (.ref e) ⟨h', g, d, t', os⟩) : wpAny (model PG w) A (raiseErrorWords "IndexError" msg : Sem α) Q E ⟨h, g, d, t, os⟩ := by
  unfold raiseErrorWords
  refine wpAny_bind (wpAny_mkText ?_)
  refine wpAny_bind (wpAny_newExc_plain plainExc_IndexError fun h' e x => ?_)
  obtain ⟨tt, he, _⟩ := x.there
  have W' := W.laid (h' := h') x.keeps x.new he
  have hne : e₁ ≠ e := fun q => by
    have := W.get h1
    rw [q] at this
    have hn := x.new
    dsimp only at hn
    rw [hn] at this; cases this
  obtain ⟨_, t1, hd1⟩ := x1
  unfold raiseNew
  refine wpAny_bind (wpAny_handled ?_)
  rw [hA]
  dsimp only
  rw [if_pos (show (Value.ref e₁ != Value.ref e) = true from by simp [hne])]
  refine wpAny_bind ?_
  refine wpAny_holding (wpAny_runValue (codeAny_builtin entry_unchain ?_))
  unfold Builtin.«proto.unchain»
  refine wpAny_bind (wpAny_field (W'.get (a := e₁) (o := ob₁) (.tail _ h1)) hd1 (x := .none) rfl ?_)
  rw [if_pos (by decide)]
  refine wpAny_pure ?_
  refine wpAny_bind ?_
  unfold updateField
  refine wpAny_bind (wpAny_load he ?_)
  rw [show ({ cls := Value.type "IndexError", data := Data.fields #[Value.ref tt, Value.none, Value.none, Value.none, Value.bool false, Value.none] } : Obj).data = Data.fields #[Value.ref tt, Value.none, Value.none, Value.none, Value.bool false, Value.none] from rfl]
  dsimp only
  rw [if_pos (by simp)]
  refine wpAny_update he ?_
  refine wpAny_throw ?_
  have he₃ := Heap.get?_update_self (Obj.mapFields (·.setIfInBounds 2 (Value.ref e₁))) he rfl
  exact hE _ _ _ _ (Wd.upd (pre := []) W' (Heap.SameBut.update ..) he₃) ⟨rfl, _, rfl⟩
/-- an item behind the list's end -/
theorem xItem {Q : Value → Shared → Prop} {value slice : Expr} {D : Addr} {us : List Value} {i : Int} {n : Nat} {u : Tok} (hl : h.IsList D us.toArray) (hn : i = n) (hz : us.length ≤ n) (hz2 : n < 2 ^ 60)
    (hE : ∀ {α : Type} (Q : α → Shared → Prop) (t' : Nat), wpAny (model PG w) A.in1 (raiseErrorWords "IndexError" "list index out of range" : Sem α) Q E ⟨h, g, d, t', os⟩)
    (hs : subscripted slice false (.ref D) (.int i u) = operate [.ref D, .int i u] (getItem (.ref D) (.int i u))) : wpAny (model PG w) A (subscriptTail value slice (.ref D) (.int i u)) Q E ⟨h, g, d, t, os⟩ := by
  refine tail_any (s := ⟨h, g, d, t, os⟩) hl.typeIs slot_list_getitem.lookup ?_ hs
  obtain ⟨o, ho, hc, ne, hd⟩ := id hl
  unfold getItem
  try with_reducible refine wpAny_holding ?_
  first | refine wpAny_bind (wpAny_pure ?_) | skip
  refine wpAny_bind (wpAny_sequenceKey hl.typeIs (by decide) ?_)
  refine wpAny_bind (wpAny_callSpecial?_slot (name := Str.ofString "__getitem__") hl.typeIs slot_list_getitem
    (wpAny_call_entry slot_list_getitem hl.typeIs entry_list_getitem ?_ (args_list_getitem _ _)))
  show wpAny _ _ (Builtin.List.listSubscript? (.int i u) >>= _) _ _ _
  refine wpAny_bind (wpAny_listSubscript_int (fitsIndex_both (by omega) (by omega)) ?_)
  clear hz2
  cases i with
  | ofNat j =>
    have hx : us.toArray[j]? = none := Array.getElem?_eq_none (by
      have : j = n := Int.ofNat.inj hn
      simpa [this] using hz)
    clear hz hn hs
    show wpAny _ _ ((seqItemAt D j >>= fun r => pure (r.map (j, ·))) >>= _) _ _ _
    refine wpAny_bind (wpAny_bind (wpAny_seqItemAt ho hd (wpAny_pure ?_)))
    rw [hx]
    first
      | exact wpAny_bind (wpAny_rule (hE _ _))
      | exact wpAny_bind (wpAny_rule (wpAny_bind (hE _ _)))
      | exact wpAny_bind (wpAny_bind (wpAny_rule (hE _ _)))
      | exact wpAny_rule (hE _ _)
  | negSucc j => exact absurd hn (by omega)
end

def ltB (a b : List UInt8) : Bool := Builtin.Bytes.order a b == .lt
def gtB (a b : List UInt8) : Bool := Builtin.Bytes.order a b == .gt
theorem slot_lt : Slot "bytes" (cmpInfo .Lt).2.1 "bytes.__lt__" :=
  .of (owner := "bytes") (n := "__lt__") (by rw [typeLookup_type, builtinLookup_eq_fast]; kernel_rfl) (by decide +kernel) (by decide +kernel) (by decide +kernel)
    (by first | exact .inl (by decide +kernel) | exact .inr (by decide +kernel)) (by rw [isSubtype_type]; kernel_rfl)
theorem entry_lt : entryFor table "bytes.__lt__" = some Builtin.«bytes.__lt__» := entryFor_of_tree (by kernel_rfl)
theorem args_lt (a b : Value) : argsOk "bytes.__lt__" ⟨[a, b], []⟩ := by
  unfold argsOk; rw [signature?_of (id := "bytes.__lt__") (n := ['_', '_', 't', 'l', '_', '_']) (o := ['s', 'e', 't', 'y', 'b']) (by kernel_rfl) FB.owner_bytes]; kernel_rfl
theorem slot_gt : Slot "bytes" (cmpInfo .Gt).2.1 "bytes.__gt__" :=
  .of (owner := "bytes") (n := "__gt__") (by rw [typeLookup_type, builtinLookup_eq_fast]; kernel_rfl) (by decide +kernel) (by decide +kernel) (by decide +kernel)
    (by first | exact .inl (by decide +kernel) | exact .inr (by decide +kernel)) (by rw [isSubtype_type]; kernel_rfl)
theorem entry_gt : entryFor table "bytes.__gt__" = some Builtin.«bytes.__gt__» := entryFor_of_tree (by kernel_rfl)
theorem args_gt (a b : Value) : argsOk "bytes.__gt__" ⟨[a, b], []⟩ := by
  unfold argsOk; rw [signature?_of (id := "bytes.__gt__") (n := ['_', '_', 't', 'g', '_', '_']) (o := ['s', 'e', 't', 'y', 'b']) (by kernel_rfl) FB.owner_bytes]; kernel_rfl
theorem gives_lt (a b : List UInt8) (t u : Tok) : Gives (Builtin.«bytes.__lt__» ⟨[.bytes a.toArray t, .bytes b.toArray u], []⟩) (.val (.bool (ltB a b))) := by
  refine .of_wp fun M A E s Q hq => ?_
  show wpAny M A (isInstance (.bytes b.toArray u) (.type "bytes") >>= fun r => _) _ E s
  refine wpAny_bind (wpAny_isInstance (typeIs_bytes s _ u) F.sub_bytes_bytes ?_)
  exact wpAny_pure ⟨_, rfl, hq⟩
theorem gives_gt (a b : List UInt8) (t u : Tok) : Gives (Builtin.«bytes.__gt__» ⟨[.bytes a.toArray t, .bytes b.toArray u], []⟩) (.val (.bool (gtB a b))) := by
  refine .of_wp fun M A E s Q hq => ?_
  show wpAny M A (isInstance (.bytes b.toArray u) (.type "bytes") >>= fun r => _) _ E s
  refine wpAny_bind (wpAny_isInstance (typeIs_bytes s _ u) F.sub_bytes_bytes ?_)
  exact wpAny_pure ⟨_, rfl, hq⟩
section
variable {w : World} {A : Around} {E : Value → Shared → Prop} {s : Shared} {a b : List UInt8} {t u : Tok} {Q : Value → Shared → Prop}
theorem zLtB (h : Q (.bool (ltB a b)) s) : wpAny (model PG w) A (compareOp .Lt (.bytes a.toArray t) (.bytes b.toArray u)) Q E s :=
  compareOp_gives (op := .Lt) (typeIs_bytes s _ t) (typeIs_bytes s _ u) slot_lt entry_lt (args_lt _ _) (gives_lt a b t u) (fun e => nomatch e) h
theorem zGtB (h : Q (.bool (gtB a b)) s) : wpAny (model PG w) A (compareOp .Gt (.bytes a.toArray t) (.bytes b.toArray u)) Q E s :=
  compareOp_gives (op := .Gt) (typeIs_bytes s _ t) (typeIs_bytes s _ u) slot_gt entry_gt (args_gt _ _) (gives_gt a b t u) (fun e => nomatch e) h
end

section
variable {w : World} {A : Around} {E : Value → Shared → Prop} {B h : Heap} {g : Array GenState} {d : Drawn} {t : Nat} {os : OsState} {L a : Addr} {K : List Str} {mid frs : List (Addr × Obj)}
  {name : Str} {scope : Scope} {cd : Value} {outer : List Env}
theorem zIaddI {i j : Int} {u u' : Tok} {Q : Value → Shared → Prop} (hq : ∀ u₁ t', Q (.int (i + j) u₁) ⟨h, g, d, t', os⟩) : wpAny (model PG w) A (inplaceOp .Add (.int i u) (.int j u')) Q E ⟨h, g, d, t, os⟩ :=
  wpAny_iadd_int (s := ⟨h, g, d, t, os⟩) (hq _ _)
/-- «n += 1» -/
theorem zInc {vs : List (Option Value)} {news : List (Addr × Obj)} {x : Str} {p1 p2 p3 : Pos} {k : Nat} {i : Int} {u : Tok} {Q : Flow → Shared → Prop} (W : Wd B L K vs news h) (hx : Loc K vs x (.int i u)) (hk : scope.kind = .function)
    (hl : (envOf name scope L a cd).kindOf x = some .local) (hdb : (x == ("__debug__" : Str)) = false) (hp : ∀ u', ∃ vs', Put K vs x (.int (i + 1) u') vs' ∧ ∀ h' t', Wd B L K vs' news h' → Q .next ⟨h', g, d, t', os⟩) :
    wpAny (model PG w) A (exec (.AugAssign (.Name x p1) .Add (.Constant (.int 1) k p2) p3) (envOf name scope L a cd)) Q E ⟨h, g, d, t, os⟩ := by
  refine wpAny_AugAssign_Name ?_
  obtain ⟨m, F, hm⟩ := W.fr
  refine wpAny_loadName_local (env := envOf name scope L a cd) hk hl F.ns (hm _ _ hx) ?_
  refine zInt ?_
  intro _ _
  refine zIaddI fun u' t' => ?_
  obtain ⟨vs', hp', hq⟩ := hp u'
  exact zSt W hp' (fun h' t' W' => hq h' t' W') hk hl

/-- «while xs[n] == v: n += 1»: it stops at another item, or behind the end -/
theorem inner {lx li le : Str} {p1 p2 p3 p4 p5 p6 p7 p8 p9 : Pos} {k : Nat} {D : Addr} {us : List Value} {es : List (List UInt8)} {v : List UInt8} {u₀ : Tok} {V : Value → List (Option Value)} {Q : Flow → Shared → Prop} (c : Value)
    (hk : scope.kind = .function) (hkx : (envOf name scope L a cd).kindOf lx = some .local) (hki : (envOf name scope L a cd).kindOf li = some .local) (hke : (envOf name scope L a cd).kindOf le = some .local)
    (hdx : (lx == ("__debug__" : Str)) = false) (hdi : (li == ("__debug__" : Str)) = false) (hde : (le == ("__debug__" : Str)) = false)
    (hX : ∀ x, Loc K (V x) lx (.ref D)) (hI : ∀ x, Loc K (V x) li x) (hV : ∀ x, Loc K (V x) le (.bytes v.toArray u₀)) (hP : ∀ x y, Put K (V x) li y (V y))
    (hl : ∀ vs h, Wd B L K vs (mid ++ frs) h → h.IsList D us.toArray) (hus : BsAre us es) (hz : es.length < 1000000)
    (hfr : A.frames = some (envOf name scope L a cd :: outer)) (ho : FrsOk outer frs)
    (hR : ∀ {α : Type} (Q : α → Shared → Prop) vs h t, Wd B L K vs (mid ++ frs) h → wpAny (model PG w) A.in1 (raiseErrorWords "IndexError" "list index out of range" : Sem α) Q
      (fun x s' => ∃ h' t' e ob, x = .ref e ∧ s' = ⟨h', g, d, t', os⟩ ∧ Wd B L K vs ((e, ob) :: (mid ++ frs)) h' ∧ IsX ob .none c) ⟨h, g, d, t, os⟩)
    (n₀ : Nat) (hn : n₀ ≤ es.length) (u₁ : Tok) (W : Wd B L K (V (.int n₀ u₁)) (mid ++ frs) h)
    (hQ : ∀ n u h' t' x, n₀ ≤ n → (∀ j, n₀ ≤ j → j < n → es[j]? = some v) → es[n]? = some x → x ≠ v → Wd B L K (V (.int n u)) (mid ++ frs) h' → Q .next ⟨h', g, d, t', os⟩)
    (hE : ∀ u h' t' e tb ob otb frs', (∀ j, n₀ ≤ j → j < es.length → es[j]? = some v) → Wd B L K (V (.int es.length u)) ((tb, otb) :: (e, ob) :: (mid ++ frs')) h' → SlEq frs frs' → IsX ob (.ref tb) c → IsTb otb (rawInt L) → E (.ref e) ⟨h', g, d, t', os⟩)
    (hsub : ∀ o i : Value, subscripted (.Name li p2) false o i = operate [o, i] (getItem o i)) :
    wpAny (model PG w) A (exec (.While (.Compare (.Subscript (.Name lx p1) (.Name li p2) p3) [.Eq] [.Name le p4] p5) [.AugAssign (.Name li p6) .Add (.Constant (.int 1) k p7) p8] [] p9) (envOf name scope L a cd)) Q E ⟨h, g, d, t, os⟩ := by
  refine wpAny_While (codeAny_whileLoop (fun r s => ∃ n u h' t', r + n = es.length ∧ n₀ ≤ n ∧ (∀ j, n₀ ≤ j → j < n → es[j]? = some v) ∧ s = ⟨h', g, d, t', os⟩ ∧ Wd B L K (V (.int n u)) (mid ++ frs) h') ?_ (es.length - n₀) ⟨n₀, u₁, h, t, by omega, Nat.le_refl _, fun j h1 h2 => by omega, rfl, W⟩)
  rintro r s ⟨n, u, h', t', hrn, hn0, heq, rfl, W'⟩
  refine wpAny_isTrue_Compare1 ?_ (by rfl)
  refine Subscript_ ?_
  refine zLd W' (hX _) ?_ hk hkx hdx
  refine zLd W' (hI _) ?_ hk hki hdi
  by_cases hlt : n < es.length
  · obtain ⟨x, hx⟩ : ∃ x, es[n]? = some x := ⟨_, List.getElem?_eq_getElem hlt⟩
    obtain ⟨ux, hux⟩ := hus.get hx
    refine zItem (hl _ _ W') (by omega) (by omega) (by simpa using hux) ?_ (hsub _ _)
    refine zLd W' (hV _) ?_ hk hke hde
    refine TKb.eq ?_
    refine wpAny_truthy_bool ?_
    by_cases hxv : x = v
    · rw [decide_eq_true hxv, if_pos rfl]
      refine wpAny_execs_cons (zInc W' (hI _) hk hki hdi fun u' => ⟨_, hP _ _, fun h₂ t₂ W₂ => ?_⟩)
      refine wpAny_execs_nil ?_
      exact ⟨r - 1, by omega, n + 1, u', h₂, t₂, by omega, by omega, fun j h1 h2 => by
        by_cases hj : j = n
        · rw [hj, hx, hxv]
        · exact heq j h1 (by omega), rfl, W₂⟩
    · rw [decide_eq_false hxv, if_neg (by decide)]
      refine wpAny_execs_nil ?_
      exact hQ n u h' t' x hn0 heq hx hxv W'
  · have hne : n = es.length := by omega
    subst hne
    refine xItem (hl _ _ W') rfl (by rw [hus.length]; exact Nat.le_refl _) (by omega) (fun Q' t₂ => ?_) (hsub _ _)
    refine wpAny_mono (hR Q' _ _ t₂ W') (fun _ _ x => x) ?_
    rintro _ _ ⟨h₂, t₃, e, ob, rfl, rfl, W₂, hx⟩
    refine xNote (mid := mid) W₂ hx hk hfr ho fun h₃ frs' tb otb ob' W₃ sl hx' hb => ?_
    exact xBack W₃ hx' hb fun h₄ otb' W₄ hb' => hE _ _ _ _ _ _ _ _ heq W₄ sl hx' hb'
end

section
variable {w : World} {A : Around} {E : Value → Shared → Prop} {B h h' : Heap} {g : Array GenState} {d : Drawn} {t : Nat} {os : OsState} {L a : Addr} {K : List Str} {vs : List (Option Value)} {pre news frs frs' : List (Addr × Obj)}
/-- a list's extension by a list -/
theorem zExtend {D b : Addr} {ys zs : List Value} {n n2 : Nat} {Q : Value → Shared → Prop} (ho : h.get? D = some (lst ys n)) (hb : h.get? b = some (lst zs n2)) (hz : ys.length + zs.length ≤ 16777216)
    (hq : ∀ h' n', Heap.SameBut D h h' → h'.get? D = some (lst (ys ++ zs) n') → Q .none ⟨h', g, d, t, os⟩) :
    wpAny (model PG w) A (call (.builtin "list.extend") [.ref D, .ref b]) Q E ⟨h, g, d, t, os⟩ := by
  have hz' : ys.toArray.size + zs.toArray.size ≤ sizeLine := by rw [List.size_toArray, List.size_toArray, sizeLine_eq]; exact hz
  refine call_meets (s := ⟨h, g, d, t, os⟩) PySem.F.slot_list_extend ⟨_, ho, rfl⟩ PySem.F.entry_list_extend (PySem.F.args_list_extend_2 _ _) (AutoSeq1.list_extend_list_list_0 D ys.toArray n b zs.toArray n2 (extend_door hz') (Nat.le_trans (Nat.le_add_right _ _) hz')) ⟨ho, hb, ?_⟩
  have e : ys.toArray ++ zs.toArray = (ys ++ zs).toArray := by simp
  have ho' : (h.update D (Obj.mapSeq fun x => x ++ zs.toArray)).get? D = some (lst (ys ++ zs) (if (ys.toArray ++ zs.toArray).size == ys.toArray.size then n else n + 1)) := by
    rw [Heap.get?_update_self _ ho (by rw [mapSeq_app]; rfl), mapSeq_app, e]
  exact hq _ _ (Heap.SameBut.update ..) ho'
/-- a slice of a list -/
theorem zCut {value slice : Expr} {l : Addr} {us zs : List Value} {vl vu vk : Value} {lo hi st : Option Int} {ops : List Value} {Q : Value → Shared → Prop} (W : Wd B L K vs news h) (hl : h.IsList l us.toArray) (pl : IsPart vl lo) (pu : IsPart vu hi) (pk : IsPart vk st) (h0 : st ≠ some 0)
    (hz : us.length ≤ 1000000) (e : slicePick us.toArray lo hi st = zs.toArray)
    (hq : ∀ D h', Wd B L K vs ((D, lst zs) :: news) h' → Q (.ref D) ⟨h', g, d, t, os⟩)
    (hs : subscripted slice false (.ref l) (.ref h.objs.size) = operate ops (getItem (.ref l) (.ref h.objs.size))) (ht : ∀ r, letTemporaryGo value (.ref l) r = pure ()) :
    wpAny (model PG w) A (subscriptTail value slice (.ref l) (.ref h.objs.size)) Q E ⟨h.push (slc vl vu vk), g, d, t, os⟩ := by
  refine subscriptTail_ops (Heap.IsList.typeIs (s := ⟨h.push (slc vl vu vk), g, d, t, os⟩) (hl.push _)) list_getitem_lookup
    (wpAny_getItem_list_slice (s := ⟨h.push (slc vl vu vk), g, d, t, os⟩) (hl.push _) (Heap.IsSliceOf.new ..) pl pu pk h0 ?_ (by rw [List.size_toArray, sizeLine_eq]; omega)) hs ht
  have W2 := ((W.push (slc vl vu vk) rfl).push (lst zs) rfl).sub (news' := ((h.push (slc vl vu vk)).objs.size, lst zs) :: news) (.cons_cons _ (.cons _ (.refl _)))
  rw [e]
  exact hq _ _ W2

theorem Wd.hide (W : Wd h L K vs [] h') (hf : ∀ p ∈ frs, h.get? p.1 = some p.2) (hn : (frs.map (·.1)).Nodup) : Wd (hideAll h (frs.map (·.1))) L K vs frs h' := by
  obtain ⟨m, F, hm⟩ := W.fr
  refine ⟨⟨m, ⟨F.ns, fun b o q => F.keep b o (of_hideAll _ q), by rw [hideAll_size]; exact F.above⟩, hm⟩, fun p hp => ⟨F.keep _ _ (hf p hp), fun e => ?_, hideAll_none _ (List.mem_map_of_mem hp)⟩, hn, W.kn⟩
  have := Nat.lt_of_lt_of_le (Heap.lt_size (hf p hp)) F.above
  rw [e] at this
  exact absurd this (Nat.lt_irrefl _)
theorem Wd.add (W : Wd B L K vs news h') {a : Addr} {o : Obj} (W₀ : Wd B L K vs pre h) (hp : pre.map (·.1) = news.map (·.1)) (hn : h.get? a = none) (ho : h'.get? a = some o) : Wd B L K vs ((a, o) :: news) h' := by
  have hnews : a ∉ news.map (·.1) := fun hm => by
    rw [← hp] at hm
    obtain ⟨p, hp', e⟩ := List.mem_map.mp hm
    have := (W₀.nw p hp').1
    rw [e, hn] at this; cases this
  refine ⟨W.fr, fun p hp => ?_, ?_, W.kn⟩
  · rcases List.mem_cons.mp hp with rfl | hp
    · refine ⟨ho, fun e => ?_, ?_⟩
      · obtain ⟨m, F, _⟩ := W₀.fr
        obtain ⟨oL, _, _, hL, _⟩ := F.ns
        have e' : a = L := e
        rw [e', hL] at hn; cases hn
      · cases q : B.get? a with
        | none => rfl
        | some o' => have := W₀.keep _ _ q; rw [hn] at this; cases this
    · exact W.nw p hp
  · rw [List.map_cons, List.nodup_cons]
    exact ⟨hnews, W.nd⟩
/-- back from a call that noted the frames -/
theorem Wd.ret {oL : Obj} (W : Wd B L K vs (pre ++ frs) h) (hoL : h.get? L = some oL) (kp : Kp (hideAll h (L :: frs.map (·.1))) h') (sl : SlEq ((L, oL) :: frs) frs') (hg : ∀ p ∈ frs', h'.get? p.1 = some p.2) :
    ∃ oL' frs₂, frs' = (L, oL') :: frs₂ ∧ SlEq frs frs₂ ∧ Wd B L K vs (pre ++ frs₂) h' := by
  cases sl with
  | cons sl =>
    rename_i slots frs₂
    refine ⟨_, frs₂, rfl, sl, ?_⟩
    obtain ⟨m, F, hm⟩ := W.fr
    have hBL : B.get? L = none := by
      cases q : B.get? L with
      | none => rfl
      | some o => exact absurd (Nat.lt_of_lt_of_le (Heap.lt_size q) F.above) (Nat.lt_irrefl _)
    have nd := W.nd
    rw [List.map_append] at nd
    have hpre : ∀ p ∈ pre, p.1 ∉ L :: frs.map (·.1) := fun p hp hm => by
      rcases List.mem_cons.mp hm with e | hm
      · exact (W.nw p (List.mem_append.mpr (.inl hp))).2.1 e
      · exact (List.nodup_append.mp nd).2.2 _ (List.mem_map_of_mem hp) _ hm rfl
    have hB : ∀ b o, B.get? b = some o → b ∉ L :: frs.map (·.1) := fun b o q hm => by
      rcases List.mem_cons.mp hm with e | hm
      · rw [e, hBL] at q; cases q
      · obtain ⟨p, hp, e⟩ := List.mem_map.mp hm
        have := (W.nw p (List.mem_append.mpr (.inr hp))).2.2
        rw [e, q] at this; cases this
    refine ⟨⟨m, ⟨?_, fun b o q => kp b o (hideAll_get _ (W.keep b o q) (hB b o q)), F.above⟩, hm⟩, fun p hp => ?_, ?_, W.kn⟩
    · obtain ⟨o, es, ep, ho, hd, r⟩ := F.ns
      rw [hoL] at ho
      cases ho
      exact ⟨_, es, ep, hg _ (.head _), hd, r⟩
    · rcases List.mem_append.mp hp with hp | hp
      · have z := W.nw p (List.mem_append.mpr (.inl hp))
        exact ⟨kp _ _ (hideAll_get _ z.1 (hpre p hp)), z.2⟩
      · have : p.1 ∈ frs.map (·.1) := by rw [← sl.addrs]; exact List.mem_map_of_mem hp
        obtain ⟨p0, h0, e0⟩ := List.mem_map.mp this
        have z := W.nw p0 (List.mem_append.mpr (.inr h0))
        rw [e0] at z
        exact ⟨hg p (.tail _ hp), z.2⟩
    · rw [List.map_append, sl.addrs]; exact nd
end

def same (e x : List UInt8) : Bool := decide (x = e)
def sld : List (List UInt8) → List (List UInt8) → List (List UInt8) → List (List UInt8) → List (List UInt8) × List (List UInt8)
  | [], as, m, u => (m, u ++ as)
  | e :: es, [], m, u => (m ++ e :: es, u)
  | e :: es, a :: as, m, u =>
    if ltB e a then sld (es.dropWhile (same e)) (a :: as) (m ++ [e]) u
    else if gtB e a then sld (e :: es) (as.dropWhile (same a)) m (u ++ [a])
    else sld (es.dropWhile (same e)) (as.dropWhile (same a)) m u
termination_by es as => es.length + as.length
decreasing_by
  all_goals
    have h1 := (List.dropWhile_suffix (l := es) (same e)).length_le
    have h2 := (List.dropWhile_suffix (l := as) (same a)).length_le
    simp only [List.length_cons]
    omega
theorem drop_same {es : List (List UInt8)} {v x : List UInt8} {n₀ n : Nat} (h : n₀ ≤ n) (he : ∀ j, n₀ ≤ j → j < n → es[j]? = some v) (hx : es[n]? = some x) (hne : x ≠ v) : (es.drop n₀).dropWhile (same v) = es.drop n := by
  induction k : n - n₀ generalizing n₀ with
  | zero =>
    have : n₀ = n := by omega
    subst this
    obtain ⟨hlt, e⟩ := List.getElem?_eq_some_iff.mp hx
    rw [List.drop_eq_getElem_cons hlt, e, List.dropWhile_cons, if_neg (by simp [same, hne])]
  | succ k ih =>
    have hv := he n₀ (Nat.le_refl _) (by omega)
    obtain ⟨hlt, e⟩ := List.getElem?_eq_some_iff.mp hv
    rw [List.drop_eq_getElem_cons hlt, e, List.dropWhile_cons, if_pos (by simp [same])]
    exact ih (by omega) (fun j h1 h2 => he j (by omega) h2) (by omega)
theorem dropWhile_nil {α : Type} {p : α → Bool} : ∀ {l : List α}, (∀ x ∈ l, p x = true) → l.dropWhile p = []
  | [], _ => rfl
  | x :: l, h => by
    rw [List.dropWhile_cons, if_pos (h x (.head _))]
    exact dropWhile_nil fun y hy => h y (.tail _ hy)
theorem drop_all {es : List (List UInt8)} {v : List UInt8} {n₀ : Nat} (he : ∀ j, n₀ ≤ j → j < es.length → es[j]? = some v) : (es.drop n₀).dropWhile (same v) = [] := by
  refine dropWhile_nil fun x hx => ?_
  obtain ⟨j, hj⟩ := List.mem_iff_getElem?.mp hx
  rw [List.getElem?_drop] at hj
  have hl := (List.getElem?_eq_some_iff.mp hj).1
  have := he (n₀ + j) (by omega) hl
  rw [this] at hj
  cases hj
  simp [same]


theorem execs_is {M : Model} {A : Around} {E : Value → Shared → Prop} {s : Shared} {env : Env} {l l' : List Stmt} {Q : Flow → Shared → Prop} (e : l = l') (h : wpAny M A (execs l' env) Q E s) : wpAny M A (execs l env) Q E s := by rw [e]; exact h
theorem zBreak {M : Model} {A : Around} {E : Value → Shared → Prop} {s : Shared} {env : Env} {pos : Pos} {Q : Flow → Shared → Prop} (h : Q .brk s) : wpAny M A (exec (.Break pos) env) Q E s := fun _ _ _ => h
def whileOf : Stmt → List Stmt
  | .While _ b _ _ => b
  | _ => []
def suiteOf : Stmt → List Stmt
  | .Try _ (.ExceptHandler _ _ b _ :: _) _ _ _ => b
  | _ => []
def tryOf : Stmt → List Stmt
  | .Try b _ _ _ _ => b
  | _ => []
noncomputable def sldSuite (w : World) : List Stmt := suiteOf ((whileOf ((bodyOf (fdOf w 115)).getD 3 (.Pass default))).getD 0 (.Pass default))
noncomputable def sldTry (w : World) : List Stmt := tryOf ((whileOf ((bodyOf (fdOf w 115)).getD 3 (.Pass default))).getD 0 (.Pass default))

section
variable {w : World} {mg mb : Str → Option Value} {A : Around} {E : Value → Shared → Prop} {B h : Heap} {g : Array GenState} {d : Drawn} {t : Nat} {os : OsState} {L a : Addr} {K : List Str} {vs : List (Option Value)} {news : List (Addr × Obj)}
  {name : Str} {scope : Scope} {cd : Value}
theorem ie_exc : isSubtype (.type "IndexError") (.type "BaseException") = pure true := by rw [isSubtype_type]; kernel_rfl
theorem ie_nt : isSubtype (.type ((Manifest.find? "IndexError").elim "type" fun x => x.metatype)) (.type "tuple") = pure false := by
  rw [show ((Manifest.find? "IndexError").elim "type" fun x => x.metatype) = "type" from by decide +kernel, isSubtype_type]; kernel_rfl
theorem ie_sub : isSubtype (.type "IndexError") (.type "IndexError") = pure true := by rw [isSubtype_type]; kernel_rfl
/-- an exception that bears its trace is caught -/
theorem xCatch {Q : Flow → Shared → Prop} {e tb : Addr} {ob otb : Obj} {c fl : Value} {b₀ : Stmt} {suite : List Stmt} {np pos : Pos} {rest : List ExceptHandler} (tp : Tp w mg mb B) (W : Wd B L K vs ((tb, otb) :: (e, ob) :: news) h) (hx : IsX ob (.ref tb) c) (hb : IsTb otb fl)
    (hk : scope.kind = .function) (hl : (envOf name scope L a cd).kindOf "IndexError" = some .globalImplicit)
    (hS : ∀ h' otb', Wd B L K vs ((tb, otb') :: (e, ob) :: news) h' → wpAny (model PG w) (A.mark (some (.ref e))) (execs (b₀ :: suite) (envOf name scope L a cd)) Q (fun _ _ => False) ⟨h', g, d, t, os⟩) :
    wpAny (model PG w) A (setFlight (.ref e) none) (fun _ s₃ => wpAny (model PG w) A (handleBy (.ref e) (envOf name scope L a cd) (.ExceptHandler (some (.Name "IndexError" np)) none (b₀ :: suite) pos :: rest)) Q E s₃) E ⟨h, g, d, t, os⟩ := by
  refine xSet none W hx hb fun h₁ otb₁ W₁ hb₁ => ?_
  refine wpAny_handleBy_builtin (X := "IndexError") (T := "IndexError") (b := true) ie_exc ie_nt ie_sub ?_
  refine zB W₁ tp (b_IndexError w) ?_ hk hl
  refine ⟨rfl, ⟨ob, W₁.get (.tail _ (.head _)), hx.1⟩, ?_⟩
  rw [if_pos rfl]
  refine xSet none W₁ hx hb₁ fun h₂ otb₂ W₂ hb₂ => ?_
  exact wpAny_mono (hS h₂ otb₂ W₂) (fun _ _ x => x) fun _ _ x => x.elim

/-- what is left over is laid behind -/
theorem sld_suite {X Y M U : Addr} {us ws ms un : List Value} {km ku i j : Nat} {u1 u2 : Tok} {ev av : Option Value} {xs rest : List (Addr × Obj)} {Q : Flow → Shared → Prop} (tp : Tp w mg mb B)
    (hXB : B.IsList X us.toArray) (hYB : B.IsList Y ws.toArray) (hz : us.length < 1000) (hz2 : ws.length < 1000) (hz3 : ms.length < 3000) (hz4 : un.length < 3000)
    (W : Wd B L ["actual", "expected", "i", "j", "missing", "unexpected", "e", "a"] [some (.ref Y), some (.ref X), some (.int i u1), some (.int j u2), some (.ref M), some (.ref U), ev, av] (xs ++ (U, lst un ku) :: (M, lst ms km) :: rest) h)
    (hq : ∀ h' t' km' ku', Wd B L ["actual", "expected", "i", "j", "missing", "unexpected", "e", "a"] [some (.ref Y), some (.ref X), some (.int i u1), some (.int j u2), some (.ref M), some (.ref U), ev, av] ((U, lst (un ++ ws.drop j) ku') :: (M, lst (ms ++ us.drop i) km') :: rest) h' → Q .brk ⟨h', g, d, t', os⟩) :
    wpAny (model PG w) A (execs (sldSuite w) (fe w 115 L)) Q (fun _ _ => False) ⟨h, g, d, t, os⟩ := by
  conv => arg 3; arg 1; whnf
  repeat none_booked
  refine zMeth (W.get (a := M) (o := lst ms km) (by simp)) rfl rfl FM.slot_extend FM.type_extend ?_
  repeat none_booked
  have keepL : ∀ {vs : List (Option Value)} {news : List (Addr × Obj)} {h : Heap}, Wd B L ["actual", "expected", "i", "j", "missing", "unexpected", "e", "a"] vs news h → h.IsList X us.toArray ∧ h.IsList Y ws.toArray := fun W' => by
    obtain ⟨o, e1, e2⟩ := hXB
    obtain ⟨o', e1', e2'⟩ := hYB
    exact ⟨⟨o, W'.keep _ _ e1, e2⟩, ⟨o', W'.keep _ _ e1', e2'⟩⟩
  refine zCut W (keepL W).1 (IsPart.int _ _) IsPart.none IsPart.none (by simp) (by omega) (slicePick_from' _ _) (fun D h₁ W₁ => ?_) rfl (fun _ => rfl)
  repeat none_booked
  refine zExtend (W₁.get (a := M) (o := lst ms km) (by simp)) (W₁.get (a := D) (.head _)) (by simp; omega) fun h₂ km' hs₂ ho₂ => ?_
  have W₂ := Wd.upd (pre := (D, lst (us.toArray.toList.drop i)) :: xs ++ [(U, lst un ku)]) (post := rest) (d := M) (o := lst ms km) (by simpa using W₁) hs₂ ho₂
  replace W₂ := W₂.sub (news' := (xs ++ [(U, lst un ku)]) ++ (M, lst (ms ++ us.toArray.toList.drop i) km') :: rest) (by rw [List.cons_append, List.cons_append]; exact List.sublist_cons_self _ _)
  clear W W₁
  repeat none_booked
  refine zMeth (W₂.get (a := U) (o := lst un ku) (by simp)) rfl rfl FM.slot_extend FM.type_extend ?_
  repeat none_booked
  refine zCut W₂ (keepL W₂).2 (IsPart.int _ _) IsPart.none IsPart.none (by simp) (by omega) (slicePick_from' _ _) (fun D' h₃ W₃ => ?_) rfl (fun _ => rfl)
  repeat none_booked
  refine zExtend (W₃.get (a := U) (o := lst un ku) (by simp)) (W₃.get (a := D') (.head _)) (by simp; omega) fun h₄ ku' hs₄ ho₄ => ?_
  have W₄ := Wd.upd (pre := (D', lst (ws.toArray.toList.drop j)) :: xs) (post := (M, lst (ms ++ us.toArray.toList.drop i) km') :: rest) (d := U) (o := lst un ku) (by simpa using W₃) hs₄ ho₄
  replace W₄ := W₄.sub (news' := (U, lst (un ++ ws.toArray.toList.drop j) ku') :: (M, lst (ms ++ us.toArray.toList.drop i) km') :: rest) (List.sublist_append_right _ _)
  repeat none_booked
  refine zBreak ?_
  exact hq _ _ _ _ W₄
end

abbrev KS : List Str := ["actual", "expected", "i", "j", "missing", "unexpected", "e", "a"]
abbrev VS (X Y M U : Addr) (i j : Value) (ev av : Option Value) : List (Option Value) := [some (.ref Y), some (.ref X), some i, some j, some (.ref M), some (.ref U), ev, av]

/-- where the two hands stand -/
structure At (es as : List (List UInt8)) (T : List (List UInt8) × List (List UInt8)) (i j : Nat) (ms un : List Value) : Prop where
  to : ∃ m u, BsAre ms m ∧ BsAre un u ∧ m.length ≤ i ∧ u.length ≤ j ∧ sld (es.drop i) (as.drop j) m u = T
  le : i ≤ es.length
  le' : j ≤ as.length

section
variable {w : World} {mg mb : Str → Option Value} {A : Around} {E : Value → Shared → Prop} {B h : Heap} {g : Array GenState} {d : Drawn} {t : Nat} {os : OsState} {L : Addr} {outer : List Env} {frs : List (Addr × Obj)}
  {X Y M U : Addr} {us ws ms un : List Value} {es as : List (List UInt8)} {T : List (List UInt8) × List (List UInt8)} {km ku i j : Nat} {u1 u2 : Tok}

theorem At.lt {ms : List Value} {e a : List UInt8} {ue : Tok} {n : Nat} (H : At es as T i j ms un) (he : es[i]? = some e) (ha : as[j]? = some a) (hlt : ltB e a = true) (hn : (es.drop (i + 1)).dropWhile (same e) = es.drop n) (hin : i < n) (hle : n ≤ es.length) :
    At es as T n j (ms ++ [.bytes e.toArray ue]) un := by
  obtain ⟨m, u, h1, h2, h3, h4, h5⟩ := H.to
  obtain ⟨q1, q2⟩ := List.getElem?_eq_some_iff.mp he
  obtain ⟨q3, q4⟩ := List.getElem?_eq_some_iff.mp ha
  refine ⟨⟨m ++ [e], u, h1.append (BsAre.cons BsAre.nil), h2, by simp; omega, h4, ?_⟩, hle, H.le'⟩
  rw [List.drop_eq_getElem_cons q1, List.drop_eq_getElem_cons q3, q2, q4, sld, if_pos hlt, hn] at h5
  rw [List.drop_eq_getElem_cons q3, q4]; exact h5
theorem At.gt {un : List Value} {e a : List UInt8} {ua : Tok} {n : Nat} (H : At es as T i j ms un) (he : es[i]? = some e) (ha : as[j]? = some a) (hlt : ltB e a = false) (hgt : gtB e a = true) (hn : (as.drop (j + 1)).dropWhile (same a) = as.drop n) (hin : j < n) (hle : n ≤ as.length) :
    At es as T i n ms (un ++ [.bytes a.toArray ua]) := by
  obtain ⟨m, u, h1, h2, h3, h4, h5⟩ := H.to
  obtain ⟨q1, q2⟩ := List.getElem?_eq_some_iff.mp he
  obtain ⟨q3, q4⟩ := List.getElem?_eq_some_iff.mp ha
  refine ⟨⟨m, u ++ [a], h1, h2.append (BsAre.cons BsAre.nil), h3, by simp; omega, ?_⟩, H.le, hle⟩
  rw [List.drop_eq_getElem_cons q1, List.drop_eq_getElem_cons q3, q2, q4, sld, if_neg (by rw [hlt]; decide), if_pos hgt, hn] at h5
  rw [List.drop_eq_getElem_cons q1, q2]; exact h5
theorem At.eq {e a : List UInt8} {n n' : Nat} (H : At es as T i j ms un) (he : es[i]? = some e) (ha : as[j]? = some a) (hlt : ltB e a = false) (hgt : gtB e a = false) (hn : (es.drop (i + 1)).dropWhile (same e) = es.drop n) (hn' : (as.drop (j + 1)).dropWhile (same a) = as.drop n')
    (hin : i < n) (hle : n ≤ es.length) (hin' : j < n') (hle' : n' ≤ as.length) : At es as T n n' ms un := by
  obtain ⟨m, u, h1, h2, h3, h4, h5⟩ := H.to
  obtain ⟨q1, q2⟩ := List.getElem?_eq_some_iff.mp he
  obtain ⟨q3, q4⟩ := List.getElem?_eq_some_iff.mp ha
  refine ⟨⟨m, u, h1, h2, by omega, by omega, ?_⟩, hle, hle'⟩
  rw [List.drop_eq_getElem_cons q1, List.drop_eq_getElem_cons q3, q2, q4, sld, if_neg (by rw [hlt]; decide), if_neg (by rw [hgt]; decide), hn, hn'] at h5
  exact h5
theorem At.size (H : At es as T i j ms un) : ms.length ≤ es.length ∧ un.length ≤ as.length := by
  obtain ⟨m, u, h1, h2, h3, h4, h5⟩ := H.to
  have := H.le
  have := H.le'
  exact ⟨by rw [h1.length]; omega, by rw [h2.length]; omega⟩
theorem drop_end {l : List (List UInt8)} : l.drop l.length = [] := List.drop_length

theorem sld_body {Q : Flow → Shared → Prop} (tp : Tp w mg mb B) (hh : A.handled = none) (hfr : A.frames = some (fe w 115 L :: outer)) (ho : FrsOk outer frs)
    (hXB : B.IsList X us.toArray) (hYB : B.IsList Y ws.toArray) (hus : BsAre us es) (hws : BsAre ws as) (hz : es.length < 1000) (hz2 : as.length < 1000)
    {ev av : Option Value} (H : At es as T i j ms un) (W : Wd B L KS (VS X Y M U (.int i u1) (.int j u2) ev av) ((U, lst un ku) :: (M, lst ms km) :: frs) h)
    (hQ : ∀ h' t' i' j' u1' u2' ev' av' ms' un' km' ku', Wd B L KS (VS X Y M U (.int (i' : Nat) u1') (.int (j' : Nat) u2') ev' av') ((U, lst un' ku') :: (M, lst ms' km') :: frs) h' → At es as T i' j' ms' un' → i + j < i' + j' → Q .next ⟨h', g, d, t', os⟩)
    (hE0 : ∀ h' t' e ob ev' av', Wd B L KS (VS X Y M U (.int i u1) (.int j u2) ev' av') ((e, ob) :: (U, lst un ku) :: (M, lst ms km) :: frs) h' → (i = es.length ∨ j = as.length) → IsX ob .none .none → E (.ref e) ⟨h', g, d, t', os⟩)
    (hE1 : ∀ h' t' i' j' u1' u2' ev' av' ms' un' km' ku' e tb ob otb c xs frs', Wd B L KS (VS X Y M U (.int (i' : Nat) u1') (.int (j' : Nat) u2') ev' av') ((tb, otb) :: (e, ob) :: xs ++ (U, lst un' ku') :: (M, lst ms' km') :: frs') h' → At es as T i' j' ms' un' → (i' = es.length ∨ j' = as.length) →
      SlEq frs frs' → IsX ob (.ref tb) c → IsTb otb (rawInt L) → E (.ref e) ⟨h', g, d, t', os⟩) :
    wpAny (model PG w) A (execs (sldTry w) (fe w 115 L)) Q E ⟨h, g, d, t, os⟩ := by
  have keepL : ∀ {vs : List (Option Value)} {news : List (Addr × Obj)} {h : Heap}, Wd B L KS vs news h → h.IsList X us.toArray ∧ h.IsList Y ws.toArray := fun W' => by
    obtain ⟨o, e1, e2⟩ := hXB
    obtain ⟨o', e1', e2'⟩ := hYB
    exact ⟨⟨o, W'.keep _ _ e1, e2⟩, ⟨o', W'.keep _ _ e1', e2'⟩⟩
  have hsz := H.size
  have hle := H.le
  have hle' := H.le'
  have raise0 : ∀ {news : List (Addr × Obj)} {α : Type} (Q : α → Shared → Prop) vs h t, Wd B L KS vs news h → wpAny (model PG w) A.in1 (raiseErrorWords "IndexError" "list index out of range" : Sem α) Q
      (fun x s' => ∃ h' t' e ob, x = .ref e ∧ s' = ⟨h', g, d, t', os⟩ ∧ Wd B L KS vs ((e, ob) :: news) h' ∧ IsX ob .none .none) ⟨h, g, d, t, os⟩ :=
    fun Q vs h t W' => xRaise0 W' hh fun h' t' e ob W'' hx => ⟨h', t', e, ob, rfl, rfl, W'', hx⟩
  conv => arg 3; arg 1; whnf
  repeat none_booked
  by_cases hi : i = es.length
  · subst hi
    refine xItem (keepL W).1 rfl (by rw [hus.length]; exact Nat.le_refl _) (by omega) (fun Q' t₂ => ?_) rfl
    exact xRaise0 W hh fun h' t' e ob W' hx => hE0 _ _ _ _ _ _ W' (.inl rfl) hx
  obtain ⟨e, he⟩ : ∃ x, es[i]? = some x := ⟨_, List.getElem?_eq_getElem (Nat.lt_of_le_of_ne H.le hi)⟩
  obtain ⟨ue, hue⟩ := hus.get he
  refine zItem (keepL W).1 (by omega) (by omega) (by simpa using hue) ?_ rfl
  repeat none_booked
  rename Wd _ _ _ (VS _ _ _ _ _ _ (some _) _) _ _ => W1
  clear W
  by_cases hj : j = as.length
  · subst hj
    refine xItem (keepL W1).2 rfl (by rw [hws.length]; exact Nat.le_refl _) (by omega) (fun Q' t₂ => ?_) rfl
    exact xRaise0 W1 hh fun h' t' e ob W' hx => hE0 _ _ _ _ _ _ W' (.inr rfl) hx
  obtain ⟨a, ha⟩ : ∃ x, as[j]? = some x := ⟨_, List.getElem?_eq_getElem (Nat.lt_of_le_of_ne H.le' hj)⟩
  obtain ⟨ua, hua⟩ := hws.get ha
  refine zItem (keepL W1).2 (by omega) (by omega) (by simpa using hua) ?_ rfl
  repeat none_booked
  rename Wd _ _ _ (VS _ _ _ _ _ _ (some _) (some _)) _ _ => W2
  clear W1
  refine zLtB ?_
  repeat none_booked
  cases hlt : ltB e a with
  | true =>
    rw [if_pos rfl]
    repeat none_booked
    refine zMeth (W2.get (a := M) (o := lst ms km) (by simp)) rfl rfl FM.slot_append FM.type_append ?_
    repeat none_booked
    refine zAppend (W2.get (a := M) (o := lst ms km) (by simp)) (by omega) fun h₃ hs₃ ho₃ => ?_
    have W3 := Wd.upd (pre := [(U, lst un ku)]) W2 hs₃ ho₃
    clear W2
    repeat none_booked
    refine zInc W3 (by repeat (with_reducible first | apply Loc.head | apply Loc.tail)) (by kernel_rfl!) (by kernel_rfl!) (by decide +kernel) fun u' => ⟨_, by repeat (with_reducible first | apply Put.head | apply Put.tail), fun h₄ t₄ W4 => ?_⟩
    clear W3
    repeat none_booked
    refine inner .none (lx := "expected") (li := "i") (le := "e") (V := fun x => VS X Y M U x (.int j u2) (some (.bytes e.toArray ue)) (some (.bytes a.toArray ua))) (mid := [(U, lst un ku), (M, lst (ms ++ [Value.bytes e.toArray ue]) (km + 1))]) (by kernel_rfl!) (by kernel_rfl!) (by kernel_rfl!) (by kernel_rfl!) (by decide +kernel) (by decide +kernel) (by decide +kernel)
      (fun _ => by repeat (with_reducible first | apply Loc.head | apply Loc.tail)) (fun _ => by repeat (with_reducible first | apply Loc.head | apply Loc.tail)) (fun _ => by repeat (with_reducible first | apply Loc.head | apply Loc.tail)) (fun _ _ => by repeat (with_reducible first | apply Put.head | apply Put.tail))
      (fun _ _ W' => (keepL W').1) hus (by omega) hfr ho (fun Q vs h t W' => raise0 Q vs h t W') (i + 1) (by omega) u' W4 ?_ ?_ (fun _ _ => rfl)
    · intro n un' h₅ t₅ x hn0 hall hx hne W5
      have hnl := (List.getElem?_eq_some_iff.mp hx).1
      repeat none_booked
      exact hQ _ _ _ _ _ _ _ _ _ _ _ _ W5 (H.lt he ha hlt (drop_same hn0 hall hx hne) (by omega) (by omega)) (by omega)
    · intro un' h₅ t₅ ex tb ob otb frs' hall W5 sl hx hb
      exact hE1 _ _ _ _ _ _ _ _ _ _ _ _ _ _ _ _ _ [] _ W5 (H.lt he ha hlt ((drop_all hall).trans drop_end.symm) (by omega) (Nat.le_refl _)) (.inl rfl) sl hx hb
  | false =>
    rw [if_neg (by decide)]
    repeat none_booked
    refine zGtB ?_
    repeat none_booked
    cases hgt : gtB e a with
    | true =>
      rw [if_pos rfl]
      repeat none_booked
      refine zMeth (W2.get (a := U) (o := lst un ku) (by simp)) rfl rfl FM.slot_append FM.type_append ?_
      repeat none_booked
      refine zAppend (W2.get (a := U) (o := lst un ku) (by simp)) (by omega) fun h₃ hs₃ ho₃ => ?_
      have W3 := Wd.upd (pre := []) W2 hs₃ ho₃
      clear W2
      repeat none_booked
      refine zInc W3 (by repeat (with_reducible first | apply Loc.head | apply Loc.tail)) (by kernel_rfl!) (by kernel_rfl!) (by decide +kernel) fun u' => ⟨_, by repeat (with_reducible first | apply Put.head | apply Put.tail), fun h₄ t₄ W4 => ?_⟩
      clear W3
      repeat none_booked
      refine inner .none (lx := "actual") (li := "j") (le := "a") (V := fun x => VS X Y M U (.int i u1) x (some (.bytes e.toArray ue)) (some (.bytes a.toArray ua))) (mid := [(U, lst (un ++ [Value.bytes a.toArray ua]) (ku + 1)), (M, lst ms km)]) (by kernel_rfl!) (by kernel_rfl!) (by kernel_rfl!) (by kernel_rfl!) (by decide +kernel) (by decide +kernel) (by decide +kernel)
        (fun _ => by repeat (with_reducible first | apply Loc.head | apply Loc.tail)) (fun _ => by repeat (with_reducible first | apply Loc.head | apply Loc.tail)) (fun _ => by repeat (with_reducible first | apply Loc.head | apply Loc.tail)) (fun _ _ => by repeat (with_reducible first | apply Put.head | apply Put.tail))
        (fun _ _ W' => (keepL W').2) hws (by omega) hfr ho (fun Q vs h t W' => raise0 Q vs h t W') (j + 1) (by omega) u' W4 ?_ ?_ (fun _ _ => rfl)
      · intro n un' h₅ t₅ x hn0 hall hx hne W5
        have hnl := (List.getElem?_eq_some_iff.mp hx).1
        repeat none_booked
        exact hQ _ _ _ _ _ _ _ _ _ _ _ _ W5 (H.gt he ha hlt hgt (drop_same hn0 hall hx hne) (by omega) (by omega)) (by omega)
      · intro un' h₅ t₅ ex tb ob otb frs' hall W5 sl hx hb
        exact hE1 _ _ _ _ _ _ _ _ _ _ _ _ _ _ _ _ _ [] _ W5 (H.gt he ha hlt hgt ((drop_all hall).trans drop_end.symm) (by omega) (Nat.le_refl _)) (.inr rfl) sl hx hb
    | false =>
      rw [if_neg (by decide)]
      repeat none_booked
      refine zInc W2 (by repeat (with_reducible first | apply Loc.head | apply Loc.tail)) (by kernel_rfl!) (by kernel_rfl!) (by decide +kernel) fun u' => ⟨_, by repeat (with_reducible first | apply Put.head | apply Put.tail), fun h₄ t₄ W4 => ?_⟩
      clear W2
      repeat none_booked
      refine wpAny_Try_finally ?_
      repeat none_booked
      refine inner .none (lx := "expected") (li := "i") (le := "e") (V := fun x => VS X Y M U x (.int j u2) (some (.bytes e.toArray ue)) (some (.bytes a.toArray ua))) (mid := [(U, lst un ku), (M, lst ms km)]) (by kernel_rfl!) (by kernel_rfl!) (by kernel_rfl!) (by kernel_rfl!) (by decide +kernel) (by decide +kernel) (by decide +kernel)
        (fun _ => by repeat (with_reducible first | apply Loc.head | apply Loc.tail)) (fun _ => by repeat (with_reducible first | apply Loc.head | apply Loc.tail)) (fun _ => by repeat (with_reducible first | apply Loc.head | apply Loc.tail)) (fun _ _ => by repeat (with_reducible first | apply Put.head | apply Put.tail))
        (fun _ _ W' => (keepL W').1) hus (by omega) hfr ho (fun Q vs h t W' => raise0 Q vs h t W') (i + 1) (by omega) u' W4 ?_ ?_ (fun _ _ => rfl)
      · intro n un' h₅ t₅ x hn0 hall hx hne W5
        have hnl := (List.getElem?_eq_some_iff.mp hx).1
        clear W4
        repeat none_booked
        refine zInc W5 (by repeat (with_reducible first | apply Loc.head | apply Loc.tail)) (by kernel_rfl!) (by kernel_rfl!) (by decide +kernel) fun u'' => ⟨_, by repeat (with_reducible first | apply Put.head | apply Put.tail), fun h₆ t₆ W6 => ?_⟩
        clear W5
        repeat none_booked
        refine inner .none (lx := "actual") (li := "j") (le := "a") (V := fun x => VS X Y M U (.int n un') x (some (.bytes e.toArray ue)) (some (.bytes a.toArray ua))) (mid := [(U, lst un ku), (M, lst ms km)]) (by kernel_rfl!) (by kernel_rfl!) (by kernel_rfl!) (by kernel_rfl!) (by decide +kernel) (by decide +kernel) (by decide +kernel)
          (fun _ => by repeat (with_reducible first | apply Loc.head | apply Loc.tail)) (fun _ => by repeat (with_reducible first | apply Loc.head | apply Loc.tail)) (fun _ => by repeat (with_reducible first | apply Loc.head | apply Loc.tail)) (fun _ _ => by repeat (with_reducible first | apply Put.head | apply Put.tail))
          (fun _ _ W' => (keepL W').2) hws (by omega) hfr ho (fun Q vs h t W' => raise0 Q vs h t W') (j + 1) (by omega) u'' W6 ?_ ?_ (fun _ _ => rfl)
        · intro n' un'' h₇ t₇ x' hn0' hall' hx' hne' W7
          have hnl' := (List.getElem?_eq_some_iff.mp hx').1
          repeat none_booked
          exact hQ _ _ _ _ _ _ _ _ _ _ _ _ W7 (H.eq he ha hlt hgt (drop_same hn0 hall hx hne) (drop_same hn0' hall' hx' hne') (by omega) (by omega) (by omega) (by omega)) (by omega)
        · intro un'' h₇ t₇ ex tb ob otb frs' hall' W7 sl hx2 hb
          refine xNoteFly W7 hx2 hb ?_
          refine xBack W7 hx2 hb fun h₈ otb' W8 hb' => ?_
          exact hE1 _ _ _ _ _ _ _ _ _ _ _ _ _ _ _ _ _ [] _ W8 (H.eq he ha hlt hgt (drop_same hn0 hall hx hne) ((drop_all hall').trans drop_end.symm) (by omega) (by omega) (by omega) (Nat.le_refl _)) (.inr rfl) sl hx2 hb'
      · intro un' h₅ t₅ ex tb ob otb frs' hall W5 sl hx hb
        clear W4
        have hin : (es.drop (i + 1)).dropWhile (same e) = es.drop es.length := (drop_all hall).trans drop_end.symm
        have ho' := sl.ok ho
        refine xNoteFly W5 hx hb ⟨(by intro q; cases q), ?_⟩
        refine xNoteFly W5 hx hb ?_
        refine xSet none W5 hx hb fun h₆ otb₆ W6 hb₆ => ?_
        repeat none_booked
        refine zInc W6 (by repeat (with_reducible first | apply Loc.head | apply Loc.tail)) (by kernel_rfl!) (by kernel_rfl!) (by decide +kernel) fun u'' => ⟨_, by repeat (with_reducible first | apply Put.head | apply Put.tail), fun h₇ t₇ W7 => ?_⟩
        clear W5 W6
        repeat none_booked
        refine inner (.ref ex) (lx := "actual") (li := "j") (le := "a") (V := fun x => VS X Y M U (.int es.length un') x (some (.bytes e.toArray ue)) (some (.bytes a.toArray ua))) (mid := [(tb, otb₆), (ex, ob), (U, lst un ku), (M, lst ms km)]) (by kernel_rfl!) (by kernel_rfl!) (by kernel_rfl!) (by kernel_rfl!) (by decide +kernel) (by decide +kernel) (by decide +kernel)
          (fun _ => by repeat (with_reducible first | apply Loc.head | apply Loc.tail)) (fun _ => by repeat (with_reducible first | apply Loc.head | apply Loc.tail)) (fun _ => by repeat (with_reducible first | apply Loc.head | apply Loc.tail)) (fun _ _ => by repeat (with_reducible first | apply Put.head | apply Put.tail))
          (fun _ _ W' => (keepL W').2) hws (by omega) hfr ho' (fun Q vs h t W' => ?_) (j + 1) (by omega) u'' W7 ?_ ?_ (fun _ _ => rfl)
        · exact xRaise1 W' (.tail _ (.head _)) hx (by rw [Around.in1_handled]; rfl) fun h' t' e ob W'' hx'' => ⟨h', t', e, ob, rfl, rfl, W'', hx''⟩
        · intro n' un'' h₈ t₈ x' hn0' hall' hx' hne' W8
          have hnl' := (List.getElem?_eq_some_iff.mp hx').1
          repeat none_booked
          obtain ⟨_, tt, hd⟩ := id hx
          unfold PySem.passOn
          refine wpAny_bind (wpAny_field (W8.get (a := ex) (o := ob) (.tail _ (.head _))) hd (x := .ref tb) rfl ?_)
          rw [if_neg (show ¬ (Value.ref tb == Value.none) = true from by simp)]
          refine wpAny_bind (xSet (some L) W8 hx hb₆ fun h₉ otb₉ W9 hb₉ => ?_)
          refine wpAny_throw ?_
          exact hE1 _ _ _ _ _ _ _ _ _ _ _ _ _ _ _ _ _ [] _ W9 (H.eq he ha hlt hgt hin (drop_same hn0' hall' hx' hne') (by omega) (Nat.le_refl _) (by omega) (by omega)) (.inl rfl) sl hx hb₉
        · intro un'' h₈ t₈ ex2 tb2 ob2 otb2 frs2 hall' W8 sl2 hx2 hb2
          refine xNoteFly W8 hx2 hb2 ?_
          refine xBack W8 hx2 hb2 fun h₉ otb₉ W9 hb₉ => ?_
          exact hE1 _ _ _ _ _ _ _ _ _ _ _ _ _ _ _ _ _ [_, _] _ W9 (H.eq he ha hlt hgt hin ((drop_all hall').trans drop_end.symm) (by omega) (Nat.le_refl _) (by omega) (Nat.le_refl _)) (.inl rfl) (sl.trans sl2) hx2 hb₉
end

theorem At.ends {es as : List (List UInt8)} {T : List (List UInt8) × List (List UInt8)} {i j : Nat} {us ws ms un : List Value} (H : At es as T i j ms un) (hus : BsAre us es) (hws : BsAre ws as) (he : i = es.length ∨ j = as.length) : BsAre (ms ++ us.drop i) T.1 ∧ BsAre (un ++ ws.drop j) T.2 := by
  obtain ⟨m, u, h1, h2, h3, h4, h5⟩ := H.to
  have e1 : sld (es.drop i) (as.drop j) m u = (m ++ es.drop i, u ++ as.drop j) := by
    rcases he with rfl | rfl
    · rw [List.drop_length, sld, List.append_nil]
    · rw [List.drop_length]
      cases es.drop i with
      | nil => rw [sld, List.append_nil, List.append_nil]
      | cons x l => rw [sld, List.append_nil]
  rw [← h5, e1]
  exact ⟨h1.append (hus.drop i), h2.append (hws.drop j)⟩

section
variable {w : World} {mg mb : Str → Option Value} {A : Around} {E : Value → Shared → Prop} {h : Heap} {g : Array GenState} {d : Drawn} {t : Nat} {os : OsState}
theorem sld_ret {B : Heap} {L X Y M U : Addr} {i j : Value} {ev av : Option Value} {news : List (Addr × Obj)} {Q : Value → Shared → Prop} (W : Wd B L KS (VS X Y M U i j ev av) news h)
    (hq : ∀ h' T, Wd B L KS (VS X Y M U i j ev av) ((T, tup [.ref M, .ref U]) :: news) h' → Q (.ref T) ⟨h', g, d, t, os⟩) :
    wpAny (model PG w) A (execs ((bodyOf (fdOf w 115)).drop 4) (fe w 115 L)) (fun f s' => Q (match f with | .ret v => v | _ => .none) s') (fun _ _ => False) ⟨h, g, d, t, os⟩ := by
  conv => arg 3; arg 1; whnf
  repeat none_booked
  rename Wd _ _ _ _ (_ :: _) _ => W'
  exact hq _ _ W'
theorem sld_call {X Y : Addr} {us ws : List Value} {es as : List (List UInt8)} {outer : List Env} {frs : List (Addr × Obj)} {Q : Value → Shared → Prop} (tp : Tp w mg mb h) (hr : A.depth + 2 < recursionLimit) (hh : A.handled = none)
    (hA : A.frames = some outer) (ho : FrsOk outer frs) (hf : ∀ p ∈ frs, h.get? p.1 = some p.2) (hnd : (frs.map (·.1)).Nodup) (htp : Tp w mg mb (hideAll h (frs.map (·.1))))
    (hX : h.IsList X us.toArray) (hY : h.IsList Y ws.toArray) (hXf : X ∉ frs.map (·.1)) (hYf : Y ∉ frs.map (·.1)) (hus : BsAre us es) (hws : BsAre ws as) (hz : es.length < 1000) (hz2 : as.length < 1000)
    (hq : ∀ h' t' T M U ms un km ku frs', Kp (hideAll h (frs.map (·.1))) h' → SlEq frs frs' → (∀ p ∈ frs', h'.get? p.1 = some p.2) → h.get? T = none → h.get? M = none → h.get? U = none → T ≠ M → T ≠ U → M ≠ U →
      h'.get? T = some (tup [.ref M, .ref U]) → h'.get? M = some (lst ms km) → h'.get? U = some (lst un ku) → BsAre ms (sld es as [] []).1 → BsAre un (sld es as [] []).2 → Q (.ref T) ⟨h', g, d, t', os⟩) :
    wpAny (model PG w) A (call (.ref 115) [.ref X, .ref Y]) Q E ⟨h, g, d, t, os⟩ := by
  refine zCall KS [some (.ref Y), some (.ref X), none, none, none, none, none, none] [("expected", .ref X), ("actual", .ref Y)] tp (by omega) (by kernel_rfl!) (by kernel_rfl!) (by kernel_rfl!) (by kernel_rfl!) (by kernel_rfl!) (by decide +kernel) (by kernel_rfl!) (by kernel_rfl!) (fun _ => by kernel_rfl!) (by kernel_rfl!) (by kernel_rfl!) (by kernel_rfl!) ?_
  intro L h₁ t₁ W₀
  have W := W₀.hide hf hnd
  clear W₀
  have hXB : (hideAll h (frs.map (·.1))).IsList X us.toArray := by
    obtain ⟨o, e1, e2⟩ := hX
    exact ⟨o, hideAll_get _ e1 hXf, e2⟩
  have hYB : (hideAll h (frs.map (·.1))).IsList Y ws.toArray := by
    obtain ⟨o, e1, e2⟩ := hY
    exact ⟨o, hideAll_get _ e1 hYf, e2⟩
  have hnew : ∀ {b : Addr}, (hideAll h (frs.map (·.1))).get? b = none → b ∉ frs.map (·.1) → h.get? b = none := fun {b} h1 h2 => by
    cases q : h.get? b with
    | none => rfl
    | some o => rw [hideAll_get _ q h2] at h1; cases h1
  generalize hB : hideAll h (frs.map (·.1)) = B at *
  have hfr : (A.deeper (fe w 115 L)).frames = some (fe w 115 L :: outer) := by
    show A.frames.map _ = _
    rw [hA]; rfl
  refine execs_at 4 ?_
  conv => arg 3; arg 1; arg 2; whnf
  dsimp only [List.take_succ_cons, List.take_zero]
  repeat none_booked
  refine wpAny_Assign_two ?_ (by kernel_rfl!) (by kernel_rfl!)
  repeat none_booked
  rename Wd _ _ _ _ ((_, _) :: (_, _) :: _) _ => W2
  rename_i z t2 h2 t3 _ h3 t4 _ M h4 _ h5 t5 _ U h6 _ h7 t7
  have W3 : Wd B L KS (VS X Y M U (.int (0 : Nat) z) (.int (0 : Nat) z) none none) ((U, lst [] 0) :: (M, lst [] 0) :: frs) h7 := W2
  clear W2
  generalize hT : sld es as [] [] = T at hq
  have H0 : At es as T 0 0 [] [] := ⟨⟨[], [], BsAre.nil, BsAre.nil, Nat.le_refl _, Nat.le_refl _, by rw [List.drop_zero, List.drop_zero, hT]⟩, Nat.zero_le _, Nat.zero_le _⟩
  refine wpAny_While (codeAny_whileLoop (fun r s => ∃ i j u1 u2 ev av ms un km ku h' t', r + i + j = es.length + as.length ∧ s = ⟨h', g, d, t', os⟩ ∧ Wd B L KS (VS X Y M U (.int (i : Nat) u1) (.int (j : Nat) u2) ev av) ((U, lst un ku) :: (M, lst ms km) :: frs) h' ∧ At es as T i j ms un) ?_ (es.length + as.length)
    ⟨0, 0, _, _, _, _, _, _, _, _, _, _, rfl, rfl, W3, H0⟩)
  clear W3
  rintro r s ⟨i, j, u1, u2, ev, av, ms, un, km, ku, h₂, t₂, hr, rfl, W4, H⟩
  have land : ∀ (h : Heap) (t : Nat) (i j : Nat) (u1 u2 : Tok) (ev av : Option Value) (ms un : List Value) (km ku : Nat) (xs frs' : List (Addr × Obj)) (A' : Around), Wd B L KS (VS X Y M U (.int (i : Nat) u1) (.int (j : Nat) u2) ev av) (xs ++ (U, lst un ku) :: (M, lst ms km) :: frs') h → At es as T i j ms un → (i = es.length ∨ j = as.length) → SlEq frs frs' →
      wpAny (model PG w) A' (execs (sldSuite w) (fe w 115 L)) (fun f s' => f = .brk ∧ wpAny (model PG w) (A.deeper (fe w 115 L)) (execs ((bodyOf (fdOf w 115)).drop 4) (fe w 115 L)) (fun f s' => Q (match f with | .ret v => v | _ => .none) s') (fun _ _ => False) s') (fun _ _ => False) ⟨h, g, d, t, os⟩ := by
    intro h t i j u1 u2 ev av ms un km ku xs frs' A' W H he sl
    have hsz := H.size
    refine sld_suite htp hXB hYB (by rw [hus.length]; exact hz) (by rw [hws.length]; exact hz2) (by omega) (by omega) W fun h' t' km' ku' W' => ⟨rfl, ?_⟩
    refine sld_ret W' fun h'' R W'' => ?_
    have he' := H.ends hus hws he
    have nd := W''.nd
    simp only [List.map_cons, List.nodup_cons, List.mem_cons, not_or] at nd
    obtain ⟨⟨n1, n2, n3⟩, ⟨n4, n5⟩, n6, n7⟩ := nd
    rw [sl.addrs] at n3 n5 n6
    refine hq h'' _ R M U _ _ km' ku' frs' W''.keep sl (fun p hp => W''.get (.tail _ (.tail _ (.tail _ hp)))) (hnew (W''.nw _ (.head _)).2.2 n3) (hnew (W''.nw _ (.tail _ (.tail _ (.head _)))).2.2 n6) (hnew (W''.nw _ (.tail _ (.head _))).2.2 n5) n2 n1 (fun e => n4 e.symm)
      (W''.get (.head _)) (W''.get (.tail _ (.tail _ (.head _)))) (W''.get (.tail _ (.head _))) he'.1 he'.2
  repeat none_booked
  refine wpAny_Try_except ?_
  refine execs_is (l' := sldTry w) (by kernel_rfl!) ?_
  refine sld_body htp hh hfr ho hXB hYB hus hws hz hz2 H W4 ?_ ?_ ?_
  · intro h' t' i' j' u1' u2' ev' av' ms' un' km' ku' W5 H' hlt
    have h1 := H'.le
    have h2 := H'.le'
    repeat none_booked
    exact ⟨es.length + as.length - i' - j', by omega, i', j', _, _, _, _, _, _, _, _, _, _, by omega, rfl, W5, H'⟩
  · intro h' t' e ob ev' av' W5 he hx
    refine xNote (mid := [_, _]) W5 hx (by kernel_rfl!) hfr ho fun h'' frs' tb otb ob' W6 sl hx' hb => ?_
    refine xCatch htp W6 hx' hb (by kernel_rfl!) (by kernel_rfl!) fun h₃ otb₃ W7 => ?_
    refine execs_is (l' := sldSuite w) (by kernel_rfl!) ?_
    refine wpAny_mono (land _ _ _ _ _ _ _ _ _ _ _ _ [_, _] _ _ W7 H he sl) ?_ fun _ _ x => x
    rintro f s ⟨rfl, hf⟩
    exact wpAny_execs_nil hf
  · intro h' t' i' j' u1' u2' ev' av' ms' un' km' ku' e tb ob otb c xs frs' W5 H' he sl hx hb
    refine xNoteFly W5 hx hb ?_
    refine xCatch htp W5 hx hb (by kernel_rfl!) (by kernel_rfl!) fun h₃ otb₃ W7 => ?_
    refine execs_is (l' := sldSuite w) (by kernel_rfl!) ?_
    refine wpAny_mono (land _ _ _ _ _ _ _ _ _ _ _ _ (_ :: _ :: xs) _ _ W7 H' he sl) ?_ fun _ _ x => x
    rintro f s ⟨rfl, hf⟩
    exact wpAny_execs_nil hf
end

theorem ltB_eq : ∀ a b : List UInt8, ltB a b = decide (a.map UInt8.toNat < b.map UInt8.toNat)
  | [], [] => by simp [ltB, Builtin.Bytes.order]
  | [], _ :: _ => by simp [ltB, Builtin.Bytes.order]
  | _ :: _, [] => by simp [ltB, Builtin.Bytes.order]
  | x :: a, y :: b => by
    have ih := ltB_eq a b
    unfold ltB at *
    simp only [Builtin.Bytes.order, List.map_cons, List.cons_lt_cons_iff]
    by_cases h1 : x < y
    · have : x.toNat < y.toNat := UInt8.lt_iff_toNat_lt.mp h1
      simp [h1, this]
    · by_cases h2 : x > y
      · have h3 : y.toNat < x.toNat := UInt8.lt_iff_toNat_lt.mp h2
        simp [h1, h2]
        omega
      · have : x = y := UInt8.le_antisymm (UInt8.not_lt.mp h2) (UInt8.not_lt.mp h1)
        subst this
        simp [ih]
abbrev byKind : KeyKind where
  α := List Nat
  blt a b := decide (a < b)
  irrefl a := by simpa using List.lt_irrefl a
  trans a b c h1 h2 := by simp only [decide_eq_true_eq] at *; exact List.lt_trans h1 h2
  negTrans a b c h := by
    simp only [decide_eq_true_eq] at *
    by_cases hab : a < b
    · exact .inl hab
    · exact .inr (List.lt_of_le_of_lt (List.not_lt.mp hab) h)
  total a b h1 h2 := by simp only [decide_eq_false_iff_not] at *; exact List.le_antisymm (List.not_lt.mp h2) (List.not_lt.mp h1)
  keyOf v := match v with | .bytes x _ => some (x.toList.map UInt8.toNat) | _ => none
  dflt := []
section
variable {prog : Program} {w : World} {A : Around} {E : Value → Shared → Prop} {s : Shared}
theorem oneLt_by {a b : List UInt8} {t u : Tok} {Q : Bool → Shared → Prop} (h : Q (ltB a b) s) : wpAny (model prog w) A (oneLt' true (.bytes a.toArray t) (.bytes b.toArray u)) Q E s := by
  rw [oneLt'_eq]
  simp only [if_true]
  refine wpAny_bind (wpAny_cRoomFor_byValue rfl ?_)
  refine wpAny_bind (wpAny_callSpecialIfBound?_slot (typeIs_bytes s _ t) slot_lt ?_)
  refine wpAny_call_entry slot_lt (typeIs_bytes s _ t) entry_lt ?_ (args_lt _ _)
  show wpAny _ _ (isInstance (.bytes b.toArray u) (.type "bytes") >>= fun r => _) _ _ s
  refine wpAny_bind (wpAny_isInstance (typeIs_bytes s _ u) F.sub_bytes_bytes ?_)
  exact wpAny_pure ⟨_, rfl, wpAny_truthy_bool h⟩
end
theorem byKind_oneLt : byKind.OneLt := by
  intro prog w A E s x y a b Q ha hb h
  cases x <;> simp only [byKind, reduceCtorEq, Option.some.injEq] at ha
  cases y <;> simp only [byKind, reduceCtorEq, Option.some.injEq] at hb
  cases ha; cases hb
  rename_i x tx y ty
  have := oneLt_by (prog := prog) (w := w) (A := A) (E := E) (s := s) (a := x.toList) (b := y.toList) (t := tx) (u := ty) (Q := Q) (by rw [ltB_eq]; exact h)
  simpa using this
theorem firstOf_by (x : Array UInt8) (t : Tok) : firstOfTuple' (.bytes x t) = pure none := rfl
theorem BsAre.of_cons {v : Value} {vs : List Value} {bs : List (List UInt8)} (h : BsAre (v :: vs) bs) : ∃ b t bs', bs = b :: bs' ∧ v = .bytes b.toArray t ∧ BsAre vs bs' := by
  cases bs with
  | nil => exact absurd h.length (by simp)
  | cons b bs =>
    unfold BsAre at h
    rw [List.map_cons, List.map_cons] at h
    obtain ⟨h1, h2⟩ := List.cons.inj h
    obtain ⟨t, rfl⟩ := of_asB h1
    exact ⟨b, t, bs, rfl, rfl, h2⟩
theorem mapM_first_by : ∀ {vs : List Value} {bs : List (List UInt8)}, BsAre vs bs → vs.mapM firstOfTuple' = pure (vs.map fun _ => none)
  | [], _, _ => by simp
  | v :: vs, _, h => by
    obtain ⟨b, t, bs', rfl, rfl, h'⟩ := h.of_cons
    rw [List.mapM_cons, firstOf_by, mapM_first_by h']; simp
theorem mapM_typeOf_by : ∀ {vs : List Value} {bs : List (List UInt8)}, BsAre vs bs → vs.mapM typeOf = pure (vs.map fun _ => Value.type "bytes")
  | [], _, _ => by simp
  | v :: vs, _, h => by
    obtain ⟨b, t, bs', rfl, rfl, h'⟩ := h.of_cons
    rw [List.mapM_cons, mapM_typeOf_by h']
    show (pure (Value.type "bytes") >>= fun b => pure _ >>= fun bs => pure (b :: bs)) = _
    simp
theorem keyKind_by {v₁ v₂ : Value} {vs : List Value} {bs : List (List UInt8)} (hS : BsAre (v₁ :: v₂ :: vs) bs) : keyKind' (v₁ :: v₂ :: vs).toArray = pure oneType' := by
  rw [keyKind'_eq, List.mapM_toArray, mapM_first_by hS]
  simp only [map_pure, pure_bind]
  rw [if_neg (by simp), if_neg (by simp)]
  rw [oneTypeOnly'_eq, List.mapM_toArray, mapM_typeOf_by hS]
  simp only [map_pure, pure_bind]
  have hall : ((List.map (fun _ => Value.type "bytes") (v₁ :: v₂ :: vs)).toArray.all fun x => x == Value.type "bytes") = true := by
    simp only [List.all_toArray, List.all_map, List.all_eq_true]
    intro _ _
    rfl
  have h0 : (List.map (fun _ => Value.type "bytes") (v₁ :: v₂ :: vs)).toArray[0]? = some (Value.type "bytes") := by simp
  rw [h0]
  simp only [hall, if_true, pure_bind, Option.isSome_some]
/-- the sorted list -/
def insB (x : List UInt8) : List (List UInt8) → List (List UInt8)
  | [] => [x]
  | y :: l => if ltB y x then y :: insB x l else x :: y :: l
def srt : List (List UInt8) → List (List UInt8)
  | [] => []
  | x :: l => insB x (srt l)
def Rising (l : List (List UInt8)) : Prop := l.Pairwise fun a b => ltB b a = false
theorem map_toNat_inj {a b : List UInt8} (h : a.map UInt8.toNat = b.map UInt8.toNat) : a = b := by
  induction a generalizing b with
  | nil => cases b with | nil => rfl | cons => cases h
  | cons x a ih =>
    cases b with
    | nil => cases h
    | cons y b =>
      rw [List.map_cons, List.map_cons] at h
      obtain ⟨h1, h2⟩ := List.cons.inj h
      rw [UInt8.toNat_inj.mp h1, ih h2]
theorem ltB_irrefl (a : List UInt8) : ltB a a = false := by rw [ltB_eq]; exact decide_eq_false (List.lt_irrefl _)
theorem ltB_trans {a b c : List UInt8} (h1 : ltB a b = true) (h2 : ltB b c = true) : ltB a c = true := by
  rw [ltB_eq, decide_eq_true_eq] at *; exact List.lt_trans h1 h2
theorem ltB_antisymm {a b : List UInt8} (h1 : ltB a b = false) (h2 : ltB b a = false) : a = b := by
  rw [ltB_eq, decide_eq_false_iff_not] at *
  exact map_toNat_inj (List.le_antisymm (List.not_lt.mp h2) (List.not_lt.mp h1))
theorem ltB_neg {a b c : List UInt8} (h1 : ltB b a = false) (h2 : ltB c b = false) : ltB c a = false := by
  rw [ltB_eq, decide_eq_false_iff_not] at *
  exact List.not_lt.mpr (List.le_trans (List.not_lt.mp h1) (List.not_lt.mp h2))
theorem ltB_asymm {a b : List UInt8} (h : ltB a b = true) : ltB b a = false := by
  cases q : ltB b a with
  | false => rfl
  | true => have := ltB_trans h q; rw [ltB_irrefl] at this; cases this
theorem insB_perm (x : List UInt8) : ∀ l, (insB x l).Perm (x :: l)
  | [] => .refl _
  | y :: l => by
    unfold insB
    split
    · exact ((insB_perm x l).cons y).trans (.swap ..)
    · exact .refl _
theorem srt_perm : ∀ l, (srt l).Perm l
  | [] => .refl _
  | x :: l => (insB_perm x (srt l)).trans ((srt_perm l).cons x)
theorem insB_rising {x : List UInt8} : ∀ {l}, Rising l → Rising (insB x l)
  | [], _ => List.pairwise_singleton ..
  | y :: l, h => by
    obtain ⟨h1, h2⟩ := List.pairwise_cons.mp h
    unfold insB
    split
    · rename_i hyx
      refine List.pairwise_cons.mpr ⟨fun z hz => ?_, insB_rising h2⟩
      rcases List.mem_cons.mp ((insB_perm x l).mem_iff.mp hz) with rfl | hz
      · exact ltB_asymm hyx
      · exact h1 z hz
    · rename_i hyx
      have hyx : ltB y x = false := by simpa using hyx
      refine List.pairwise_cons.mpr ⟨fun z hz => ?_, h⟩
      rcases List.mem_cons.mp hz with rfl | hz
      · exact hyx
      · exact ltB_neg hyx (h1 z hz)
theorem srt_rising : ∀ l, Rising (srt l)
  | [] => List.Pairwise.nil
  | _ :: l => insB_rising (srt_rising l)
theorem rising_unique : ∀ {a b : List (List UInt8)}, Rising a → Rising b → a.Perm b → a = b
  | [], b, _, _, p => by rw [List.nil_perm.mp p]
  | x :: a, [], _, _, p => by rw [List.perm_nil.mp p]
  | x :: a, y :: b, ha, hb, p => by
    obtain ⟨h1, h2⟩ := List.pairwise_cons.mp ha
    obtain ⟨h3, h4⟩ := List.pairwise_cons.mp hb
    have hxy : x = y := by
      rcases List.mem_cons.mp (p.mem_iff.mp (List.mem_cons_self ..)) with e | hx
      · exact e
      · rcases List.mem_cons.mp (p.mem_iff.mpr (List.mem_cons_self ..)) with e | hy
        · exact e.symm
        · exact ltB_antisymm (h3 x hx) (h1 y hy)
    subst hxy
    rw [rising_unique h2 h4 (List.Perm.cons_inv p)]
theorem BsAre.keysOf {vs : List Value} {bs : List (List UInt8)} (hS : BsAre vs bs) : KeysOf byKind (pairsOf vs) := by
  intro p hp
  rw [pairsOf_toList] at hp
  obtain ⟨b, t, _, e⟩ := hS.mem (mem_zip_self hp).2
  exact ⟨b.map UInt8.toNat, by rw [e]⟩
def byOf (v : Value) : List UInt8 := (asB v).getD []
theorem bsAre_map : ∀ (vs : List Value), (∀ v, v ∈ vs → ∃ (b : List UInt8) (t : Tok), v = .bytes b.toArray t) → BsAre vs (vs.map byOf)
  | [], _ => BsAre.nil
  | v :: vs, h => by
    obtain ⟨x, t, rfl⟩ := h v (List.mem_cons_self ..)
    exact BsAre.cons (bsAre_map vs fun u hu => h u (List.mem_cons_of_mem _ hu))
theorem BsAre.bys : ∀ {vs : List Value} {bs : List (List UInt8)}, BsAre vs bs → vs.map byOf = bs
  | [], bs, h => by
    have := h.length
    cases bs with
    | nil => rfl
    | cons => simp at this
  | v :: vs, _, h => by
    obtain ⟨b, t, bs', rfl, rfl, h'⟩ := h.of_cons
    rw [List.map_cons, h'.bys]; rfl
theorem sorted_out {vs : List Value} {bs : List (List UInt8)} (hS : BsAre vs bs) {xs : Array Keyed} (hp : xs.Perm (pairsOf vs)) (hs : SortedToK byKind xs (pairsOf vs).size) : BsAre (xs.map (·.2)).toList (srt bs) := by
  have hl : xs.toList.Perm (vs.zip vs) := by rw [← pairsOf_toList]; exact Array.perm_iff_toList_perm.mp hp
  have hmem : ∀ p, p ∈ xs.toList → p.1 = p.2 ∧ p.1 ∈ vs := fun p hp' => mem_zip_self (hl.mem_iff.mp hp')
  have key : srt bs = xs.toList.map (fun p => byOf p.1) := by
    refine rising_unique (srt_rising bs) ?_ ((srt_perm bs).trans ?_)
    · unfold Rising
      rw [List.pairwise_iff_getElem]
      intro i j hi hj hij
      have hi' : i < xs.size := by simpa using hi
      have hj' : j < xs.size := by simpa using hj
      have h1 := hs i j (Nat.le_of_lt hij) (by rw [← hp.size_eq]; exact hj')
      obtain ⟨x, t, _, ex⟩ := hS.mem (hmem xs[i] (by simp)).2
      obtain ⟨y, u, _, ey⟩ := hS.mem (hmem xs[j] (by simp)).2
      have k1 : KK byKind xs i = x.map UInt8.toNat := by unfold KK; rw [getElem?_pos xs i hi']; simp [ex, byKind]
      have k2 : KK byKind xs j = y.map UInt8.toNat := by unfold KK; rw [getElem?_pos xs j hj']; simp [ey, byKind]
      rw [k1, k2] at h1
      simp only [List.getElem_map, Array.getElem_toList]
      rw [show byOf xs[i].1 = x by rw [ex]; rfl, show byOf xs[j].1 = y by rw [ey]; rfl, ltB_eq]
      exact h1
    · have h1 := hl.map (fun p => byOf p.1)
      have e2 : (vs.zip vs).map (fun p => byOf p.1) = bs := by
        have : (vs.zip vs).map (fun p => byOf p.1) = ((vs.zip vs).map Prod.fst).map byOf := by rw [List.map_map]; rfl
        rw [this, List.map_fst_zip (Nat.le_refl _), hS.bys]
      rw [e2] at h1
      exact h1.symm
  have e : (xs.map (·.2)).toList = xs.toList.map (·.1) := by
    rw [Array.toList_map]; exact List.map_congr_left fun p hp' => (hmem p hp').1.symm
  rw [e, key]
  have h1 := bsAre_map (xs.toList.map (·.1)) (by
    intro v hv
    obtain ⟨p, hp', rfl⟩ := List.mem_map.mp hv
    obtain ⟨x, t, _, ex⟩ := hS.mem (hmem p hp').2
    exact ⟨x, t, ex⟩)
  rwa [List.map_map] at h1
section
variable {w : World} {A : Around} {E : Value → Shared → Prop} {B h : Heap} {g : Array GenState} {d : Drawn} {t : Nat} {os : OsState} {L : Addr} {K : List Str} {vs : List (Option Value)} {news : List (Addr × Obj)}
theorem zSorted {l : Addr} {us : List Value} {bs : List (List UInt8)} {Q : Value → Shared → Prop} (W : Wd B L K vs news h) (hl : h.IsList l us.toArray) (hS : BsAre us bs) (h64 : us.length < 64)
    (hq : ∀ D h' us' n, Wd B L K vs ((D, lst us' n) :: news) h' → BsAre us' (srt bs) → Q (.ref D) ⟨h', g, d, t, os⟩) : wpAny (model PG w) A (call (.builtin "sorted") [.ref l]) Q E ⟨h, g, d, t, os⟩ := by
  refine sortedK (s := ⟨h, g, d, t, os⟩) byKind_oneLt hl hS.keysOf (fun v₁ v₂ rest e => keyKind_by (by rw [← e]; exact hS)) h64 fun st' hp hs => ?_
  have h1 := sorted_out hS hp hs
  obtain ⟨e, he⟩ := sortedAll_at h us ((arrOf st').map (·.2))
  refine hq _ _ ((arrOf st').map (·.2)).toList e (W.laid (fun _ _ => sortedAll_old) ?_ ?_) h1
  · exact Heap.get?_none_of_le (Nat.le_succ _)
  · rw [he]
end

section
variable {w : World} {mg mb : Str → Option Value} {A : Around} {E : Value → Shared → Prop} {B h : Heap} {g : Array GenState} {d : Drawn} {t : Nat} {os : OsState} {L : Addr} {K : List Str} {vs : List (Option Value)} {news : List (Addr × Obj)}
/-- a list, repeated -/
theorem zMulL {l : Addr} {us zs : List Value} {n : Nat} {i : Int} {u : Tok} {Q : Value → Shared → Prop} (W : Wd B L K vs news h) (hl : h.IsList l us.toArray) (hi : i = n) (hn : n ≤ 1000) (hz : us.length * n ≤ 256) (e : (List.replicate n us).flatten = zs)
    (hq : ∀ D h', Wd B L K vs ((D, lst zs) :: news) h' → Q (.ref D) ⟨h', g, d, t, os⟩) : wpAny (model PG w) A (binaryOp .Mult (.ref l) (.int i u)) Q E ⟨h, g, d, t, os⟩ := by
  obtain ⟨m, F, hm⟩ := W.fr
  refine KMa.mul (s := ⟨h, g, d, t, os⟩) F W.nw hl (by omega) (by omega) (by rw [hi, Int.toNat_natCast]; exact hz) (by rw [hi, Int.toNat_natCast]; exact e) fun D h' F' N' hlt => hq D h' ⟨⟨m, F', hm⟩, N', ?_, W.kn⟩
  rw [List.map_cons, List.nodup_cons]
  refine ⟨fun hq => ?_, W.nd⟩
  obtain ⟨p, hp, e⟩ := List.mem_map.mp hq
  have := hlt p hp
  rw [e] at this
  exact absurd this (Nat.lt_irrefl _)
theorem zAddL {l b : Addr} {us ws : List Value} {Q : Value → Shared → Prop} (W : Wd B L K vs news h) (hl : h.IsList l us.toArray) (hb : h.IsList b ws.toArray) (hz : us.length + ws.length ≤ 100000)
    (hq : ∀ D h', Wd B L K vs ((D, lst (us ++ ws)) :: news) h' → Q (.ref D) ⟨h', g, d, t, os⟩) : wpAny (model PG w) A (binaryOp .Add (.ref l) (.ref b)) Q E ⟨h, g, d, t, os⟩ := by
  obtain ⟨m, F, hm⟩ := W.fr
  refine add_lists (s := ⟨h, g, d, t, os⟩) F W.nw hl hb (fun h' F' N' => hq _ h' ⟨⟨m, F', hm⟩, N', ?_, W.kn⟩) (by rw [sizeLine_eq]; omega)
  rw [List.map_cons, List.nodup_cons]
  refine ⟨fun hq => ?_, W.nd⟩
  obtain ⟨p, hp, e⟩ := List.mem_map.mp hq
  have := Heap.lt_size (W.nw p hp).1
  rw [e] at this
  exact absurd this (Nat.lt_irrefl _)
/-- «list(t)» -/
theorem zListT {l : Addr} {us : List Value} {n : Nat} {Q : Value → Shared → Prop} (W : Wd B L K vs news h) (hl : h.get? l = some (tup us n)) (hz : us.length ≤ 100000)
    (hq : ∀ D h' n', Wd B L K vs ((D, lst us n') :: news) h' → Q (.ref D) ⟨h', g, d, t, os⟩) : wpAny (model PG w) A (call (.type "list") [.ref l]) Q E ⟨h, g, d, t, os⟩ :=
  call_list_seq (s := ⟨h, g, d, t, os⟩) l (.inr rfl) hl rfl rfl (fun h' c' k o => hq _ h' c' (W.laid k (Heap.get?_none_of_le (Nat.le_refl _)) o)) (by rw [List.size_toArray, sizeLine_eq]; omega)
end

inductive All2 {α β : Type} (R : α → β → Prop) : List α → List β → Prop
  | nil : All2 R [] []
  | cons {a b l m} : R a b → All2 R l m → All2 R (a :: l) (b :: m)
theorem All2.imp {α β : Type} {R S : α → β → Prop} (f : ∀ a b, R a b → S a b) {l : List α} {m : List β} (h : All2 R l m) : All2 S l m := by
  induction h with
  | nil => exact .nil
  | cons p _ ih => exact .cons (f _ _ p) ih
theorem All2.length {α β : Type} {R : α → β → Prop} {l : List α} {m : List β} (h : All2 R l m) : l.length = m.length := by
  induction h with
  | nil => rfl
  | cons _ _ ih => simp [ih]
theorem All2.get {α β : Type} {R : α → β → Prop} {l : List α} {m : List β} (h : All2 R l m) : ∀ {i : Nat} {a : α}, l[i]? = some a → ∃ b, m[i]? = some b ∧ R a b := by
  induction h with
  | nil => intro i a e; simp at e
  | cons p _ ih =>
    intro i a e
    cases i with
    | zero => simp only [List.getElem?_cons_zero, Option.some.injEq] at e; subst e; exact ⟨_, rfl, p⟩
    | succ i => simp only [List.getElem?_cons_succ] at e ⊢; exact ih e
/-- a value that is a list of such -/
def LOf {α : Type} (P : Heap → Value → α → Prop) (h : Heap) (v : Value) (l : List α) : Prop := ∃ (a : Addr) (us : List Value), v = .ref a ∧ h.IsList a us.toArray ∧ All2 (P h) us l
def L0 (_ : Heap) (v : Value) (b : List UInt8) : Prop := asB v = some b
abbrev L1 := LOf L0
abbrev L2 := LOf L1
abbrev L3 := LOf L2
abbrev L4 := LOf L3
/-- every sequence that lies there stays -/
def Ks (h h' : Heap) : Prop := ∀ b o, h.get? b = some o → (∃ vs n, o.data = .seq vs n) → h'.get? b = some o
/-- what it reads lies in no frame -/
def Kept {α : Type} (P : Heap → Value → α → Prop) : Prop := ∀ (h h' : Heap) (v : Value) (x : α), Ks h h' → P h v x → P h' v x
theorem kept0 : Kept L0 := fun _ _ _ _ _ e => e
theorem Ks.list {h h' : Heap} (k : Ks h h') {a : Addr} {us : Array Value} (hl : h.IsList a us) : h'.IsList a us := by
  obtain ⟨o, ho, hc, n, hd⟩ := hl
  exact ⟨o, k a o ho ⟨_, n, hd⟩, hc, n, hd⟩
theorem Ks.of_kp {h h' : Heap} (k : Kp h h') : Ks h h' := fun b o e _ => k b o e
theorem Ks.trans {a b c : Heap} (x : Ks a b) (y : Ks b c) : Ks a c := fun q o e s => y q o (x q o e s) s
theorem keptL {α : Type} {P : Heap → Value → α → Prop} (hP : Kept P) : Kept (LOf P) := by
  rintro h h' v l k ⟨a, us, rfl, hl, hf⟩
  exact ⟨a, us, rfl, k.list hl, hf.imp fun u x => hP h h' u x k⟩
theorem BsAre.all2 : ∀ {us : List Value} {bs : List (List UInt8)} {h : Heap}, BsAre us bs → All2 (L0 h) us bs
  | [], bs, h, e => by
    have := e.length
    cases bs with
    | nil => exact .nil
    | cons => simp at this
  | v :: us, _, h, e => by
    obtain ⟨b, t, bs', rfl, rfl, e'⟩ := e.of_cons
    exact .cons rfl e'.all2
theorem All2.bs {us : List Value} {bs : List (List UInt8)} {h : Heap} (a : All2 (L0 h) us bs) : BsAre us bs := by
  induction a with
  | nil => exact BsAre.nil
  | cons p _ ih => unfold BsAre at *; rw [List.map_cons, List.map_cons, ih]; exact congrArg (· :: _) p
theorem L1.mk {h : Heap} {a : Addr} {us : List Value} {bs : List (List UInt8)} (hl : h.IsList a us.toArray) (hb : BsAre us bs) : L1 h (.ref a) bs := ⟨a, us, rfl, hl, hb.all2⟩

open PySem.SeqAt
section
variable {A : Around} {s : Shared}
theorem eq0 {u v : Value} {b : List UInt8} (h1 : L0 s.heap u b) (h2 : L0 s.heap v b) : EqAt A s u v true := by
  obtain ⟨t, rfl⟩ := of_asB h1
  obtain ⟨t', rfl⟩ := of_asB h2
  intro prog w E Q hq
  exact eqBool_bytes (by simpa using hq)
/-- two values that read alike are equal -/
theorem rcL {α : Type} {P : Heap → Value → α → Prop} (hu : A.units < cLine) (eq : ∀ u v x, P s.heap u x → P s.heap v x → EqAt A.in1 s u v true) {u v : Value} {l : List α} (h1 : LOf P s.heap u l) (h2 : LOf P s.heap v l) : RcAt A s u v true := by
  obtain ⟨a, us, rfl, hl, hf⟩ := h1
  obtain ⟨b, ws, rfl, hl', hf'⟩ := h2
  have hsz : us.toArray.size = ws.toArray.size := by simp [hf.length, hf'.length]
  have key := RcAt.lists (A := A) (e := fun _ => true) hl hl' hsz hu fun j h1 h2 => by
    have e1 : us[j]? = some us.toArray[j] := by simp
    have e2 : ws[j]? = some ws.toArray[j] := by simp
    obtain ⟨x, hx, px⟩ := hf.get e1
    obtain ⟨y, hy, py⟩ := hf'.get e2
    rw [hx] at hy
    cases hy
    exact eq _ _ _ px py
  have : ((List.range us.toArray.size).all fun _ => true) = true := by simp
  rw [this] at key
  exact key
theorem neL {α : Type} {P : Heap → Value → α → Prop} (hu : A.units < cLine) (eq : ∀ u v x, P s.heap u x → P s.heap v x → EqAt A.in1 s u v true) {u v : Value} {l : List α} (h1 : LOf P s.heap u l) (h2 : LOf P s.heap v l) : RcNeAt A s u v false := by
  obtain ⟨a, us, rfl, hl, hf⟩ := h1
  obtain ⟨b, ws, rfl, hl', hf'⟩ := h2
  have hsz : us.toArray.size = ws.toArray.size := by simp [hf.length, hf'.length]
  have key := RcNeAt.lists (A := A) (e := fun _ => true) hl hl' hsz hu fun j h1 h2 => by
    have e1 : us[j]? = some us.toArray[j] := by simp
    have e2 : ws[j]? = some ws.toArray[j] := by simp
    obtain ⟨x, hx, px⟩ := hf.get e1
    obtain ⟨y, hy, py⟩ := hf'.get e2
    rw [hx] at hy
    cases hy
    exact eq _ _ _ px py
  have : (!(List.range us.toArray.size).all fun _ => true) = false := by simp
  rw [this] at key
  exact key
theorem eqL {α : Type} {P : Heap → Value → α → Prop} (hu : A.units < cLine) (eq : ∀ u v x, P s.heap u x → P s.heap v x → EqAt A.in1 s u v true) {u v : Value} {l : List α} (h1 : LOf P s.heap u l) (h2 : LOf P s.heap v l) : EqAt A s u v true := by
  have r := rcL hu eq h1 h2
  obtain ⟨a, us, rfl, hl, hf⟩ := h1
  obtain ⟨b, ws, rfl, hl', hf'⟩ := h2
  by_cases e : a = b
  · subst e; exact EqAt.same _
  · exact EqAt.of_refs e r
theorem eq4 {u v : Value} {l} (hu : A.units + 8 < cLine) (h1 : L4 s.heap u l) (h2 : L4 s.heap v l) : RcAt A s u v true :=
  rcL (by omega) (fun _ _ _ p q => eqL (by show A.units + 1 < cLine; omega) (fun _ _ _ p q => eqL (by show A.units + 1 + 1 < cLine; omega) (fun _ _ _ p q => eqL (by show A.units + 1 + 1 + 1 < cLine; omega) (fun _ _ _ p q => eq0 p q) p q) p q) p q) h1 h2
end

section
variable {w : World} {A : Around} {E : Value → Shared → Prop} {h : Heap} {g : Array GenState} {d : Drawn} {t : Nat} {os : OsState}
/-- a tuple display that is stored name by name, the last first -/
theorem zSwap {M : Model} {s : Shared} {targets : List Expr} {value : Expr} {pos : Pos} {env : Env} {names : List Str} {Q : Flow → Shared → Prop}
    (h : wpAny M A (eval value env) (fun v s₁ => wpAny M A (unpackItems v names.length none) (fun items s₂ => wpAny M A (assignInOrder (names.reverse.map fun n => bindName env n) items.reverse) (fun _ => Q .next) E s₂) E s₁) E s)
    (hs : swapsWithSole targets value pos.line env = pure false) (hw : swappedStores targets value env = pure (some names)) :
    wpAny M A (exec (.Assign targets value pos) env) Q E s := by
  rw [exec_Assign_arm]
  refine wpAny_bind (wpAny_standAt ?_)
  rw [hs]
  refine wpAny_bind (wpAny_pure ?_)
  rw [if_neg (by decide)]
  refine wpAny_bind (wpAny_mono h (fun v s₁ h₁ => ?_) fun _ _ x => x)
  rw [hw]
  refine wpAny_bind (wpAny_pure ?_)
  unfold assignStores
  refine wpAny_bind (wpAny_rule ?_)
  exact wpAny_bind (wpAny_mono h₁ (fun _ _ x => wpAny_bind (wpAny_mono x (fun _ _ y => wpAny_pure y) fun _ _ x => x)) fun _ _ x => x)
theorem zBio {M : Model} {s : Shared} {x : Str} {f : List (Value → Sem Unit)} {v : Value} {vs : List Value} {env : Env} {Q : Unit → Shared → Prop} (hq : wpAny M A (storeName env x v) (fun _ s' => wpAny M A (assignInOrder f vs) Q E s') E s) :
    wpAny M A (assignInOrder ((fun v => bindName env x v) :: f) (v :: vs)) Q E s := wpAny_bind (wpAny_holding (wpAny_bindName hq))
theorem zBio0 {M : Model} {s : Shared} {Q : Unit → Shared → Prop} (hq : Q () s) : wpAny M A (assignInOrder [] []) Q E s := wpAny_pure hq
end

theorem FrsOk.dict : ∀ {envs : List Env} {frs : List (Addr × Obj)}, FrsOk envs frs → ∀ p ∈ frs, ∃ es n, p.2.data = .dict es n
  | [], [], _, p, hp => by cases hp
  | _ :: _, (a, o) :: _, x, p, hp => by
    rcases List.mem_cons.mp hp with rfl | hp
    · exact x.2.2.1
    · exact FrsOk.dict x.2.2.2 p hp
  | [], _ :: _, x, _, _ => x.elim
  | _ :: _, [], x, _, _ => x.elim
theorem not_frame {h : Heap} {envs : List Env} {frs : List (Addr × Obj)} (ho : FrsOk envs frs) (hf : ∀ p ∈ frs, h.get? p.1 = some p.2) {b : Addr} {o : Obj} (hb : h.get? b = some o) (hs : ∃ vs n, o.data = .seq vs n) : b ∉ frs.map (·.1) := fun hm => by
  obtain ⟨p, hp, e⟩ := List.mem_map.mp hm
  obtain ⟨es, n, hd⟩ := ho.dict p hp
  obtain ⟨vs, k, hs⟩ := hs
  have := hf p hp
  rw [e, hb] at this
  cases this
  rw [hd] at hs; cases hs
theorem Ks.of_hide {h h' : Heap} {envs : List Env} {frs : List (Addr × Obj)} (ho : FrsOk envs frs) (hf : ∀ p ∈ frs, h.get? p.1 = some p.2) (k : Kp (hideAll h (frs.map (·.1))) h') : Ks h h' :=
  fun b o e s => k b o (hideAll_get _ e (not_frame ho hf e s))
theorem Tp.hide {w : World} {mg mb : Str → Option Value} {h B : Heap} {S : List Addr} (tp : Tp w mg mb B) (k : Kp B h) (hS : ∀ a ∈ S, B.get? a = none) : Tp w mg mb (hideAll h S) :=
  tp.keeps fun b o e => hideAll_get _ (k b o e) fun hm => by rw [hS b hm] at e; cases e

theorem Wd.put {B h : Heap} {L : Addr} {K : List Str} {vs : List (Option Value)} {news : List (Addr × Obj)} {a : Addr} {o : Obj} (W : Wd B L K vs news h) (h1 : a ∉ news.map (·.1)) (h2 : a ≠ L) (h3 : B.get? a = none) (ho : h.get? a = some o) : Wd B L K vs ((a, o) :: news) h :=
  ⟨W.fr, fun p hp => by
    rcases List.mem_cons.mp hp with rfl | hp
    · exact ⟨ho, h2, h3⟩
    · exact W.nw p hp, by rw [List.map_cons, List.nodup_cons]; exact ⟨h1, W.nd⟩, W.kn⟩
theorem Wd.fresh {B h : Heap} {L : Addr} {K : List Str} {vs : List (Option Value)} {news : List (Addr × Obj)} {a : Addr} (W : Wd B L K vs news h) (hn : h.get? a = none) : a ∉ news.map (·.1) ∧ a ≠ L ∧ B.get? a = none := by
  refine ⟨fun hm => ?_, fun e => ?_, ?_⟩
  · obtain ⟨p, hp', e⟩ := List.mem_map.mp hm
    have := (W.nw p hp').1
    rw [e, hn] at this; cases this
  · obtain ⟨m, F, _⟩ := W.fr
    obtain ⟨oL, _, _, hL, _⟩ := F.ns
    rw [e, hL] at hn; cases hn
  · cases q : B.get? a with
    | none => rfl
    | some o' => have := W.keep _ _ q; rw [hn] at this; cases this
theorem Wd.noL {B h : Heap} {L : Addr} {K : List Str} {vs : List (Option Value)} {news : List (Addr × Obj)} (W : Wd B L K vs news h) : B.get? L = none := by
  obtain ⟨m, F, _⟩ := W.fr
  cases q : B.get? L with
  | none => rfl
  | some o => exact absurd (Nat.lt_of_lt_of_le (Heap.lt_size q) F.above) (Nat.lt_irrefl _)

section
variable {w : World} {mg mb : Str → Option Value} {A : Around} {E : Value → Shared → Prop} {B h : Heap} {g : Array GenState} {d : Drawn} {t : Nat} {os : OsState} {L a : Addr} {K : List Str} {vs : List (Option Value)} {pre frs : List (Addr × Obj)} {outer : List Env}
  {name : Str} {scope : Scope} {cd : Value}
/-- the frame itself and those below, as a callee's frames -/
theorem Wd.frames (W : Wd B L K vs (pre ++ frs) h) (hk : scope.kind = .function) (ho : FrsOk outer frs) : ∃ oL, h.get? L = some oL ∧ FrsOk (envOf name scope L a cd :: outer) ((L, oL) :: frs) ∧ (∀ p ∈ (L, oL) :: frs, h.get? p.1 = some p.2) ∧ (((L, oL) :: frs).map (·.1)).Nodup ∧ ∀ b ∈ ((L, oL) :: frs).map (·.1), B.get? b = none := by
  obtain ⟨m, F, _⟩ := W.fr
  obtain ⟨oL, es, ep, hL, hd, _⟩ := F.ns
  have nd := W.nd
  rw [List.map_append] at nd
  refine ⟨oL, hL, ⟨by show scope.kind ≠ .module; rw [hk]; decide, rfl, ⟨es, ep, hd⟩, ho⟩, fun p hp => ?_, ?_, fun b hb => ?_⟩
  · rcases List.mem_cons.mp hp with rfl | hp
    · exact hL
    · exact (W.nw p (List.mem_append.mpr (.inr hp))).1
  · rw [List.map_cons, List.nodup_cons]
    refine ⟨fun hm => ?_, (List.nodup_append.mp nd).2.1⟩
    obtain ⟨p, hp, e⟩ := List.mem_map.mp hm
    exact (W.nw p (List.mem_append.mpr (.inr hp))).2.1 e
  · obtain ⟨p, hp, rfl⟩ := List.mem_map.mp hb
    rcases List.mem_cons.mp hp with rfl | hp
    · exact W.noL
    · exact (W.nw p (List.mem_append.mpr (.inr hp))).2.2
/-- sorted_list_difference, called from a frame -/
theorem zSld {X Y : Addr} {us ws : List Value} {es as : List (List UInt8)} {Q : Value → Shared → Prop} (W : Wd B L K vs (pre ++ frs) h) (tp : Tp w mg mb B) (hr : A.depth + 2 < recursionLimit) (hh : A.handled = none) (hk : scope.kind = .function)
    (hA : A.frames = some (envOf name scope L a cd :: outer)) (ho : FrsOk outer frs) (hX : h.IsList X us.toArray) (hY : h.IsList Y ws.toArray) (hus : BsAre us es) (hws : BsAre ws as) (hz : es.length < 1000) (hz2 : as.length < 1000)
    (hq : ∀ h' t' T M U ms un km ku frs', Wd B L K vs ((T, tup [.ref M, .ref U]) :: (M, lst ms km) :: (U, lst un ku) :: (pre ++ frs')) h' → SlEq frs frs' → BsAre ms (sld es as [] []).1 → BsAre un (sld es as [] []).2 → Ks h h' → Q (.ref T) ⟨h', g, d, t', os⟩) :
    wpAny (model PG w) A (call (.ref 115) [.ref X, .ref Y]) Q E ⟨h, g, d, t, os⟩ := by
  obtain ⟨oL, hL, k1, k2, k3, k4⟩ := W.frames (name := name) (a := a) (cd := cd) hk ho
  have nX : X ∉ ((L, oL) :: frs).map (·.1) := by obtain ⟨o, e1, _, n, e2⟩ := hX; exact not_frame k1 k2 e1 ⟨_, n, e2⟩
  have nY : Y ∉ ((L, oL) :: frs).map (·.1) := by obtain ⟨o, e1, _, n, e2⟩ := hY; exact not_frame k1 k2 e1 ⟨_, n, e2⟩
  refine sld_call (frs := (L, oL) :: frs) (tp.keeps W.keep) hr hh hA k1 k2 k3 (Tp.hide tp W.keep k4) hX hY nX nY hus hws hz hz2 ?_
  intro h' t' T M U ms un km ku frs' kp sl hg nT nM nU d1 d2 d3 oT oM oU b1 b2
  obtain ⟨oL', frs₂, rfl, sl₂, W'⟩ := W.ret hL kp sl hg
  have ad : (pre ++ frs₂).map (·.1) = (pre ++ frs).map (·.1) := by rw [List.map_append, List.map_append, sl₂.addrs]
  obtain ⟨u1, u2, u3⟩ := W.fresh nU
  obtain ⟨m1, m2, m3⟩ := W.fresh nM
  obtain ⟨t1, t2, t3⟩ := W.fresh nT
  rw [← ad] at u1 m1 t1
  have W1 := W'.put u1 u2 u3 oU
  have W2 := W1.put (a := M) (by rw [List.map_cons, List.mem_cons, not_or]; exact ⟨d3, m1⟩) m2 m3 oM
  have W3 := W2.put (a := T) (by rw [List.map_cons, List.map_cons, List.mem_cons, List.mem_cons, not_or, not_or]; exact ⟨d1, d2, t1⟩) t2 t3 oT
  exact hq h' t' T M U ms un km ku frs₂ W3 sl₂ b1 b2 (Ks.of_hide k1 k2 kp)
end

section
variable {w : World} {mg mb : Str → Option Value} {A : Around} {E : Value → Shared → Prop} {h : Heap} {g : Array GenState} {d : Drawn} {t : Nat} {os : OsState}
theorem apart_call {X Y : Addr} {us ws : List Value} {es as : List (List UInt8)} {outer : List Env} {frs : List (Addr × Obj)} {Q : Value → Shared → Prop} (tp : Tp w mg mb h) (hr : A.depth + 3 < recursionLimit) (hh : A.handled = none)
    (hA : A.frames = some outer) (ho : FrsOk outer frs) (hf : ∀ p ∈ frs, h.get? p.1 = some p.2) (hnd : (frs.map (·.1)).Nodup) (htp : Tp w mg mb (hideAll h (frs.map (·.1))))
    (hX : h.IsList X us.toArray) (hY : h.IsList Y ws.toArray) (hus : BsAre us es) (hws : BsAre ws as) (hz : es.length < 32) (hz2 : as.length < 32)
    (hq : ∀ h' t' T frs', Kp (hideAll h (frs.map (·.1))) h' → SlEq frs frs' → (∀ p ∈ frs', h'.get? p.1 = some p.2) → h.get? T = none →
      L3 h' (.ref T) [[(sld es as [] []).1, (sld es as [] []).2], [(sld (srt (es ++ es)) (srt (as ++ as)) [] []).1, (sld (srt (es ++ es)) (srt (as ++ as)) [] []).2]] → Q (.ref T) ⟨h', g, d, t', os⟩) :
    wpAny (model PG w) A (call (.ref 153) [.ref X, .ref Y]) Q E ⟨h, g, d, t, os⟩ := by
  refine zCall ["two", "one", "plain", "doubled"] [some (.ref Y), some (.ref X), none, none] [("one", .ref X), ("two", .ref Y)] tp (by omega) (by kernel_rfl!) (by kernel_rfl!) (by kernel_rfl!) (by kernel_rfl!) (by kernel_rfl!) (by decide +kernel) (by kernel_rfl!) (by kernel_rfl!) (fun _ => by kernel_rfl!) (by kernel_rfl!) (by kernel_rfl!) (by kernel_rfl!) ?_
  intro L h₁ t₁ W₀
  have W := W₀.hide hf hnd
  clear W₀
  generalize hB : hideAll h (frs.map (·.1)) = B at *
  have hfr : (A.deeper (fe w 153 L)).frames = some (fe w 153 L :: outer) := by
    show A.frames.map _ = _
    rw [hA]; rfl
  conv => arg 3; arg 1; whnf
  repeat none_booked
  refine zSwap (names := ["plain", "doubled"]) ?_ (by kernel_rfl!) (by kernel_rfl!)
  repeat none_booked
  have hus' := hus.length
  have hws' := hws.length
  have hXB : B.IsList X us.toArray := by
    obtain ⟨o, e1, e2, n, e3⟩ := hX
    exact ⟨o, hB ▸ hideAll_get _ e1 (not_frame ho hf e1 ⟨_, n, e3⟩), e2, n, e3⟩
  have hYB : B.IsList Y ws.toArray := by
    obtain ⟨o, e1, e2, n, e3⟩ := hY
    exact ⟨o, hB ▸ hideAll_get _ e1 (not_frame ho hf e1 ⟨_, n, e3⟩), e2, n, e3⟩
  have keepL : ∀ {K : List Str} {vs : List (Option Value)} {news : List (Addr × Obj)} {h : Heap}, Wd B L K vs news h → h.IsList X us.toArray ∧ h.IsList Y ws.toArray := fun W' => ⟨(Ks.of_kp W'.keep).list hXB, (Ks.of_kp W'.keep).list hYB⟩
  refine zSld (pre := []) W htp (by show A.depth + 1 + 2 < _; omega) hh (by kernel_rfl!) hfr ho (keepL W).1 (keepL W).2 hus hws (by omega) (by omega) ?_
  intro h₂ t₂ T₁ M₁ U₁ ms₁ un₁ km₁ ku₁ frs₁ W₁ sl₁ b₁ b₂ _
  clear W
  have twice : ∀ l : List Value, (List.replicate 2 l).flatten = l ++ l := fun l => by simp
  repeat none_booked
  refine zMulL (n := 2) W₁ (keepL W₁).1 rfl (by omega) (by omega) (twice us) fun D₁ h₃ W₂ => ?_
  clear W₁
  repeat none_booked
  refine zSorted W₂ (W₂.lst (.head _)) (hus.append hus) (by rw [List.length_append]; omega) fun D₂ h₄ us₂ n₂ W₃ b₃ => ?_
  clear W₂
  repeat none_booked
  refine zMulL (n := 2) W₃ (keepL W₃).2 rfl (by omega) (by omega) (twice ws) fun D₃ h₅ W₄ => ?_
  clear W₃
  repeat none_booked
  refine zSorted W₄ (W₄.lst (.head _)) (hws.append hws) (by rw [List.length_append]; omega) fun D₄ h₆ ws₂ n₄ W₅ b₄ => ?_
  clear W₄
  repeat none_booked
  have l1 : (srt (es ++ es)).length < 1000 := by rw [(srt_perm _).length_eq, List.length_append]; omega
  have l2 : (srt (as ++ as)).length < 1000 := by rw [(srt_perm _).length_eq, List.length_append]; omega
  refine zSld (pre := [_, _, _, _, _, _, _]) W₅ htp (by show A.depth + 1 + 2 < _; omega) hh (by kernel_rfl!) hfr (sl₁.ok ho) (W₅.lst (us := us₂) (n := n₂) (.tail _ (.tail _ (.head _)))) (W₅.lst (.head _)) b₃ b₄ l1 l2 ?_
  intro h₇ t₇ T₂ M₂ U₂ ms₂ un₂ km₂ ku₂ frs₂ W₆ sl₂ b₅ b₆ _
  clear W₅
  repeat none_booked
  rename Wd _ _ _ _ _ _ => W₇
  refine zUnpT hh (W₇.tup (.head _)) (by rfl) fun h₈ kp₈ => ?_
  replace W₇ := W₇.kp kp₈
  show wpAny _ _ (assignInOrder ((fun v => bindName (fe w 153 L) "doubled" v) :: (fun v => bindName (fe w 153 L) "plain" v) :: []) [.ref T₂, .ref T₁]) _ _ _
  refine zBio ?_
  repeat none_booked
  refine zBio ?_
  repeat none_booked
  refine zBio0 ?_
  rename Wd _ _ _ [_, _, some _, some _] _ _ => W₈
  clear W₇
  repeat none_booked
  refine zListT W₈ (W₈.get (a := T₁) (o := tup [.ref M₁, .ref U₁]) (by simp)) (by simp) fun R₁ h₉ c₁ W₉ => ?_
  clear W₈
  repeat none_booked
  refine zListT W₉ (W₉.get (a := T₂) (o := tup [.ref M₂, .ref U₂]) (by simp)) (by simp) fun R₂ h₁₀ c₂ W₁₀ => ?_
  clear W₉
  repeat none_booked
  rename Wd _ _ _ _ ((_, _) :: (R₂, _) :: _) _ => W₁₁
  rename_i T _
  have hfree : h.get? T = none := by
    have z := W₁₁.nw _ (.head _)
    cases q : h.get? T with
    | none => rfl
    | some o =>
      have hT : T ∉ frs.map (·.1) := fun hm => by
        rw [← (sl₁.trans sl₂).addrs] at hm
        have nd := W₁₁.nd
        rw [List.map_cons, List.nodup_cons] at nd
        obtain ⟨p, hp, e⟩ := List.mem_map.mp hm
        refine nd.1 (List.mem_map.mpr ⟨p, ?_, e⟩)
        simp [hp]
      have := hideAll_get _ q hT
      rw [hB, z.2.2] at this
      cases this
  refine hq _ _ _ frs₂ W₁₁.keep (sl₁.trans sl₂) (fun p hp => W₁₁.get (a := p.1) (o := p.2) (by simp [hp])) hfree ⟨_, _, rfl, W₁₁.lst (.head _), .cons ⟨R₁, _, rfl, W₁₁.lst (us := [.ref M₁, .ref U₁]) (n := c₁) (by simp), .cons (L1.mk (W₁₁.lst (us := ms₁) (n := km₁) (by simp)) b₁) (.cons (L1.mk (W₁₁.lst (us := un₁) (n := ku₁) (by simp)) b₂) .nil)⟩
    (.cons ⟨R₂, _, rfl, W₁₁.lst (us := [.ref M₂, .ref U₂]) (n := c₂) (by simp), .cons (L1.mk (W₁₁.lst (us := ms₂) (n := km₂) (by simp)) b₅) (.cons (L1.mk (W₁₁.lst (us := un₂) (n := ku₂) (by simp)) b₆) .nil)⟩ .nil)⟩
end

def straightL (ups : Nat) (ns : List (List UInt8)) : List UInt8 := if ups + ns.length > 0 then joinL 47 (List.replicate ups [46, 46] ++ ns) else [46]
theorem flat_rep {α : Type} (n : Nat) (v : α) : (List.replicate n [v]).flatten = List.replicate n v := by
  induction n with
  | zero => rfl
  | succ n ih => rw [List.replicate_succ, List.flatten_cons, ih, List.replicate_succ]; rfl
theorem bs_rep (n : Nat) (b : List UInt8) (u : Tok) : BsAre (List.replicate n (.bytes b.toArray u)) (List.replicate n b) := by
  unfold BsAre; rw [List.map_replicate, List.map_replicate]; rfl
theorem sum_len {l : List (List UInt8)} (h : ∀ b ∈ l, b.length ≤ 100) : (l.map List.length).sum ≤ 100 * l.length := by
  induction l with
  | nil => simp
  | cons x l ih =>
    have h1 := h x (.head _)
    have h2 := ih fun b hb => h b (.tail _ hb)
    simp only [List.map_cons, List.sum_cons, List.length_cons]
    omega
section
variable {w : World} {mg mb : Str → Option Value} {A : Around} {E : Value → Shared → Prop} {h : Heap} {g : Array GenState} {d : Drawn} {t : Nat} {os : OsState}
theorem zLenL {l : Addr} {us : List Value} {Q : Value → Shared → Prop} (hl : h.IsList l us.toArray) (hz : us.length ≤ 100000) (hq : ∀ u t', Q (.int us.length u) ⟨h, g, d, t', os⟩) : wpAny (model PG w) A (call (.builtin "len") [.ref l]) Q E ⟨h, g, d, t, os⟩ :=
  call_len_list (s := ⟨h, g, d, t, os⟩) hl (by simp; omega) (by simpa using hq _ _)
theorem zGtI {i j : Int} {u v : Tok} {Q : Value → Shared → Prop} (hq : Q (.bool (decide (j < i))) ⟨h, g, d, t, os⟩) : wpAny (model PG w) A (compareOp .Gt (.int i u) (.int j v)) Q E ⟨h, g, d, t, os⟩ := PyProof.Rows.gt_int (s := ⟨h, g, d, t, os⟩) hq
theorem straight_call {N : Addr} {us : List Value} {ns : List (List UInt8)} {ups : Nat} {u : Tok} {Q : Value → Shared → Prop} (tp : Tp w mg mb h) (hr : A.depth + 2 < recursionLimit) (hl : h.IsList N us.toArray) (hus : BsAre us ns) (hz : ups ≤ 100) (hz2 : ns.length ≤ 100) (hz3 : ∀ b ∈ ns, b.length ≤ 100)
    (hq : ∀ h' t' u', Kp h h' → Q (.bytes (straightL ups ns).toArray u') ⟨h', g, d, t', os⟩) :
    wpAny (model PG w) A (call (.ref 129) [.int ups u, .ref N]) Q E ⟨h, g, d, t, os⟩ := by
  refine zCall ["names", "ups"] [some (.ref N), some (.int ups u)] [("ups", .int ups u), ("names", .ref N)] tp (by omega) (by kernel_rfl!) (by kernel_rfl!) (by kernel_rfl!) (by kernel_rfl!) (by kernel_rfl!) (by decide +kernel) (by kernel_rfl!) (by kernel_rfl!) (fun _ => by kernel_rfl!) (by kernel_rfl!) (by kernel_rfl!) (by kernel_rfl!) ?_
  intro L h₁ t₁ W
  have hul := hus.length
  conv => arg 3; arg 1; whnf
  repeat none_booked
  refine zLenL ((Ks.of_kp W.keep).list hl) (by omega) fun _ _ => ?_
  repeat none_booked
  refine zGtI ?_
  repeat none_booked
  by_cases h0 : ups + ns.length > 0
  · rw [show decide ((0 : Int) < (ups : Int) + (us.length : Int)) = true from decide_eq_true (by omega)]
    repeat none_booked
    refine TKb.mJ (a := [47]) ?_
    repeat none_booked
    rename Wd _ _ _ _ (_ :: _) _ => W2
    refine zMulL (n := ups) W2 (W2.lst (.head _)) rfl (by omega) (by simp; omega) (flat_rep ups _) fun D₁ h₃ W₃ => ?_
    repeat none_booked
    refine zAddL W₃ (W₃.lst (.head _)) ((Ks.of_kp W₃.keep).list hl) (by simp; omega) fun D₂ h₄ W₄ => ?_
    repeat none_booked
    have hb := fun u => (bs_rep ups [46, 46] u).append hus
    have hsz : ((List.replicate ups [46, 46] ++ ns).map List.length).sum + (List.replicate ups [46, 46] ++ ns).length < 1000000 := by
      have := sum_len (l := ns) hz3
      have hrep : ∀ n : Nat, (List.replicate n 2).sum = 2 * n := fun n => by
        induction n with
        | zero => rfl
        | succ n ih => rw [List.replicate_succ, List.sum_cons, ih]; omega
      rw [List.map_append, List.sum_append, List.map_replicate, List.length_append, List.length_replicate]
      show (List.replicate ups 2).sum + _ + _ < _
      rw [hrep]
      omega
    refine TKb.join (W₄.get (.head _)) (hb _) hsz fun t' k' => ?_
    have e : straightL ups ns = joinL 47 (List.replicate ups [46, 46] ++ ns) := by unfold straightL; rw [if_pos h0]
    rw [e] at hq
    exact hq _ _ _ W₄.keep
  · rw [show decide ((0 : Int) < (ups : Int) + (us.length : Int)) = false from decide_eq_false (by omega)]
    repeat none_booked
    have e : straightL ups ns = [46] := by unfold straightL; rw [if_neg h0]
    rw [e] at hq
    exact hq _ _ _ W.keep
end

theorem Wd.front {B h : Heap} {L : Addr} {K : List Str} {vs : List (Option Value)} {pre post : List (Addr × Obj)} {p : Addr × Obj} (W : Wd B L K vs (pre ++ p :: post) h) : Wd B L K vs (p :: (pre ++ post)) h :=
  ⟨W.fr, fun q hq => W.nw q (List.perm_middle.mem_iff.mpr hq), (List.perm_middle.map _).nodup_iff.mp W.nd, W.kn⟩
structure HS where
  names : List (List UInt8)
  ups : Nat
  height : Int
  highest : Int
  records : List (List UInt8)
def hstep (s : HS) (c : List UInt8) : HS :=
  if c = [46, 46] then ⟨s.names.dropLast, s.ups + (if s.names = [] then 1 else 0), s.height - 1, s.highest, s.records⟩
  else if c = [46] ∨ c = [] then s
  else ⟨s.names ++ [c], s.ups, s.height + 1, max (s.height + 1) s.highest, s.records ++ (if s.height + 1 > s.highest then [c] else [])⟩
def heightsL (steps : List (List UInt8)) : HS := steps.foldl hstep ⟨[], 0, 0, 0, []⟩
theorem heights_len : ∀ (l : List (List UInt8)) (s : HS), (l.foldl hstep s).names.length ≤ s.names.length + l.length ∧ (l.foldl hstep s).records.length ≤ s.records.length + l.length
  | [], s => by simp
  | c :: l, s => by
    have ih := heights_len l (hstep s c)
    have h1 : (hstep s c).names.length ≤ s.names.length + 1 ∧ (hstep s c).records.length ≤ s.records.length + 1 := by
      unfold hstep
      split
      · simp; omega
      · split
        · simp
        · refine ⟨by simp, ?_⟩
          split <;> simp
    simp only [List.foldl_cons, List.length_cons]
    omega
open PySem.SeqAt in
section
variable {w : World} {mg mb : Str → Option Value} {A : Around} {E : Value → Shared → Prop} {h : Heap} {g : Array GenState} {d : Drawn} {t : Nat} {os : OsState}
theorem zEqNil {l b : Addr} {us : List Value} {Q : Value → Shared → Prop} (hl : h.IsList l us.toArray) (hb : h.IsList b ([] : List Value).toArray) (hu : A.units < cLine) (hq : Q (.bool us.isEmpty) ⟨h, g, d, t, os⟩) :
    wpAny (model PG w) A (compareOp .Eq (.ref l) (.ref b)) Q E ⟨h, g, d, t, os⟩ := by
  cases us with
  | nil => exact eq_listAt (s := ⟨h, g, d, t, os⟩) (e := fun _ => true) hl hb rfl hu (fun j h1 _ => by simp at h1) (by simpa using hq)
  | cons x l => exact eq_list_lengthsAt (s := ⟨h, g, d, t, os⟩) hl hb (by simp) hu hq
theorem zNotInB {l : Addr} {us : List Value} {bs : List (List UInt8)} {x : List UInt8} {u : Tok} {Q : Value → Shared → Prop} (hl : h.IsList l us.toArray) (hus : BsAre us bs) (hq : Q (.bool (!decide (x ∈ bs))) ⟨h, g, d, t, os⟩) :
    wpAny (model PG w) A (compareOp .NotIn (.bytes x.toArray u) (.ref l)) Q E ⟨h, g, d, t, os⟩ := by
  refine notIn_listAt (s := ⟨h, g, d, t, os⟩) (fun y => decide (asB y = some x)) hl (fun y hy => ?_) ?_
  · obtain ⟨b, t', _, rfl⟩ := hus.mem (by simpa using hy)
    intro prog w E Q hq
    refine eqBool_bytes ?_
    have : decide (b.toArray.toList = x.toArray.toList) = decide (asB (.bytes b.toArray t') = some x) := by simp [asB]
    rw [this]; exact hq
  · have : us.toArray.any (fun y => decide (asB y = some x)) = decide (x ∈ bs) := by
      rw [List.any_toArray, Bool.eq_iff_iff, List.any_eq_true, decide_eq_true_iff]
      constructor
      · rintro ⟨y, hy, e⟩
        have e := of_decide_eq_true e
        obtain ⟨b, t', hb, rfl⟩ := hus.mem hy
        rw [asB_mk] at e
        cases e; exact hb
      · intro hx
        obtain ⟨i, hi⟩ := List.mem_iff_getElem?.mp hx
        obtain ⟨t', ht⟩ := hus.get hi
        exact ⟨_, List.mem_of_getElem? ht, decide_eq_true rfl⟩
    rw [this]; exact hq
theorem zMax {i j : Int} {u v : Tok} {Q : Value → Shared → Prop} {B : Heap} {L : Addr} {K : List Str} {vs : List (Option Value)} {news : List (Addr × Obj)} (hh : A.handled = none) (W : Wd B L K vs news h)
    (hq : ∀ h' t' u', Wd B L K vs news h' → Q (.int (max i j) u') ⟨h', g, d, t', os⟩) : wpAny (model PG w) A (call (.builtin "max") [.int i u, .int j v]) Q E ⟨h, g, d, t, os⟩ := by
  obtain ⟨m, F, hm⟩ := W.fr
  refine max_two_N (s := ⟨h, g, d, t, os⟩) hh F W.nw fun h' tk F' N' => ?_
  have e : (if j > i then j else i) = max i j := by
    split <;> omega
  rw [e]
  exact hq h' tk _ ⟨⟨m, F', hm⟩, N', W.nd, W.kn⟩
theorem heights_call {N : Addr} {us : List Value} {ns : List (List UInt8)} {Q : Value → Shared → Prop} (tp : Tp w mg mb h) (hr : A.depth + 2 < recursionLimit) (hh : A.handled = none) (hu : A.units < 5000) (hl : h.IsList N us.toArray) (hus : BsAre us ns) (hz : ns.length ≤ 100)
    (hq : ∀ h' t' T M R ms rs km kr u₁ u₂, Kp h h' → h.get? T = none → h.get? M = none → h.get? R = none → M ≠ R → h'.get? T = some (lst [.int (heightsL ns).ups u₁, .ref M, .int ((heightsL ns).highest - (heightsL ns).height) u₂, .ref R]) → h'.get? M = some (lst ms km) → h'.get? R = some (lst rs kr) →
      BsAre ms (heightsL ns).names → BsAre rs (heightsL ns).records.reverse → Q (.ref T) ⟨h', g, d, t', os⟩) :
    wpAny (model PG w) A (call (.ref 136) [.ref N]) Q E ⟨h, g, d, t, os⟩ := by
  refine zCall ["steps", "names", "ups", "height", "highest", "records", "step"] [some (.ref N), none, none, none, none, none, none] [("steps", .ref N)] tp (by omega) (by kernel_rfl!) (by kernel_rfl!) (by kernel_rfl!) (by kernel_rfl!) (by kernel_rfl!) (by decide +kernel) (by kernel_rfl!) (by kernel_rfl!) (fun _ => by kernel_rfl!) (by kernel_rfl!) (by kernel_rfl!) (by kernel_rfl!) ?_
  intro L h₁ t₁ W
  have hul := hus.length
  have huu : (A.deeper (fe w 136 L)).units < cLine := by show A.units + 3 < cLine; unfold cLine; omega
  conv => arg 3; arg 1; whnf
  repeat none_booked
  rename Wd _ _ _ _ (_ :: _ :: _) _ => W1
  refine zAsgT hh (W1.tup (.head _)) (by kernel_rfl!) (by kernel_rfl!) fun h₂ kp₂ => ?_
  replace W1 := W1.kp kp₂
  clear W
  repeat none_booked
  rename Wd _ _ _ [_, some _, some _, some _, some _, some _, _] _ _ => W2
  clear W1
  refine wpAny_For ?_ (by intro _; rfl)
  repeat none_booked
  refine zForL L (fun j vs' news' => ∃ M R ms rs km kr u₁ u₂ u₃ sv, vs' = [some (.ref N), some (.ref M), some (.int (heightsL (ns.take j)).ups u₁), some (.int (heightsL (ns.take j)).height u₂), some (.int (heightsL (ns.take j)).highest u₃), some (.ref R), sv] ∧
      (M, lst ms km) ∈ news' ∧ (R, lst rs kr) ∈ news' ∧ BsAre ms (heightsL (ns.take j)).names ∧ BsAre rs (heightsL (ns.take j)).records) hh rfl (by kernel_rfl!) (by kernel_rfl!) ((Ks.of_kp W2.keep).list hl) W2 ?_ ?_ ?_ ?_
  · intro j vs' news' h' d' o' _ W'
    exact (Ks.of_kp W'.keep).list hl
  · exact ⟨_, _, [], [], 0, 0, _, _, _, none, rfl, by simp, by simp, BsAre.nil, BsAre.nil⟩
  · rintro j v vs' news' it ito hv ⟨M, R, ms, rs, km, kr, u₁, u₂, u₃, sv, rfl, hM, hR, hms, hrs⟩
    refine ⟨_, by repeat (with_reducible first | apply Put.head | apply Put.tail), fun h₃ t₃ W3 => ?_⟩
    clear W2
    obtain ⟨c, hc, hvc⟩ : ∃ c, ns[j]? = some c ∧ asB v = some c := by
      have := congrArg (·[j]?) hus
      simp only [List.getElem?_map, hv, Option.map_some] at this
      cases e : ns[j]? with
      | none => rw [e] at this; cases this
      | some c => rw [e] at this; exact ⟨c, rfl, Option.some.inj this⟩
    obtain ⟨tc, rfl⟩ := of_asB hvc
    have hlen := heights_len (ns.take j) ⟨[], 0, 0, 0, []⟩
    change (heightsL (ns.take j)).names.length ≤ _ ∧ (heightsL (ns.take j)).records.length ≤ _ at hlen
    simp only [List.length_nil, List.length_take] at hlen
    generalize hst : heightsL (ns.take j) = st at *
    have hnext : heightsL (ns.take (j + 1)) = hstep st c := by
      unfold heightsL at *
      rw [List.take_add_one, hc, Option.toList_some, List.foldl_append, hst]; rfl
    rw [hnext]
    repeat none_booked
    refine TKb.eq ?_
    repeat none_booked
    by_cases hdd : c = [46, 46]
    · rw [decide_eq_true hdd]
      repeat none_booked
      refine zSwap (names := ["names", "ups", "height"]) ?_ (by kernel_rfl!) (by kernel_rfl!)
      repeat none_booked
      have hml := hms.length
      have hM3 : (M, lst ms km) ∈ (it, ito) :: news' := .tail _ hM
      refine zCut W3 (W3.lst hM3) IsPart.none (IsPart.int _ _) IsPart.none (by simp) (by omega) (slicePick_butLast _ 1 (by omega)) (fun D₁ h₄ W4 => ?_) rfl (fun _ => rfl)
      clear W3
      repeat none_booked
      rename Wd _ _ _ _ (_ :: (D₁, _) :: _) _ => W5
      refine zEqNil (W5.lst (us := ms) (n := km) (.tail _ (.tail _ hM3))) (W5.lst (us := []) (n := 0) (.head _)) huu ?_
      repeat none_booked
      have hemp : ms.isEmpty = decide (st.names = []) := by
        cases ms with
        | nil => rw [show st.names = [] from List.length_eq_zero_iff.mp (by rw [← hml]; rfl)]; rfl
        | cons x l => exact (decide_eq_false fun e => by rw [e] at hml; simp at hml).symm
      have hnms : BsAre (ms.toArray.toList.take (ms.toArray.size - 1)) st.names.dropLast := by
        rw [List.dropLast_eq_take, ← hml]
        simpa using hms.take (ms.length - 1)
      have hs1 : hstep st c = ⟨st.names.dropLast, st.ups + (if st.names = [] then 1 else 0), st.height - 1, st.highest, st.records⟩ := by unfold hstep; rw [if_pos hdd]
      rw [hemp]
      by_cases he : st.names = []
      · rw [decide_eq_true he, if_pos rfl]
        repeat none_booked
        rename Wd _ _ _ _ (_ :: _ :: (D₁, _) :: _) _ => W6
        refine zUnpT hh (W6.tup (.head _)) (by rfl) fun h₈ kp₈ => ?_
        replace W6 := W6.kp kp₈
        clear W5 W4
        refine zBio ?_
        repeat none_booked
        refine zBio ?_
        repeat none_booked
        refine zBio ?_
        repeat none_booked
        refine zBio0 ?_
        repeat none_booked
        rename Wd _ _ _ [_, some (.ref D₁), some _, some _, _, _, _] _ _ => W7
        rw [if_pos he] at hs1
        rw [hs1]
        exact ⟨_, _, _, _, rfl, W7.front (pre := [_, _, _]), D₁, R, _, rs, 0, kr, _, _, _, _, rfl, by simp, by simp [hR], hnms, hrs⟩
      · rw [decide_eq_false he, if_neg (by decide)]
        repeat none_booked
        rename Wd _ _ _ _ (_ :: _ :: (D₁, _) :: _) _ => W6
        refine zUnpT hh (W6.tup (.head _)) (by rfl) fun h₈ kp₈ => ?_
        replace W6 := W6.kp kp₈
        clear W5 W4
        refine zBio ?_
        repeat none_booked
        refine zBio ?_
        repeat none_booked
        refine zBio ?_
        repeat none_booked
        refine zBio0 ?_
        repeat none_booked
        rename Wd _ _ _ [_, some (.ref D₁), some _, some _, _, _, _] _ _ => W7
        rw [if_neg he] at hs1
        rw [hs1]
        exact ⟨_, _, _, _, rfl, W7.front (pre := [_, _, _]), D₁, R, _, rs, 0, kr, _, _, _, _, rfl, by simp, by simp [hR], hnms, hrs⟩
    · rw [decide_eq_false hdd]
      repeat none_booked
      rename Wd _ _ _ _ (_ :: _) _ => W4
      have hM3 : (M, lst ms km) ∈ (it, ito) :: news' := .tail _ hM
      have hR3 : (R, lst rs kr) ∈ (it, ito) :: news' := .tail _ hR
      have hml := hms.length
      have hrl := hrs.length
      refine zNotInB (us := [.bytes [46].toArray _, .bytes [].toArray _]) (bs := [[46], []]) (W4.lst (.head _)) (BsAre.cons (BsAre.cons BsAre.nil)) ?_
      repeat none_booked
      by_cases hsk : c = [46] ∨ c = []
      · rw [show (!decide (c ∈ [[46], ([] : List UInt8)])) = false from by rw [Bool.not_eq_false', decide_eq_true_eq]; simpa using hsk]
        repeat none_booked
        have hs1 : hstep st c = st := by unfold hstep; rw [if_neg hdd, if_pos hsk]
        rw [hs1]
        exact ⟨_, _, _, _, rfl, W4.front (pre := [_]), M, R, ms, rs, km, kr, _, _, _, _, rfl, by simp [hM], by simp [hR], hms, hrs⟩
      · rw [show (!decide (c ∈ [[46], ([] : List UInt8)])) = true from by rw [Bool.not_eq_true', decide_eq_false_iff_not]; simpa using hsk]
        have hs1 : hstep st c = ⟨st.names ++ [c], st.ups, st.height + 1, max (st.height + 1) st.highest, st.records ++ (if st.height + 1 > st.highest then [c] else [])⟩ := by unfold hstep; rw [if_neg hdd, if_neg hsk]
        repeat none_booked
        refine zSwap (names := ["names", "height"]) ?_ (by kernel_rfl!) (by kernel_rfl!)
        repeat none_booked
        rename Wd _ _ _ _ (_ :: _ :: (it, _) :: _) _ => W5
        refine zAddL W5 (W5.lst (us := ms) (n := km) (.tail _ (.tail _ hM3))) (W5.lst (us := [Value.bytes c.toArray tc]) (n := 0) (.head _)) (by simp; omega) fun M₂ h₆ W6 => ?_
        clear W5 W4 W3
        repeat none_booked
        rename Wd _ _ _ _ (_ :: (M₂, _) :: _) _ => W7
        refine zUnpT hh (W7.tup (.head _)) (by rfl) fun h₈ kp₈ => ?_
        replace W7 := W7.kp kp₈
        clear W6
        refine zBio ?_
        repeat none_booked
        refine zBio ?_
        repeat none_booked
        refine zBio0 ?_
        repeat none_booked
        rename Wd _ _ _ [_, some (.ref M₂), some _, some _, _, _, _] _ _ => W8
        clear W7
        refine zSwap (names := ["records", "highest"]) ?_ (by kernel_rfl!) (by kernel_rfl!)
        repeat none_booked
        refine zGtI ?_
        repeat none_booked
        have hnm : BsAre (ms ++ [Value.bytes c.toArray tc]) (st.names ++ [c]) := hms.append (BsAre.cons BsAre.nil)
        by_cases hgt : st.height + 1 > st.highest
        · rw [decide_eq_true (show st.highest < st.height + 1 from hgt), if_pos rfl]
          repeat none_booked
          rename Wd _ _ _ _ (_ :: _ :: (M₂, _) :: _) _ => W9
          clear W8
          refine zAddL W9 (W9.lst (us := rs) (n := kr) (by simp [hR])) (W9.lst (us := [Value.bytes c.toArray tc]) (n := 0) (.head _)) (by simp; omega) fun R₂ h₁₀ W10 => ?_
          clear W9
          repeat none_booked
          refine zMax hh W10 fun h₁₁ t₁₁ u' W11 => ?_
          clear W10
          repeat none_booked
          rename Wd _ _ _ _ (_ :: (R₂, _) :: _) _ => W12
          refine zUnpT hh (W12.tup (.head _)) (by rfl) fun h₁₃ kp₁₃ => ?_
          replace W12 := W12.kp kp₁₃
          clear W11
          refine zBio ?_
          repeat none_booked
          refine zBio ?_
          repeat none_booked
          refine zBio0 ?_
          repeat none_booked
          rename Wd _ _ _ [_, _, _, _, _, some (.ref R₂), _] _ _ => W13
          rw [if_pos hgt] at hs1
          rw [hs1]
          exact ⟨_, _, _, _, rfl, W13.front (pre := [_, _, _, _, _, _, _]), M₂, R₂, _, _, 0, 0, _, _, _, _, rfl, by simp, .tail _ (.head _), hnm, hrs.append (BsAre.cons BsAre.nil)⟩
        · rw [decide_eq_false (show ¬ st.highest < st.height + 1 from hgt), if_neg (by decide)]
          repeat none_booked
          rename Wd _ _ _ _ (_ :: _ :: (M₂, _) :: _) _ => W9
          clear W8
          refine zAddL W9 (W9.lst (us := rs) (n := kr) (by simp [hR])) (W9.lst (us := []) (n := 0) (.head _)) (by simp; omega) fun R₂ h₁₀ W10 => ?_
          clear W9
          repeat none_booked
          refine zMax hh W10 fun h₁₁ t₁₁ u' W11 => ?_
          clear W10
          repeat none_booked
          rename Wd _ _ _ _ (_ :: (R₂, _) :: _) _ => W12
          refine zUnpT hh (W12.tup (.head _)) (by rfl) fun h₁₃ kp₁₃ => ?_
          replace W12 := W12.kp kp₁₃
          clear W11
          refine zBio ?_
          repeat none_booked
          refine zBio ?_
          repeat none_booked
          refine zBio0 ?_
          repeat none_booked
          rename Wd _ _ _ [_, _, _, _, _, some (.ref R₂), _] _ _ => W13
          rw [if_neg hgt] at hs1
          rw [hs1]
          exact ⟨_, _, _, _, rfl, W13.front (pre := [_, _, _, _, _, _, _]), M₂, R₂, _, _, 0, 0, _, _, _, _, rfl, by simp, .tail _ (.head _), hnm, hrs.append BsAre.nil⟩
  · rintro vs' news' h₃ t₃ W3 ⟨M, R, ms, rs, km, kr, u₁, u₂, u₃, sv, rfl, hM, hR, hms, hrs⟩
    rw [List.take_of_length_le (by omega)] at *
    dsimp only
    repeat none_booked
    have hrl := hrs.length
    have hlen := heights_len ns ⟨[], 0, 0, 0, []⟩
    change (heightsL ns).names.length ≤ _ ∧ (heightsL ns).records.length ≤ _ at hlen
    simp only [List.length_nil] at hlen
    refine zCut W3 (W3.lst hR) IsPart.none IsPart.none (IsPart.int _ _) (by simp) (by omega) (krv_pick _) (fun D₁ h₄ W4 => ?_) rfl (fun _ => rfl)
    repeat none_booked
    rename Wd _ _ _ _ (_ :: (D₁, _) :: _) _ => W5
    exact hq _ _ _ M D₁ ms _ km 0 _ _ W5.keep (W5.nw _ (.head _)).2.2 (W5.nw _ (.tail _ (.tail _ hM))).2.2 (W5.nw _ (.tail _ (.head _))).2.2 (fun e => (List.nodup_cons.mp (List.nodup_cons.mp W5.nd).2).1 (e ▸ List.mem_map_of_mem (f := (·.1)) hM)) (W5.get (.head _)) (W5.get (.tail _ (.tail _ hM))) (W5.get (.tail _ (.head _))) hms (by simpa using hrs.reverse)
end

def kept3 (c : List UInt8) : Bool := !decide (c ∈ [[], [46], [46, 46]])
def leftL (a : List UInt8) : List (List UInt8) := srt ((splitL 47 a).filter kept3)
theorem paired_eq {α : Type} : ∀ {l m : List α}, Paired (fun v y => y = v) l m → l = m
  | _, _, .nil => rfl
  | _, _, .cons e h => by rw [paired_eq h, e]
theorem BsAre.filter (p : List UInt8 → Bool) : ∀ {vs : List Value} {bs : List (List UInt8)}, BsAre vs bs → BsAre (vs.filter fun v => p (byOf v)) (bs.filter p)
  | [], bs, h => by
    have := h.length
    cases bs with
    | nil => exact BsAre.nil
    | cons => simp at this
  | v :: vs, _, h => by
    obtain ⟨b, t, bs', rfl, rfl, h'⟩ := h.of_cons
    have ih := BsAre.filter p h'
    have e : byOf (.bytes b.toArray t) = b := rfl
    rw [List.filter_cons, List.filter_cons, e]
    cases p b with
    | true => exact BsAre.cons ih
    | false => exact ih
section
variable {w : World} {mg mb : Str → Option Value} {A : Around} {E : Value → Shared → Prop} {h : Heap} {g : Array GenState} {d : Drawn} {t : Nat} {os : OsState}
theorem left_call {a : List UInt8} {u : Tok} {Q : Value → Shared → Prop} (tp : Tp w mg mb h) (hr : A.depth + 2 < recursionLimit) (hh : A.handled = none) (hz : a.length < 60)
    (hq : ∀ h' t' T us n, Kp h h' → h.get? T = none → h'.get? T = some (lst us n) → BsAre us (leftL a) → Q (.ref T) ⟨h', g, d, t', os⟩) :
    wpAny (model PG w) A (call (.ref 141) [.bytes a.toArray u]) Q E ⟨h, g, d, t, os⟩ := by
  refine zCall ["path"] [some (.bytes a.toArray u)] [("path", .bytes a.toArray u)] tp (by omega) (by kernel_rfl!) (by kernel_rfl!) (by kernel_rfl!) (by kernel_rfl!) (by kernel_rfl!) (by decide +kernel) (by kernel_rfl!) (by kernel_rfl!) (fun _ => by kernel_rfl!) (by kernel_rfl!) (by kernel_rfl!) (by kernel_rfl!) ?_
  intro L h₁ t₁ W
  conv => arg 3; arg 1; whnf
  repeat none_booked
  refine wpAny_ListComp_map (fun v => kept3 (byOf v)) (fun v y => y = v) hh (by decide +kernel) (by decide +kernel) (by kernel_rfl!) (by decide +kernel) (by kernel_rfl!) ?_ (by intro _; rfl)
  repeat none_booked
  refine TKb.mS ?_
  repeat none_booked
  refine TKb.split (by omega) fun D h₂ k₂ cs n kp hn ho hcs => ?_
  have hcs : BsAre cs (splitL 47 a) := hcs
  have hcl := hcs.length
  have hsc := splitL_count 47 a
  refine ⟨D, cs.toArray, rfl, ⟨_, ho, rfl, n, rfl⟩, by rw [List.size_toArray, sizeLine_eq]; omega, ?_, ?_, ?_⟩
  · intro C v s₂ m₂ E' hv hns hmv hk
    obtain ⟨c, tc, hc, rfl⟩ := hcs.mem (by simpa using hv)
    obtain ⟨h₃, g₃, d₃, t₃, os₃⟩ := s₂
    simp only [List.forIn_cons, List.forIn_nil, if_true, bind_assoc, pure_bind, bind_pure]
    refine wpAny_isTrue_Compare1 ?_ (by kernel_rfl!)
    refine wpAny_Name (wpAny_loadName_local (by kernel_rfl!) (by kernel_rfl!) hns hmv ?_) (by decide +kernel)
    repeat none_booked
    refine wpAny_newObj_type ?_ (by show (3 : Nat) ≤ sizeLine; rw [sizeLine_eq]; omega)
    refine zNotInB (us := [.bytes [].toArray _, .bytes [46].toArray _, .bytes [46, 46].toArray _]) (bs := [[], [46], [46, 46]]) ⟨_, Heap.get?_push_size _ rfl, rfl, 0, rfl⟩ (BsAre.cons (BsAre.cons (BsAre.cons BsAre.nil))) ?_
    refine wpAny_truthy_bool ⟨rfl, _, _, rfl, fun b o e => Heap.get?_push_of_some _ e⟩
  · intro C v s₂ m₂ E' hv _ hns hmv hk
    exact wpAny_Name (wpAny_loadName_local (by kernel_rfl!) (by kernel_rfl!) hns hmv ⟨rfl, _, _, rfl, fun _ _ e => e⟩) (by decide +kernel)
  · intro D' h₃ k₃ ys hnD hlD hp hk
    have W2 : Wd h L ["path"] [some (.bytes a.toArray u)] [] h₂ := W.kp kp
    have W3 : Wd h L ["path"] [some (.bytes a.toArray u)] [] h₃ := W2.kp hk
    have hys : ys.toList = cs.filter (fun v => kept3 (byOf v)) := (paired_eq hp).symm
    have hbs : BsAre ys.toList ((splitL 47 a).filter kept3) := by
      rw [hys]
      exact hcs.filter kept3
    have hyl : ys.toList.length ≤ cs.length := by rw [hys]; exact List.length_filter_le _ _
    repeat none_booked
    refine zSorted W3 (us := ys.toList) (by simpa using hlD) hbs (by omega) fun T h₄ us' n' W4 hb => ?_
    repeat none_booked
    exact hq _ _ T us' n' W4.keep (W4.nw _ (.head _)).2.2 (W4.get (.head _)) hb
end

section
variable {prog : Program} {w : World} {A : Around} {R : Result → Shared → Prop} {s : Shared}
def CompTests (prog : Program) (w : World) (A : Around) (ifs : List Expr) (env : Env) (Q : Bool → Shared → Prop) (E : Value → Shared → Prop) (s : Shared) : Prop :=
  wpAny (model prog w) A (forIn ifs true fun c r => if r = true then do let ok ← isTrue c env (eval c env); pure (ForInStep.yield ok) else pure (ForInStep.yield r)) Q E s
/-- one turn of a list comprehension's last clause -/
theorem comp_last {elt : Expr} {gens : List Comprehension} {g : Comprehension} {scope : Scope} {pos : Pos} {depth : Nat} {it acc : Value} {env : Env} (I : Nat → Shared → Prop) (hg : gens[depth]? = some g) (ha : g.is_async = 0) (hl : gens[depth + 1]? = none)
    (turn : ∀ n s, I n s → wpAny (model prog w) A (pyNext it) (fun r s₁ => match r with
      | none => R (.ok .next) s₁
      | some v => wpAny (model prog w) A (assign g.target env v) (fun _ s₂ => CompTests prog w A g.ifs env (fun ok s₃ => if ok = true then wpAny (model prog w) A (eval elt env) (fun x s₄ =>
          wpAny (model prog w) A (call (.builtin "list.append") [acc, x]) (fun _ s₅ => ∃ m, m < n ∧ I m s₅) (fun _ _ => False) s₄) (fun _ _ => False) s₃ else ∃ m, m < n ∧ I m s₃) (fun _ _ => False) s₂) (fun _ _ => False) s₁) (fun _ _ => False) s)
    (n : Nat) (h : I n s) (ht : ∀ v, letOwnedTupleGo g.target it v = pure ()) :
    codeAny (model prog w) A (.compLoop (.ListComp elt gens scope pos) depth it acc env) R s := by
  refine codeAny_loop rfl I (fun n s hI => ?_) n h
  show wpAny _ _ ((compTurn (.ListComp elt gens scope pos) depth it acc env).onRaise (fun x => do noteFrame x env; theTreesLotGoes x)) _ _ s
  refine wpAny_noted ?_
  unfold compTurn
  dsimp only
  rw [hg]
  dsimp only
  rw [ha]
  refine wpAny_bind (wpAny_standAt ?_)
  rw [if_neg (by decide), hl]
  refine wpAny_bind (wpAny_mono (turn n s hI) (fun r s₁ h₁ => ?_) fun _ _ x => x.elim)
  cases r with
  | none => exact wpAny_pure h₁
  | some v =>
    refine wpAny_bind (wpAny_of_eq (ht v) ?_)
    refine wpAny_bind (wpAny_mono h₁ (fun _ s₂ h₂ => ?_) fun _ _ x => x.elim)
    refine wpAny_bind (wpAny_mono h₂ (fun ok s₃ h₃ => ?_) fun _ _ x => x.elim)
    cases ok with
    | true =>
      rw [if_pos rfl] at h₃ ⊢
      refine wpAny_bind (wpAny_bind (wpAny_mono h₃ (fun x s₄ h₄ => ?_) fun _ _ x => x.elim))
      exact wpAny_bind (wpAny_mono h₄ (fun _ s₅ h₅ => wpAny_pure (wpAny_pure ⟨rfl, h₅⟩)) fun _ _ x => x.elim)
    | false =>
      rw [if_neg (by decide)] at h₃ ⊢
      exact wpAny_pure ⟨rfl, h₃⟩
/-- one turn of a clause above another -/
theorem comp_more {elt : Expr} {gens : List Comprehension} {g g' : Comprehension} {scope : Scope} {pos : Pos} {depth : Nat} {it acc : Value} {env : Env} (I : Nat → Shared → Prop) (hg : gens[depth]? = some g) (ha : g.is_async = 0) (hl : gens[depth + 1]? = some g') (ha' : g'.is_async = 0)
    (hs : ∀ x, foldedSetIterable g'.iter env x = pure x)
    (turn : ∀ n s, I n s → wpAny (model prog w) A (pyNext it) (fun r s₁ => match r with
      | none => R (.ok .next) s₁
      | some v => wpAny (model prog w) A (assign g.target env v) (fun _ s₂ => CompTests prog w A g.ifs env (fun ok s₃ => if ok = true then wpAny (model prog w) A (eval g'.iter env) (fun x s₄ =>
          wpAny (model prog w) A (pyIter x) (fun it' s₅ => codeAny (model prog w) A (.compStart (.ListComp elt gens scope pos) (depth + 1) it' acc env) (fun r s₆ => match r with | .ok _ => ∃ m, m < n ∧ I m s₆ | .error _ => False) s₅) (fun _ _ => False) s₄) (fun _ _ => False) s₃ else ∃ m, m < n ∧ I m s₃) (fun _ _ => False) s₂) (fun _ _ => False) s₁) (fun _ _ => False) s)
    (n : Nat) (h : I n s) (ht : ∀ v, letOwnedTupleGo g.target it v = pure ()) :
    codeAny (model prog w) A (.compLoop (.ListComp elt gens scope pos) depth it acc env) R s := by
  refine codeAny_loop rfl I (fun n s hI => ?_) n h
  show wpAny _ _ ((compTurn (.ListComp elt gens scope pos) depth it acc env).onRaise (fun x => do noteFrame x env; theTreesLotGoes x)) _ _ s
  refine wpAny_noted ?_
  unfold compTurn
  dsimp only
  rw [hg]
  dsimp only
  rw [ha]
  refine wpAny_bind (wpAny_standAt ?_)
  rw [if_neg (by decide), hl]
  refine wpAny_bind (wpAny_mono (turn n s hI) (fun r s₁ h₁ => ?_) fun _ _ x => x.elim)
  cases r with
  | none => exact wpAny_pure h₁
  | some v =>
    refine wpAny_bind (wpAny_of_eq (ht v) ?_)
    refine wpAny_bind (wpAny_mono h₁ (fun _ s₂ h₂ => ?_) fun _ _ x => x.elim)
    refine wpAny_bind (wpAny_mono h₂ (fun ok s₃ h₃ => ?_) fun _ _ x => x.elim)
    cases ok with
    | true =>
      rw [if_pos rfl] at h₃ ⊢
      dsimp only
      rw [ha']
      refine wpAny_bind (wpAny_mono h₃ (fun x s₄ h₄ => ?_) fun _ _ x => x.elim)
      refine wpAny_bind (wpAny_standAt ?_)
      rw [if_neg (by decide)]
      refine wpAny_bind (wpAny_of_eq (hs x) ?_)
      refine wpAny_bind (wpAny_holding ?_)
      rw [if_neg (by decide)]
      refine wpAny_mono h₄ (fun it' s₅ h₅ => ?_) fun _ _ x => x.elim
      refine wpAny_bind (wpAny_runOwn (codeAny_mono h₅ fun r s₆ h₆ => ?_))
      cases r with
      | ok f => exact wpAny_pure ⟨rfl, h₆⟩
      | error e => exact h₆.elim
    | false =>
      rw [if_neg (by decide)] at h₃ ⊢
      exact wpAny_pure ⟨rfl, h₃⟩
theorem comp_start {elt : Expr} {gens : List Comprehension} {g : Comprehension} {scope : Scope} {pos : Pos} {depth : Nat} {it acc : Value} {env : Env} (hg : gens[depth]? = some g) (ha : g.is_async = 0)
    (h0 : codeAny (model prog w) A (.compLoop (.ListComp elt gens scope pos) depth it acc env) R s)
    (h : ∀ Q : Value → Shared → Prop, Q it s → wpAny (model prog w) A (pyIter it) Q (fun _ _ => False) s) :
    codeAny (model prog w) A (.compStart (.ListComp elt gens scope pos) depth it acc env) R s := by
  refine codeAny_of_tree ?_
  show wpAny _ _ ((compStart (.ListComp elt gens scope pos) depth it acc env).onRaise (fun x => do noteFrame x env; standAt theWindowsPlace)) _ _ s
  refine wpAny_notedAt ?_
  unfold compStart
  have hc : clausesOf (.ListComp elt gens scope pos) = gens := rfl
  rw [hc, hg]
  rw [if_neg (show ¬ ((some g).elim false fun x => x.is_async != 0) = true from by show ¬ (g.is_async != 0) = true; rw [ha]; decide)]
  refine wpAny_bind (wpAny_askSetting ?_)
  refine wpAny_ite ?_
  split
  · exact wpAny_pure ⟨rfl, h0⟩
  · refine wpAny_bind (wpAny_rule ?_)
    refine wpAny_bind (wpAny_standAt ?_)
    refine wpAny_bind (wpAny_mono (h (fun v s' => v = it ∧ s' = s) ⟨rfl, rfl⟩) ?_ fun _ _ x => x.elim)
    rintro _ _ ⟨rfl, rfl⟩
    exact wpAny_pure ⟨rfl, h0⟩
end

theorem plain_lt_loop : plainId "list.__eq__.loop" = true := by decide +kernel
theorem entry_lt_loop : entryFor table "list.__eq__.loop" = some Builtin.«list.__eq__.loop» := entryFor_of_tree (by kernel_rfl)
section
open AutoSeq1 (wpAny_loadPart')
theorem lt_none (l b : Addr) (y : Value) (n n2 : Nat) (dd dd2 : Option Addr) (sl sl2 : Array (Option Value)) :
    Meets (Builtin.«list.__lt__» ⟨[.ref l, .ref b], []⟩)
      (fun _ R s => s.heap.get? l = some { cls := .type "list", dict := dd, data := .seq #[] n, slots := sl } ∧ s.heap.get? b = some { cls := .type "list", dict := dd2, data := .seq #[y] n2, slots := sl2 } ∧
        R (.ok (.ret (.bool true))) s) := by
  intro prog w A R s h
  obtain ⟨hp, g, d, tk, os⟩ := s; obtain ⟨hl, hb, h⟩ := h
  have f3 := AutoSeq1.sub_list_list
  wp_walk using wpAny_loadPart' hl, wpAny_loadPart' hb
  exact ⟨plainId_quiet plain_lt_loop _, codeAny_builtin entry_lt_loop (by
    rw [Around.under_plainId plain_lt_loop _]
    wp_walk using wpAny_loadPart' hl, wpAny_loadPart' hb
    exact h)⟩
theorem lt_one (l b : Addr) (xs ys : Array Value) (x y : Value) (n n2 : Nat) (dd dd2 : Option Addr) (sl sl2 : Array (Option Value)) (k : Bool) (hx : xs[(0 : Int).toNat]? = some x) (hy : ys[(0 : Int).toNat]? = some y) :
    Meets (Builtin.«list.__lt__» ⟨[.ref l, .ref b], []⟩)
      (fun A R s => s.heap.get? l = some { cls := .type "list", dict := dd, data := .seq xs n, slots := sl } ∧ s.heap.get? b = some { cls := .type "list", dict := dd2, data := .seq ys n2, slots := sl2 } ∧
        PySem.SeqAt.EqAt A.in1 s x y false ∧ (∀ (prog : Program) (w : World) (E : Value → Shared → Prop) (Q : Value → Shared → Prop), Q (.bool k) s → wpAny (model prog w) A.in1 (richCompare .Lt x y) Q E s) ∧ R (.ok (.ret (.bool k))) s) := by
  intro prog w A R s h
  obtain ⟨hp, g, d, tk, os⟩ := s; obtain ⟨hl, hb, he, hc, h⟩ := h
  have f3 := AutoSeq1.sub_list_list
  wp_walk using wpAny_loadPart' hl, wpAny_loadPart' hb
  exact ⟨plainId_quiet plain_lt_loop _, codeAny_builtin entry_lt_loop (by
    rw [Around.under_plainId plain_lt_loop _]
    wp_walk using wpAny_loadPart' hl, wpAny_loadPart' hb
    rw [hx, hy]
    refine wpAny_bind (he prog w _ _ ?_)
    wp_walk using wpAny_loadPart' hl, wpAny_loadPart' hb
    rw [hx, hy]
    show wpAny _ _ (richCompare .Lt x y >>= _) _ _ _
    refine wpAny_bind (hc prog w _ _ ?_)
    exact wpAny_pure h)⟩
end
section
variable {w : World} {A : Around} {E : Value → Shared → Prop} {h : Heap} {g : Array GenState} {d : Drawn} {t : Nat} {os : OsState}
theorem zLtNone {l b : Addr} {y : Value} {n n2 : Nat} {Q : Value → Shared → Prop} (hl : h.get? l = some (lst [] n)) (hb : h.get? b = some (lst [y] n2)) (hu : A.units < cLine) (hq : Q (.bool true) ⟨h, g, d, t, os⟩) :
    wpAny (model PG w) A (compareOp .Lt (.ref l) (.ref b)) Q E ⟨h, g, d, t, os⟩ := by
  show wpAny _ _ (richCompare .Lt _ _) _ _ _
  exact richCompare_meets_room (s := ⟨h, g, d, t, os⟩) (op := .Lt) ⟨_, hl, rfl⟩ ⟨_, hb, rfl⟩ PySem.F.slot_list_lt PySem.F.entry_list_lt (PySem.F.args_list_lt_2 _ _) (lt_none l b y n n2 none none #[] #[]) ⟨hl, hb, (fun e => nomatch e), hq⟩ hu
theorem zLtOne {l b : Addr} {x y : List UInt8} {u v : Tok} {n n2 : Nat} {Q : Value → Shared → Prop} (hl : h.get? l = some (lst [.bytes x.toArray u] n)) (hb : h.get? b = some (lst [.bytes y.toArray v] n2)) (hne : x ≠ y) (hu : A.units < cLine) (hq : Q (.bool (ltB x y)) ⟨h, g, d, t, os⟩) :
    wpAny (model PG w) A (compareOp .Lt (.ref l) (.ref b)) Q E ⟨h, g, d, t, os⟩ := by
  show wpAny _ _ (richCompare .Lt _ _) _ _ _
  refine richCompare_meets_room (s := ⟨h, g, d, t, os⟩) (op := .Lt) ⟨_, hl, rfl⟩ ⟨_, hb, rfl⟩ PySem.F.slot_list_lt PySem.F.entry_list_lt (PySem.F.args_list_lt_2 _ _) (lt_one l b _ _ (.bytes x.toArray u) (.bytes y.toArray v) n n2 none none #[] #[] (ltB x y) rfl rfl) ⟨hl, hb, ?_, ?_, (fun e => nomatch e), hq⟩ hu
  · intro prog w E Q hq
    exact eqBool_bytes (by simpa [hne] using hq)
  · intro prog w E Q hq
    exact richCompare_gives (op := .Lt) (typeIs_bytes _ _ u) (typeIs_bytes _ _ v) slot_lt entry_lt (args_lt _ _) (gives_lt x y u v) (fun e => nomatch e) hq rfl
end

section
variable {M : Model} {w : World} {mg mb : Str → Option Value} {A : Around} {E : Value → Shared → Prop} {B h : Heap} {g : Array GenState} {d : Drawn} {t : Nat} {os : OsState} {K : List Str} {vs vs' : List (Option Value)} {news : List (Addr × Obj)} {env : Env}
/-- names of a comprehension -/
theorem zLdE {x : Str} {v : Value} {pos : Pos} {Q : Value → Shared → Prop} (W : Wd B env.locals K vs news h) (hx : Loc K vs x v) (hq : Q v ⟨h, g, d, t, os⟩) (hk : env.scope.kind = .function) (hl : env.kindOf x = some .local) (hdb : (x == ("__debug__" : Str)) = false) :
    wpAny M A (eval (.Name x pos) env) Q E ⟨h, g, d, t, os⟩ := by
  obtain ⟨m, F, hm⟩ := W.fr
  exact wpAny_Name (wpAny_loadName_local (s := ⟨h, g, d, t, os⟩) hk hl F.ns (hm x v hx) hq) hdb
theorem zStE {x : Str} {v : Value} {pos : Pos} {Q : Unit → Shared → Prop} (W : Wd B env.locals K vs news h) (hp : Put K vs x v vs') (hq : ∀ h' t', Wd B env.locals K vs' news h' → Q () ⟨h', g, d, t', os⟩) (hl : env.kindOf x = some .local)
    (hkf : (env.scope.kind == .class || (env.scope.kind == .module && env.locals != env.globals)) = false) : wpAny M A (assign (.Name x pos) env v) Q E ⟨h, g, d, t, os⟩ := by
  refine zAsN ?_
  obtain ⟨m, F, hm⟩ := W.fr
  refine wpAny_storeName_local (s := ⟨h, g, d, t, os⟩) hl F.ns (fun h₃ hn₃ hs₃ => ?_) hkf
  refine hq h₃ _ ⟨⟨_, F.set hn₃ hs₃, fun y u l => ?_⟩, W.nw.set hs₃, W.nd, W.kn⟩
  rcases hp.back W.kn l with ⟨rfl, rfl⟩ | ⟨hne, l'⟩
  · exact if_pos rfl
  · show (if y = x then some v else m y) = some u
    rw [if_neg hne]; exact hm y u l'
theorem zBE {L : Addr} {x : Str} {v : Value} {pos : Pos} {Q : Value → Shared → Prop} (W : Wd B L K vs news h) (tp : Tp w mg mb B) (e : IsB w x v) (hq : Q v ⟨h, g, d, t, os⟩) (hk : env.scope.kind = .function) (hl : env.kindOf x = some .globalImplicit) (hg : env.globals = mainGlobals) (hb : env.builtins = builtinsNs) :
    wpAny M A (eval (.Name x pos) env) Q E ⟨h, g, d, t, os⟩ := by
  have tp' := tp.keeps W.keep
  refine Calls.Name_function_global hk hl (Calls.loadGlobal_builtin (s := ⟨h, g, d, t, os⟩) (hg ▸ tp'.T.g) (mg_none_of tp'.X tp'.T.g e.e) (hb ▸ tp'.T.b) ((tp'.T.builtins x (fun q => by have := e.hn; rw [q] at this; simp at this)).trans e.hv) hq) e.hdb
theorem zGE {L : Addr} {x : Str} {v : Value} {pos : Pos} {Q : Value → Shared → Prop} (W : Wd B L K vs news h) (tp : Tp w mg mb B) (e : IsG w x v) (hq : Q v ⟨h, g, d, t, os⟩) (hk : env.scope.kind = .function) (hl : env.kindOf x = some .globalImplicit) (hg : env.globals = mainGlobals) :
    wpAny M A (eval (.Name x pos) env) Q E ⟨h, g, d, t, os⟩ := by
  have tp' := tp.keeps W.keep
  exact Calls.Name_function_global hk hl (Calls.loadGlobal_global (s := ⟨h, g, d, t, os⟩) (hg ▸ tp'.T.g) (mg_of tp'.X tp'.T.g e.e) hq) e.hdb
end
/-- a list comprehension: the walk of its clauses in a frame of its own -/
theorem zComp {w : World} {A : Around} {E : Value → Shared → Prop} {h₀ : Heap} {t₀ : Nat} {g : Array GenState} {d : Drawn} {os : OsState} {elt target iter : Expr} {ifs : List Expr} {rest : List Comprehension} {scope : Scope} {pos : Pos} {env : Env} {cl : List (Str × Addr)} {Q : Value → Shared → Prop} (K : List Str) (vs : List (Option Value))
    (hK : K.Nodup) (hvs : ∀ x v, ¬ Loc K vs x v) (hs : ∀ x, foldedSetIterable iter env x = pure x) (hclos : closureFor scope env = pure cl) (hcell : ∀ y ∈ scope.names, y.2 ≠ .cell)
    (hkind : scope.kind = .function) (hnames : ∀ x ∈ scope.names, x.2 = .local → scope.names.lookup x.1 = some .local)
    (h : wpAny (model PG w) A (eval iter env) (fun x s₁ => wpAny (model PG w) A (pyIter x) (fun it s₂ => ∃ h₂ t₂ B news₂, s₂ = ⟨h₂, g, d, t₂, os⟩ ∧ Kp B h₂ ∧ B.objs.size ≤ h₂.objs.size ∧ (∀ p ∈ news₂, h₂.get? p.1 = some p.2 ∧ B.get? p.1 = none) ∧ (news₂.map (·.1)).Nodup ∧
      ∀ C D h₃ t₃, Wd B C K vs ((D, lst []) :: news₂) h₃ → codeAny (model PG w) A (.compStart (.ListComp elt (⟨target, iter, ifs, 0⟩ :: rest) scope pos) 0 it (.ref D) (compEnvC scope cl C env)) (fun r s' => match r with
        | .ok _ => ∃ h' t' vs' news', s' = ⟨h', g, d, t', os⟩ ∧ Wd B C K vs' news' h' ∧ ∀ h'', Kp B h'' → (∀ p ∈ news', h''.get? p.1 = some p.2) → Q (.ref D) ⟨h'', g, d, t', os⟩
        | .error _ => False) ⟨h₃, g, d, t₃, os⟩) E s₁) E ⟨h₀, g, d, t₀, os⟩) :
    wpAny (model PG w) A (eval (.ListComp elt (⟨target, iter, ifs, 0⟩ :: rest) scope pos) env) Q E ⟨h₀, g, d, t₀, os⟩ := by
  rw [eval_ListComp]
  refine wpAny_comprehension_free (use := none) rfl hs hclos hkind hnames (wpAny_mono h (fun xv s₁ h₁ => wpAny_mono h₁ (fun it s₂ h₂ => ?_) fun _ _ e => e) fun _ _ e => e)
  obtain ⟨h₂, t₂, B, news₂, rfl, kB, szB, nw, nd, hwalk⟩ := h₂
  refine wpAny_newObj_type ?_ (Nat.zero_le _)
  refine wpAny_newFunctionEnv hcell (by intro y hy; simp at hy) (fun h₃ hns hsb => ?_) hkind
  generalize hH : h₂.push { cls := Value.type "list", dict := none, data := .seq ([] : List Value).toArray } = H at hns hsb ⊢
  have hsz : H.objs.size = h₂.objs.size + 1 := by rw [← hH, Heap.size_push]
  have old : ∀ b o, H.get? b = some o → h₃.get? b = some o := fun b o e => hsb.extBut b o (Nat.ne_of_lt (Heap.lt_size e)) (Heap.get?_push_of_some _ e)
  have old₂ : ∀ b o, h₂.get? b = some o → h₃.get? b = some o := fun b o e => old b o (hH ▸ Heap.get?_push_of_some _ e)
  have hD : h₃.get? h₂.objs.size = some (lst []) := old _ _ (hH ▸ Heap.get?_push_size _ rfl)
  have W : Wd B H.objs.size K vs ((h₂.objs.size, lst []) :: news₂) h₃ := by
    refine ⟨⟨_, ⟨hns, fun b o e => old₂ b o (kB b o e), by omega⟩, fun x v l => absurd l (hvs x v)⟩, fun p hp => ?_, ?_, hK⟩
    · rcases List.mem_cons.mp hp with rfl | hp
      · exact ⟨hD, by show h₂.objs.size ≠ H.objs.size; omega, Heap.get?_none_of_le szB⟩
      · have z := nw p hp
        refine ⟨old₂ _ _ z.1, fun e => ?_, z.2⟩
        have q := Heap.lt_size z.1
        rw [e, hsz] at q
        exact absurd q (Nat.not_lt.mpr (Nat.le_succ _))
    · rw [List.map_cons, List.nodup_cons]
      refine ⟨fun hm => ?_, nd⟩
      obtain ⟨p, hp, e⟩ := List.mem_map.mp hm
      have := Heap.lt_size (nw p hp).1
      rw [e] at this
      exact absurd this (Nat.lt_irrefl _)
  refine codeAny_mono (hwalk H.objs.size h₂.objs.size h₃ _ W) fun r s' hr => ?_
  cases r with
  | error e => exact hr.elim
  | ok f =>
    obtain ⟨h', t', vs', news', rfl, W', hq⟩ := hr
    obtain ⟨m, F, _⟩ := W'.fr
    refine ⟨m, F.ns, fun h'' hs'' => hq h'' (fun b o e => ?_) fun p hp => ?_⟩
    · refine hs''.extBut b o (fun q => ?_) (W'.keep b o e)
      have hn : B.get? H.objs.size = none := W'.noL
      have q' : b = H.objs.size := q
      rw [q', hn] at e; cases e
    · exact hs''.extBut _ _ (W'.nw p hp).2.1 (W'.nw p hp).1

def lastLt (two : List (List UInt8)) (n : List UInt8) : Bool := match two.getLast? with | none => true | some l => ltB l n
def onlyN (two : List (List UInt8)) (tw : Bool) (n : List UInt8) : Nat := if n ∈ two then 0 else if tw && lastLt two n then 2 else 1
def onlyL (one two : List (List UInt8)) (tw : Bool) : List (List UInt8) := one.flatMap fun n => List.replicate (onlyN two tw n) n
theorem only_len (es as : List (List UInt8)) (tw : Bool) : (onlyL es as tw).length ≤ 2 * es.length := by
  induction es with
  | nil => simp [onlyL]
  | cons e es ih =>
    have h1 : onlyL (e :: es) as tw = List.replicate (onlyN as tw e) e ++ onlyL es as tw := rfl
    have h2 : onlyN as tw e ≤ 2 := by
      unfold onlyN
      split
      · decide
      · split <;> decide
    rw [h1, List.length_append, List.length_replicate, List.length_cons]
    omega
section
variable {w : World} {mg mb : Str → Option Value} {A : Around} {E : Value → Shared → Prop} {h : Heap} {g : Array GenState} {d : Drawn} {t : Nat} {os : OsState}
theorem only_call {X Y : Addr} {us ws : List Value} {es as : List (List UInt8)} {tw : Bool} {Q : Value → Shared → Prop} (tp : Tp w mg mb h) (hr : A.depth + 2 < recursionLimit) (hh : A.handled = none) (hu : A.units < 5000)
    (hX : h.IsList X us.toArray) (hY : h.IsList Y ws.toArray) (hus : BsAre us es) (hws : BsAre ws as) (hz : es.length < 100) (hz2 : as.length < 100)
    (hq : ∀ h' t' T zs n, Kp h h' → h.get? T = none → h'.get? T = some (lst zs n) → BsAre zs (onlyL es as tw) → Q (.ref T) ⟨h', g, d, t', os⟩) :
    wpAny (model PG w) A (call (.ref 146) [.ref X, .ref Y, .bool tw]) Q E ⟨h, g, d, t, os⟩ := by
  obtain ⟨o, ho, hd⟩ := fn_obj (w := w) (a := 146) (fd := fdOf w 146) tp.X (by kernel_rfl!)
  refine wpAny_call (codeAny_call_cells (s := ⟨h, g, d, t, os⟩) (body := bodyOf (fdOf w 146)) (binds := [("one", .ref X), ("two", .ref Y), ("twice", .bool tw)]) (by omega) ho hd tp.T.nolimit (codeRec_of tp.X (by kernel_rfl!)) (by kernel_rfl!) (by kernel_rfl!) (by kernel_rfl!) ?_ (fun s₁ x => ?_) (by kernel_rfl!) (by kernel_rfl!) (by kernel_rfl!))
  · intro x hx
    simp only [List.mem_cons, List.not_mem_nil, or_false] at hx
    rcases hx with rfl | rfl | rfl
    · exact .inl (by kernel_rfl!)
    · exact .inr ⟨by kernel_rfl!, by kernel_rfl!⟩
    · exact .inr ⟨by kernel_rfl!, by kernel_rfl!⟩
  · refine wpAny_mono (E := fun _ _ => False) ?_ (fun _ _ x => x) (fun _ _ x => x.elim)
    obtain ⟨h₁, t₁, rfl⟩ := x.toInCall.same
    have kp : Kp h h₁ := x.toInCall.keep
    have hns : h₁.Ns h.objs.size (bindL (callEnvC (fdOf w 146) h.objs.size 146).kindOf [("one", .ref X), ("two", .ref Y), ("twice", .bool tw)] fun x => none) := x.toInCall.ns
    have c2 : h₁.IsCell (h.objs.size + 1) (some (.ref Y)) := by
      have z := x.cell "two" (h.objs.size + 1) (by kernel_rfl!)
      rwa [show (bindC (callEnvC (fdOf w 146) h.objs.size 146).kindOf [("one", .ref X), ("two", .ref Y), ("twice", .bool tw)] fun x => none) "two" = some (.ref Y) from by kernel_rfl!] at z
    have c3 : h₁.IsCell (h.objs.size + 2) (some (.bool tw)) := by
      have z := x.cell "twice" (h.objs.size + 2) (by kernel_rfl!)
      rwa [show (bindC (callEnvC (fdOf w 146) h.objs.size 146).kindOf [("one", .ref X), ("two", .ref Y), ("twice", .bool tw)] fun x => none) "twice" = some (.bool tw) from by kernel_rfl!] at z
    have hone : (bindL (callEnvC (fdOf w 146) h.objs.size 146).kindOf [("one", .ref X), ("two", .ref Y), ("twice", .bool tw)] fun x => none) "one" = some (.ref X) := by kernel_rfl!
    clear x
    dsimp only
    conv => arg 3; arg 1; whnf
    repeat none_booked
    refine zComp ["name", "k"] [none, none] (by decide +kernel) (fun x v l => by cases l with | tail l => cases l with | tail l => cases l) (by intro _; rfl) (cl := [("two", h.objs.size + 1), ("twice", h.objs.size + 2)]) (by kernel_rfl!) (by decide +kernel) (by kernel_rfl!) (by decide +kernel) ?_
    refine wpAny_Name (wpAny_loadName_local (by kernel_rfl!) (by kernel_rfl!) hns hone ?_) (by decide +kernel)
    have hX₁ : h₁.IsList X us.toArray := (Ks.of_kp kp).list hX
    have hY₁ : h₁.IsList Y ws.toArray := (Ks.of_kp kp).list hY
    refine wpAny_pyIter_list hX₁ ?_
    refine ⟨_, _, h₁, [(h₁.objs.size, { cls := .type "list_iterator", data := .fields #[.ref X, .int 0 0] })], rfl, Kp.push _ _, by rw [Heap.size_push]; exact Nat.le_succ _, ?_, by simp, ?_⟩
    · intro p hp
      rw [List.mem_singleton] at hp
      subst hp
      exact ⟨Heap.get?_push_size _ rfl, Heap.get?_none_of_le (Nat.le_refl _)⟩
    intro C D h₃ t₃ W
    have hul := hus.length
    have hwl := hws.length
    have tp₁ : Tp w mg mb h₁ := tp.keeps kp
    have hu' : (A.deeper (callEnvC (fdOf w 146) h.objs.size 146)).units < cLine := by show A.units + 3 < cLine; unfold cLine; omega
    refine comp_start rfl rfl ?_ (fun Q hq => wpAny_pyIter_listiter ⟨_, W.get (.tail _ (.head _)), rfl, rfl⟩ hq)
    refine comp_more (fun n s => ∃ i nv kv zs k ito h' t', n + i = es.length ∧ s = ⟨h', g, d, t', os⟩ ∧ Wd h₁ C ["name", "k"] [nv, kv] [(D, lst zs k), (h₁.objs.size, ito)] h' ∧ ito.cls = .type "list_iterator" ∧ ito.data = .fields #[.ref X, .int i 0] ∧ BsAre zs (onlyL (es.take i) as tw)) rfl rfl rfl rfl (by intro _; rfl) ?_ es.length
      ⟨0, none, none, [], 0, _, h₃, t₃, rfl, rfl, W, rfl, rfl, BsAre.nil⟩ (by intro _; rfl)
    clear W
    rintro n s ⟨i, nv, kv, zs, k, ito, h₄, t₄, hni, rfl, W, hc, hd', hzs⟩
    have hit : h₄.IsListIter h₁.objs.size X i := ⟨ito, W.get (.tail _ (.head _)), hc, hd'⟩
    have hX₄ : h₄.IsList X us.toArray := (Ks.of_kp W.keep).list hX₁
    cases hx : us[i]? with
    | none =>
      refine wpAny_pyNext_list_end (s := ⟨h₄, g, d, t₄, os⟩) hh hit hX₄ (by simpa using hx) fun h₅ he => ?_
      dsimp only
      have hi : us.length ≤ i := by simpa using hx
      have hie : es.take i = es := List.take_of_length_le (by omega)
      rw [hie] at hzs
      have W5 := (Wd.front (pre := [(D, lst zs k)]) W).extBut he
      refine ⟨h₅, _, _, _, rfl, W5, fun h'' kp'' hn => hq h'' _ D zs k (kp.trans kp'') ?_ (hn _ (.head _)) hzs⟩
      have z := (W.nw _ (.head _)).2.2
      cases q : h.get? D with
      | none => rfl
      | some o => have := kp D o q; rw [z] at this; cases this
    | some v =>
      refine wpAny_pyNext_list_item (s := ⟨h₄, g, d, t₄, os⟩) hit hX₄ (by simpa using hx) fun h₅ hit₅ hs₅ => ?_
      obtain ⟨ito₅, ho₅, hc₅, hd₅⟩ := hit₅
      have W5 := Wd.upd (pre := [(D, lst zs k)]) W hs₅ ho₅
      clear W
      obtain ⟨c, hce, hvc⟩ : ∃ c, es[i]? = some c ∧ asB v = some c := by
        have := congrArg (·[i]?) hus
        simp only [List.getElem?_map, hx, Option.map_some] at this
        cases e : es[i]? with
        | none => rw [e] at this; cases this
        | some c => rw [e] at this; exact ⟨c, rfl, Option.some.inj this⟩
      obtain ⟨tc, rfl⟩ := of_asB hvc
      have hil : i < es.length := (List.getElem?_eq_some_iff.mp hce).1
      have hnext : onlyL (es.take (i + 1)) as tw = onlyL (es.take i) as tw ++ List.replicate (onlyN as tw c) c := by
        unfold onlyL
        rw [List.take_add_one, hce, Option.toList_some, List.flatMap_append, List.flatMap_singleton]
      dsimp only
      refine zStE W5 Put.head (fun h₆ t₆ W6 => ?_) (by kernel_rfl!) (by kernel_rfl!)
      clear W5
      unfold CompTests
      simp only [List.forIn_cons, List.forIn_nil, if_true, bind_assoc, pure_bind, bind_pure]
      refine wpAny_isTrue_Compare1 ?_ (by kernel_rfl!)
      refine zLdE W6 Loc.head ?_ (by kernel_rfl!) (by kernel_rfl!) (by decide +kernel)
      have c2' : ∀ {h' : Heap}, Kp h₁ h' → h'.IsCell (h.objs.size + 1) (some (.ref Y)) := fun k => c2.keeps k
      have c3' : ∀ {h' : Heap}, Kp h₁ h' → h'.IsCell (h.objs.size + 2) (some (.bool tw)) := fun k => c3.keeps k
      refine wpAny_Name (wpAny_loadName_cell (by kernel_rfl!) (by kernel_rfl!) (by kernel_rfl!) (c2' W6.keep) ?_) (by decide +kernel)
      refine zNotInB ((Ks.of_kp W6.keep).list hY₁) hws ?_
      refine wpAny_truthy_bool ?_
      by_cases hin : c ∈ as
      · rw [decide_eq_true hin, Bool.not_true, if_neg (by decide)]
        have e0 : onlyN as tw c = 0 := by unfold onlyN; rw [if_pos hin]
        rw [e0, List.replicate_zero, List.append_nil] at hnext
        exact ⟨n - 1, by omega, i + 1, _, _, zs, k, ito₅, h₆, t₆, by omega, rfl, W6, hc₅, hd₅, by rw [hnext]; exact hzs⟩
      · rw [decide_eq_false hin, Bool.not_false, if_pos rfl]
        refine Call_ ?_ (by kernel_rfl!)
        refine zBE W6 tp₁ (b_range w) ?_ (by kernel_rfl!) (by kernel_rfl!) (by kernel_rfl!) (by kernel_rfl!)
        refine Pv.callWith_type1 ?_ (by kernel_rfl!) (by kernel_rfl!)
        refine spliced_more ?_ (by kernel_rfl!)
        refine wpAny_mono (Q := fun v s => ∃ u h' t', v = .int (onlyN as tw c) u ∧ s = ⟨h', g, d, t', os⟩ ∧ Wd h₁ C ["name", "k"] [some (.bytes c.toArray tc), kv] [(D, lst zs k), (h₁.objs.size, ito₅)] h') ?_ ?_ (fun _ _ x => x)
        · refine IfExp_ ?_
          repeat none_booked
          refine wpAny_Name (wpAny_loadName_cell (by kernel_rfl!) (by kernel_rfl!) (by kernel_rfl!) (c3' W6.keep) ?_) (by decide +kernel)
          have hN : onlyN as tw c = if tw && lastLt as c then 2 else 1 := by unfold onlyN; rw [if_neg hin]
          cases htw : tw with
          | false =>
            rw [htw] at hN
            repeat none_booked
            exact ⟨_, h₆, _, by rw [hN]; rfl, rfl, W6⟩
          | true =>
            rw [htw] at hN
            repeat none_booked
            refine wpAny_Name (wpAny_loadName_cell (by kernel_rfl!) (by kernel_rfl!) (by kernel_rfl!) (c2' W6.keep) ?_) (by decide +kernel)
            repeat none_booked
            have hlast := slicePick_last ws.toArray 1 (by omega)
            refine zCut W6 ((Ks.of_kp W6.keep).list hY₁) (IsPart.int _ _) IsPart.none IsPart.none (by simp) (by omega) hlast (fun D₁ h₇ W7 => ?_) rfl (fun _ => rfl)
            repeat none_booked
            refine zLdE W7 Loc.head ?_ (by kernel_rfl!) (by kernel_rfl!) (by decide +kernel)
            repeat none_booked
            rename Wd _ _ _ _ (_ :: (D₁, _) :: _) _ => W8
            clear W7
            rcases List.eq_nil_or_concat ws with hw0 | ⟨ws', q, hw1⟩
            · have ha0 : as = [] := List.length_eq_zero_iff.mp (by rw [← hwl, hw0]; rfl)
              have e1 : ws.toArray.toList.drop (ws.toArray.size - 1) = [] := by rw [hw0]; rfl
              rw [e1] at W8
              refine zLtNone (W8.get (.tail _ (.head _))) (W8.get (.head _)) hu' ?_
              repeat none_booked
              rw [ha0] at hN ⊢
              exact ⟨_, _, _, by rw [hN]; rfl, rfl, W8.sub (.cons _ (.cons _ (.refl _)))⟩
            · rw [List.concat_eq_append] at hw1
              obtain ⟨as', l, ha1, hql⟩ : ∃ as' l, as = as' ++ [l] ∧ asB q = some l := by
                rcases List.eq_nil_or_concat as with h0 | ⟨as', l, h1⟩
                · rw [h0, hw1] at hwl; simp at hwl
                · rw [List.concat_eq_append] at h1
                  refine ⟨as', l, h1, ?_⟩
                  have z : BsAre (ws' ++ [q]) (as' ++ [l]) := by rw [← hw1, ← h1]; exact hws
                  unfold BsAre at z
                  rw [List.map_append, List.map_append] at z
                  have := (List.append_inj' z rfl).2
                  simpa using this
              obtain ⟨tq, rfl⟩ := of_asB hql
              have e1 : ws.toArray.toList.drop (ws.toArray.size - 1) = [.bytes l.toArray tq] := by
                rw [hw1]; simp
              rw [e1] at W8
              have hlc : l ≠ c := fun e => hin (by rw [ha1, e]; simp)
              have hll : lastLt as c = ltB l c := by unfold lastLt; rw [ha1]; simp
              refine zLtOne (W8.get (.tail _ (.head _))) (W8.get (.head _)) hlc hu' ?_
              rw [hll] at hN
              cases hlt : ltB l c with
              | true =>
                rw [hlt] at hN
                repeat none_booked
                exact ⟨_, _, _, by rw [hN]; rfl, rfl, W8.sub (.cons _ (.cons _ (.refl _)))⟩
              | false =>
                rw [hlt] at hN
                repeat none_booked
                exact ⟨_, _, _, by rw [hN]; rfl, rfl, W8.sub (.cons _ (.cons _ (.refl _)))⟩
        · rintro _ _ ⟨u, h₇, t₇, rfl, rfl, W7⟩
          clear W6
          refine spliced_none ?_
          have hon : 1 ≤ onlyN as tw c ∧ onlyN as tw c ≤ 2 := by
            unfold onlyN
            rw [if_neg hin]
            split
            · exact ⟨by decide, by decide⟩
            · exact ⟨by decide, by decide⟩
          have holen := only_len (es.take i) as tw
          rw [List.length_take] at holen
          generalize hN : onlyN as tw c = N at *
          refine zRange1 W7 fun R u₁ u₂ u₃ h₈ t₈ W8 => ?_
          clear W7
          have hrs : Builtin.Range.rangeSize 0 (N : Int) 1 = (N : Nat) := by rw [rangeSize_one, if_pos (by omega)]; omega
          refine wpAny_pyIter_range (s := ⟨h₈, g, d, t₈, os⟩) (W8.get (.head _)) (small_one (by omega) (by omega) (by omega) (by omega)) ?_
          rw [hrs]
          have W9 := W8.push { cls := .type "range_iterator", data := .fields #[rawInt 0, rawInt (N : Int), rawInt 1] } rfl
          clear W8
          have hit9 : IsRangeIter (h₈.push { cls := .type "range_iterator", data := .fields #[rawInt 0, rawInt (N : Int), rawInt 1] }) h₈.objs.size 0 (N : Int) 1 := W9.get (.head _)
          refine comp_start rfl rfl ?_ (fun Q hq => wpAny_pyIter_rangeiter hit9 hq)
          refine comp_last (fun r s => ∃ j kv zs' k' h' t', r + j = N ∧ s = ⟨h', g, d, t', os⟩ ∧ Wd h₁ C ["name", "k"] [some (.bytes c.toArray tc), kv] [(h₈.objs.size, { cls := .type "range_iterator", data := .fields #[rawInt (j : Int), rawInt ((N : Int) - j), rawInt 1] }), (R, rngObj 0 (N : Int) 1 u₁ u₂ u₃), (D, lst zs' k'), (h₁.objs.size, ito₅)] h' ∧ BsAre zs' (onlyL (es.take i) as tw ++ List.replicate j c))
            rfl rfl rfl ?_ N ⟨0, _, zs, k, _, _, rfl, rfl, by simpa using W9, by simpa using hzs⟩ (by intro _; rfl)
          clear W9
          rintro r s ⟨j, kv', zs', k', h', t', hrj, rfl, W, hzs'⟩
          have hitj : IsRangeIter h' h₈.objs.size (j : Int) ((N : Int) - j) 1 := W.get (.head _)
          by_cases hj : j < N
          · refine wpAny_pyNext_range_item (s := ⟨h', g, d, t', os⟩) hitj (by omega) fun h'' hit'' hs => ?_
            have W' := W.same hs hit''
            clear W
            dsimp only
            refine zStE W' (.tail .head) (fun h₆ t₆ W6 => ?_) (by kernel_rfl!) (by kernel_rfl!)
            clear W'
            unfold CompTests
            simp only [List.forIn_nil]
            refine wpAny_pure ?_
            rw [if_pos rfl]
            refine zLdE W6 Loc.head ?_ (by kernel_rfl!) (by kernel_rfl!) (by decide +kernel)
            have hzl := hzs'.length
            refine zAppend (W6.get (.tail _ (.tail _ (.head _)))) (by rw [hzl, List.length_append, List.length_replicate]; omega) fun h₇ hs₇ ho₇ => ?_
            have W7 := Wd.upd (pre := [_, _]) W6 hs₇ ho₇
            have e2 : (N : Int) - (j : Int) - 1 = (N : Int) - ((j + 1 : Nat) : Int) := by push_cast; omega
            have e1 : (j : Int) + 1 = ((j + 1 : Nat) : Int) := by push_cast; rfl
            rw [e1, e2] at W7
            refine ⟨r - 1, by omega, j + 1, _, _, _, h₇, _, by omega, rfl, W7, ?_⟩
            rw [List.replicate_succ', ← List.append_assoc]
            exact hzs'.append (BsAre.cons BsAre.nil)
          · refine wpAny_pyNext_range_end (s := ⟨h', g, d, t', os⟩) hh hitj (by omega) fun h'' he => ?_
            have hjN : j = N := by omega
            subst hjN
            have W' := W.extBut he
            refine ⟨n - 1, by omega, i + 1, _, _, zs', k', ito₅, h'', t', by omega, rfl, W'.sub (.cons _ (.refl _)), hc₅, hd₅, by rw [hnext]; exact hzs'⟩
end

/-- a step of the way -/
def IsName (c : List UInt8) : Prop := ∃ x : UInt8, c = [x] ∧ x ≠ 46 ∧ x ≠ 47
def IsStep (c : List UInt8) : Prop := c = [46, 46] ∨ c = [46] ∨ c = [] ∨ IsName c
theorem IsName.ne2 {c : List UInt8} (h : IsName c) : c ≠ [46, 46] := by obtain ⟨x, rfl, _, _⟩ := h; simp
theorem IsName.ne1 {c : List UInt8} (h : IsName c) : c ≠ [46] := by obtain ⟨x, rfl, h, _⟩ := h; simpa using h
theorem IsName.ne0 {c : List UInt8} (h : IsName c) : c ≠ [] := by obtain ⟨x, rfl, _, _⟩ := h; simp
theorem IsName.free {c : List UInt8} (h : IsName c) : (47 : UInt8) ∉ c := by obtain ⟨x, rfl, _, h⟩ := h; simpa using fun e => h e.symm
theorem IsName.len {c : List UInt8} (h : IsName c) : c.length = 1 := by obtain ⟨x, rfl, _, _⟩ := h; rfl
theorem IsStep.pal {c : List UInt8} (h : IsStep c) : c.reverse = c := by
  rcases h with rfl | rfl | rfl | ⟨x, rfl, _, _⟩ <;> rfl
theorem IsStep.free {c : List UInt8} (h : IsStep c) : (47 : UInt8) ∉ c := by
  rcases h with rfl | rfl | rfl | h
  · decide
  · decide
  · decide
  · exact h.free
theorem IsStep.len {c : List UInt8} (h : IsStep c) : c.length ≤ 2 := by
  rcases h with rfl | rfl | rfl | h
  · decide
  · decide
  · decide
  · rw [h.len]; decide
theorem IsStep.name {c : List UInt8} (h : IsStep c) (h2 : c ≠ [46, 46]) (h1 : ¬ (c = [46] ∨ c = [])) : IsName c := by
  rcases h with h | h | h | h
  · exact absurd h h2
  · exact absurd (.inl h) h1
  · exact absurd (.inr h) h1
  · exact h

/-- the heights' names and records are names -/
theorem heights_names : ∀ (l : List (List UInt8)) (s : HS), (∀ c ∈ l, IsStep c) → (∀ c ∈ s.names, IsName c) → (∀ c ∈ s.records, IsName c) → (∀ c ∈ (l.foldl hstep s).names, IsName c) ∧ ∀ c ∈ (l.foldl hstep s).records, IsName c
  | [], s, _, h1, h2 => ⟨h1, h2⟩
  | c :: l, s, h, h1, h2 => by
    rw [List.foldl_cons]
    have hc := h c (.head _)
    refine heights_names l (hstep s c) (fun b hb => h b (.tail _ hb)) ?_ ?_
    · unfold hstep
      split
      · intro b hb; exact h1 b (List.dropLast_subset _ hb)
      · split
        · exact h1
        · rename_i e1 e2
          intro b hb
          rcases List.mem_append.mp hb with hb | hb
          · exact h1 b hb
          · rw [List.mem_singleton.mp hb]; exact hc.name e1 e2
    · unfold hstep
      split
      · exact h2
      · split
        · exact h2
        · rename_i e1 e2
          intro b hb
          rcases List.mem_append.mp hb with hb | hb
          · exact h2 b hb
          · split at hb
            · rw [List.mem_singleton.mp hb]; exact hc.name e1 e2
            · cases hb
theorem rep_last (n : Nat) (v : List UInt8) : (List.replicate (n + 1) v).getLast? = some v := by
  rw [List.getLast?_replicate]; simp
theorem rep_snoc {α : Type} (n : Nat) (v : α) : List.replicate n v ++ [v] = List.replicate (n + 1) v := by
  rw [List.replicate_succ', ]
/-- the way forth -/
theorem fwd : ∀ (l : List (List UInt8)) (s : HS), (∀ c ∈ l, IsStep c) → (∀ c ∈ s.names, IsName c) →
    l.foldl (nstep 46 false) (List.replicate s.ups [46, 46] ++ s.names) = List.replicate (l.foldl hstep s).ups [46, 46] ++ (l.foldl hstep s).names
  | [], s, _, _ => rfl
  | c :: l, s, h, h1 => by
    rw [List.foldl_cons, List.foldl_cons]
    have hc := h c (.head _)
    have hn : ∀ b ∈ (hstep s c).names, IsName b := by
      unfold hstep
      split
      · intro b hb; exact h1 b (List.dropLast_subset _ hb)
      · split
        · exact h1
        · rename_i e1 e2
          intro b hb
          rcases List.mem_append.mp hb with hb | hb
          · exact h1 b hb
          · rw [List.mem_singleton.mp hb]; exact hc.name e1 e2
    have ih := fwd l (hstep s c) (fun b hb => h b (.tail _ hb)) hn
    rw [← ih]
    congr 1
    by_cases e2 : c = [46, 46]
    · subst e2
      have e : hstep s [46, 46] = ⟨s.names.dropLast, s.ups + (if s.names = [] then 1 else 0), s.height - 1, s.highest, s.records⟩ := by unfold hstep; rw [if_pos rfl]
      rw [e]
      by_cases hs : s.names = []
      · rw [hs, List.append_nil, if_pos rfl]
        rw [nstep_push (by simp) (by simp) ?_]
        · rw [rep_snoc]; simp
        · right
          cases s.ups with
          | zero => exact .inl ⟨rfl, rfl⟩
          | succ n => exact .inr (rep_last _ _)
      · rw [if_neg hs, Nat.add_zero]
        rw [nstep_pop (by simp) (by simp) ?_, List.dropLast_append_of_ne_nil hs]
        rintro (e | ⟨_, e⟩ | e)
        · exact e rfl
        · exact hs (List.append_eq_nil_iff.mp e).2
        · rw [List.getLast?_append, List.getLast?_eq_some_getLast hs, Option.some_or] at e
          exact (h1 _ (List.getLast_mem hs)).ne2 (Option.some.inj e)
    · by_cases e1 : c = [46] ∨ c = []
      · have e : hstep s c = s := by unfold hstep; rw [if_neg e2, if_pos e1]
        rw [e, nstep_skip e1.symm]
      · have e : hstep s c = ⟨s.names ++ [c], s.ups, s.height + 1, max (s.height + 1) s.highest, s.records ++ (if s.height + 1 > s.highest then [c] else [])⟩ := by unfold hstep; rw [if_neg e2, if_neg e1]
        rw [e, nstep_push (fun q => e1 (.inr q)) (fun q => e1 (.inl q)) (.inl e2), List.append_assoc]
/-- going up, some times -/
def upN (ab : Bool) : Nat → List (List UInt8) → List (List UInt8)
  | 0, acc => acc
  | n + 1, acc => upN ab n (nstep 46 ab acc [46, 46])
theorem heights_le : ∀ (l : List (List UInt8)) (s : HS), s.height ≤ s.highest → (l.foldl hstep s).height ≤ (l.foldl hstep s).highest
  | [], s, h => h
  | c :: l, s, h => by
    rw [List.foldl_cons]
    refine heights_le l _ ?_
    unfold hstep
    split
    · show s.height - 1 ≤ s.highest; omega
    · split
      · exact h
      · show s.height + 1 ≤ max (s.height + 1) s.highest; omega
theorem bwd (ab : Bool) : ∀ (l : List (List UInt8)) (acc : List (List UInt8)), (∀ c ∈ l, IsStep c) → l.foldl (nstep 46 ab) acc = upN ab ((heightsL l.reverse).highest - (heightsL l.reverse).height).toNat acc ++ (heightsL l.reverse).records.reverse
  | [], acc, _ => by simp [heightsL, upN]
  | c :: l, acc, h => by
    have ih := bwd ab l (nstep 46 ab acc c) fun b hb => h b (.tail _ hb)
    have hle := heights_le l.reverse ⟨[], 0, 0, 0, []⟩ (Int.le_refl _)
    change (heightsL l.reverse).height ≤ (heightsL l.reverse).highest at hle
    have hx : heightsL (c :: l).reverse = hstep (heightsL l.reverse) c := by
      unfold heightsL; rw [List.reverse_cons, List.foldl_append]; rfl
    rw [List.foldl_cons, ih, hx]
    generalize heightsL l.reverse = s at *
    have hc := h c (.head _)
    by_cases e2 : c = [46, 46]
    · subst e2
      have e : hstep s [46, 46] = ⟨s.names.dropLast, s.ups + (if s.names = [] then 1 else 0), s.height - 1, s.highest, s.records⟩ := by unfold hstep; rw [if_pos rfl]
      rw [e]
      show _ = upN ab (s.highest - (s.height - 1)).toNat acc ++ _
      have : (s.highest - (s.height - 1)).toNat = (s.highest - s.height).toNat + 1 := by omega
      rw [this]; rfl
    · by_cases e1 : c = [46] ∨ c = []
      · have e : hstep s c = s := by unfold hstep; rw [if_neg e2, if_pos e1]
        rw [e, nstep_skip e1.symm]
      · have e : hstep s c = ⟨s.names ++ [c], s.ups, s.height + 1, max (s.height + 1) s.highest, s.records ++ (if s.height + 1 > s.highest then [c] else [])⟩ := by unfold hstep; rw [if_neg e2, if_neg e1]
        rw [e, nstep_push (fun q => e1 (.inr q)) (fun q => e1 (.inl q)) (.inl e2)]
        dsimp only
        by_cases hgt : s.height + 1 > s.highest
        · rw [if_pos hgt]
          have z1 : (s.highest - s.height).toNat = 0 := by omega
          have z2 : (max (s.height + 1) s.highest - (s.height + 1)).toNat = 0 := by omega
          rw [z1, z2, List.reverse_append]
          simp [upN]
        · rw [if_neg hgt, List.append_nil]
          have z1 : (s.highest - s.height).toNat = (max (s.height + 1) s.highest - (s.height + 1)).toNat + 1 := by omega
          rw [z1]
          show upN ab _ (nstep 46 ab (acc ++ [c]) [46, 46]) ++ _ = _
          rw [nstep_pop (by simp) (by simp) ?_, List.dropLast_concat]
          rintro (e | ⟨_, e⟩ | e)
          · exact e rfl
          · simp at e
          · rw [List.getLast?_concat] at e; exact e2 (Option.some.inj e)
theorem upN_rel : ∀ (n k : Nat), upN false n (List.replicate k [46, 46]) = List.replicate (k + n) [46, 46]
  | 0, k => rfl
  | n + 1, k => by
    show upN false n (nstep 46 false _ _) = _
    rw [nstep_push (by simp) (by simp) ?_]
    · rw [rep_snoc, upN_rel n (k + 1), show k + 1 + n = k + (n + 1) by omega]
    · right
      cases k with
      | zero => exact .inl ⟨rfl, rfl⟩
      | succ n => exact .inr (rep_last _ _)
theorem upN_abs : ∀ (n : Nat), upN true n [] = []
  | 0 => rfl
  | n + 1 => by
    show upN true n (nstep 46 true _ _) = _
    rw [nstep_pop (by simp) (by simp) (by simp)]
    exact upN_abs n

section
variable {α : Type} [DecidableEq α]
omit [DecidableEq α] in
theorem joinL_snoc (c : α) : ∀ (ps : List (List α)) (q : List α), ps ≠ [] → joinL c (ps ++ [q]) = joinL c ps ++ c :: q
  | [], _, h => absurd rfl h
  | [x], q, _ => by simp [joinL]
  | x :: y :: r, q, _ => by
    show x ++ c :: joinL c ((y :: r) ++ [q]) = (x ++ c :: joinL c (y :: r)) ++ c :: q
    rw [joinL_snoc c (y :: r) q (by simp)]
    simp
omit [DecidableEq α] in
theorem joinL_rev (c : α) : ∀ (ps : List (List α)), (joinL c ps).reverse = joinL c (ps.map List.reverse).reverse
  | [] => rfl
  | [x] => rfl
  | x :: y :: r => by
    have e : (List.map List.reverse (x :: y :: r)).reverse = ((y :: r).map List.reverse).reverse ++ [x.reverse] := by rw [List.map_cons, List.reverse_cons]
    rw [e, joinL_snoc _ _ _ (by simp), ← joinL_rev c (y :: r)]
    simp [joinL]
omit [DecidableEq α] in
theorem joinL_head (c : α) (x : α) (p : List α) (ps : List (List α)) : ∃ r, joinL c ((x :: p) :: ps) = x :: r := by
  cases ps with
  | nil => exact ⟨p, rfl⟩
  | cons y r => exact ⟨p ++ c :: joinL c (y :: r), rfl⟩
end
def wayL (steps : List (List UInt8)) (odd : Bool) : List UInt8 := joinL 47 steps ++ (if odd then [47] else [])
theorem wayL_join (steps : List (List UInt8)) (odd : Bool) (h : steps ≠ []) : wayL steps odd = joinL 47 (steps ++ (if odd then [[]] else [])) := by
  unfold wayL
  cases odd with
  | false => simp
  | true => simp only [if_true]; rw [joinL_snoc _ _ _ h]
theorem straight_ne (u : Nat) (ns : List (List UInt8)) (h : ∀ c ∈ ns, IsName c) (h0 : 0 < u + ns.length) : joinL 47 (List.replicate u [46, 46] ++ ns) ≠ [] := by
  intro e
  cases u with
  | zero =>
    rw [List.replicate_zero, List.nil_append] at e
    cases ns with
    | nil => simp at h0
    | cons n r =>
      obtain ⟨x, rfl, _, _⟩ := h n (.head _)
      obtain ⟨q, hq⟩ := joinL_head 47 x [] r
      rw [hq] at e; cases e
  | succ u =>
    rw [List.replicate_succ, List.cons_append] at e
    obtain ⟨q, hq⟩ := joinL_head (47 : UInt8) 46 [46] (List.replicate u [46, 46] ++ ns)
    rw [hq] at e; cases e
theorem straight_norm (u : Nat) (ns : List (List UInt8)) (h : ∀ c ∈ ns, IsName c) : (if joinL 47 (List.replicate u [46, 46] ++ ns) = [] then [46] else joinL 47 (List.replicate u [46, 46] ++ ns)) = straightL u ns := by
  unfold straightL
  by_cases h0 : u + ns.length > 0
  · rw [if_pos h0, if_neg (straight_ne u ns h h0)]
  · rw [if_neg h0]
    have e1 : u = 0 := by omega
    have e2 : ns = [] := List.length_eq_zero_iff.mp (by omega)
    subst e1; subst e2; rfl
theorem take1 {α : Type} {l r : List α} {x y : α} (h : l = x :: r) (hne : x ≠ y) : l.take 1 ≠ [y] := by
  rw [h]; simpa using hne
/-- normpath of the way -/
theorem norm_way {c : List UInt8} {l : List (List UInt8)} {odd : Bool} (h : ∀ b ∈ c :: l, IsStep b) (hc : c ≠ []) :
    (wayL (c :: l) odd).take 1 ≠ [47] ∧ normL 47 46 (wayL (c :: l) odd) = straightL (heightsL (c :: l)).ups (heightsL (c :: l)).names := by
  have hw := wayL_join (c :: l) odd (by simp)
  have ht : (wayL (c :: l) odd).take 1 ≠ [47] := by
    rw [hw]
    cases c with
    | nil => exact absurd rfl hc
    | cons x p =>
      obtain ⟨q, hq⟩ := joinL_head (47 : UInt8) x p (l ++ (if odd then [[]] else []))
      exact take1 hq fun e => (h _ (.head _)).free (e ▸ .head _)
  refine ⟨ht, ?_⟩
  have hs : splitL 47 (wayL (c :: l) odd) = c :: l ++ (if odd then [[]] else []) := by
    rw [hw]
    refine splitL_joinL (by simp) fun p hp => ?_
    rcases List.mem_append.mp hp with hp | hp
    · exact (h p hp).free
    · cases odd with
      | false => cases hp
      | true => rw [List.mem_singleton.mp hp]; simp
  have hf : (c :: l ++ (if odd then [[]] else [])).foldl (nstep 46 false) [] = List.replicate (heightsL (c :: l)).ups [46, 46] ++ (heightsL (c :: l)).names := by
    have z := fwd (c :: l) ⟨[], 0, 0, 0, []⟩ h (by simp)
    rw [List.foldl_append]
    have z' : (c :: l).foldl (nstep 46 false) [] = List.replicate (heightsL (c :: l)).ups [46, 46] ++ (heightsL (c :: l)).names := z
    rw [z']
    cases odd with
    | false => rfl
    | true => exact nstep_skip (dt := 46) (ab := false) (.inl rfl)
  have hi : initL 47 (wayL (c :: l) odd) = [] := if_neg ht
  have hr : restL 47 (wayL (c :: l) odd) = wayL (c :: l) odd := if_neg ht
  unfold normL
  dsimp only
  rw [hi, hr, hs]
  show (if [] ++ joinL 47 (List.foldl (nstep 46 false) [] _) = [] then [46] else [] ++ joinL 47 (List.foldl (nstep 46 false) [] _)) = _
  rw [hf, List.nil_append]
  exact straight_norm _ _ (heights_names (c :: l) ⟨[], 0, 0, 0, []⟩ h (by simp) (by simp)).1
def backL (s : HS) : Nat := (s.highest - s.height).toNat
def dueL (s : HS) (odd : Bool) : List UInt8 := if odd then 47 :: joinL 47 s.records.reverse else straightL (backL s) s.records.reverse
theorem way_rev {steps : List (List UInt8)} {odd : Bool} (h : ∀ b ∈ steps, IsStep b) : (wayL steps odd).reverse = (if odd then [47] else []) ++ joinL 47 steps.reverse := by
  have hm : steps.map List.reverse = steps := by
    have : steps.map List.reverse = steps.map id := List.map_congr_left fun b hb => (h b hb).pal
    rw [this, List.map_id]
  unfold wayL
  rw [List.reverse_append, joinL_rev, hm]
  cases odd <;> rfl
/-- normpath of the way turned about -/
theorem norm_back {c : List UInt8} {l : List (List UInt8)} {odd : Bool} (h : ∀ b ∈ l ++ [c], IsStep b) (hc : c ≠ []) :
    ((wayL (l ++ [c]) odd).reverse.take 1 = [47] → ((wayL (l ++ [c]) odd).reverse.drop 1).take 1 ≠ [47]) ∧ normL 47 46 (wayL (l ++ [c]) odd).reverse = dueL (heightsL (l ++ [c])) odd := by
  have hw := way_rev (odd := odd) h
  rw [List.reverse_append] at hw
  have hcs : IsStep c := h c (by simp)
  have ht : (joinL 47 (c :: l.reverse)).take 1 ≠ [47] := by
    cases c with
    | nil => exact absurd rfl hc
    | cons x p =>
      obtain ⟨q, hq⟩ := joinL_head (47 : UInt8) x p l.reverse
      exact take1 hq fun e => hcs.free (e ▸ .head _)
  have hs : splitL 47 (joinL 47 (c :: l.reverse)) = c :: l.reverse := by
    refine splitL_joinL (by simp) fun p hp => ?_
    refine (h p ?_).free
    rcases List.mem_cons.mp hp with rfl | hp
    · simp
    · simp [List.mem_reverse.mp hp]
  have hb := fun ab => bwd ab (c :: l.reverse) [] (fun b hb => h b (by
    rcases List.mem_cons.mp hb with rfl | hp
    · simp
    · simp [List.mem_reverse.mp hp]))
  have hrr : (c :: l.reverse).reverse = l ++ [c] := by simp
  rw [hrr] at hb
  have hrec := (heights_names (l ++ [c]) ⟨[], 0, 0, 0, []⟩ h (by simp) (by simp)).2
  rw [hw]
  cases odd with
  | true =>
    have e1 : ((if true = true then [47] else []) ++ joinL 47 ([c].reverse ++ l.reverse) : List UInt8) = 47 :: joinL 47 (c :: l.reverse) := rfl
    rw [e1]
    refine ⟨fun _ => ht, ?_⟩
    have hi : initL 47 (47 :: joinL 47 (c :: l.reverse)) = [(47 : UInt8)] := if_pos rfl
    have hr : restL 47 (47 :: joinL 47 (c :: l.reverse)) = joinL 47 (c :: l.reverse) := if_pos rfl
    unfold normL
    dsimp only
    rw [hi, hr, hs]
    show (if [47] ++ joinL 47 (List.foldl (nstep 46 true) [] _) = [] then [46] else [47] ++ joinL 47 (List.foldl (nstep 46 true) [] _)) = _
    rw [hb true, upN_abs, List.nil_append, if_neg (by simp)]
    rfl
  | false =>
    have e1 : ((if false = true then [47] else []) ++ joinL 47 ([c].reverse ++ l.reverse) : List UInt8) = joinL 47 (c :: l.reverse) := rfl
    rw [e1]
    refine ⟨fun e => absurd e ht, ?_⟩
    have hi : initL 47 (joinL 47 (c :: l.reverse)) = [] := if_neg ht
    have hr : restL 47 (joinL 47 (c :: l.reverse)) = joinL 47 (c :: l.reverse) := if_neg ht
    unfold normL
    dsimp only
    rw [hi, hr, hs]
    show (if [] ++ joinL 47 (List.foldl (nstep 46 false) [] _) = [] then [46] else [] ++ joinL 47 (List.foldl (nstep 46 false) [] _)) = _
    rw [hb false, show upN false _ [] = _ from upN_rel _ 0, Nat.zero_add, List.nil_append]
    exact straight_norm _ _ fun b hb => hrec b (List.mem_reverse.mp hb)
/-- the names left -/
theorem kept_name {c : List UInt8} (h : IsName c) : kept3 c = true := by
  unfold kept3
  have := h.ne0; have := h.ne1; have := h.ne2
  simp [*]
theorem filter_names {l : List (List UInt8)} (h : ∀ c ∈ l, IsName c) : l.filter kept3 = l := List.filter_eq_self.mpr fun c hc => kept_name (h c hc)
theorem left_straight {u : Nat} {ns : List (List UInt8)} (h : ∀ c ∈ ns, IsName c) : leftL (straightL u ns) = srt ns := by
  unfold leftL straightL
  by_cases h0 : u + ns.length > 0
  · rw [if_pos h0, splitL_joinL ?_ ?_, List.filter_append, filter_names h]
    · have : (List.replicate u [46, 46]).filter kept3 = [] := by
        rw [List.filter_eq_nil_iff]
        intro c hc
        rw [List.eq_of_mem_replicate hc]; decide
      rw [this, List.nil_append]
    · intro e
      have := congrArg List.length e
      rw [List.length_append, List.length_replicate, List.length_nil] at this
      omega
    · intro p hp
      rcases List.mem_append.mp hp with hp | hp
      · rw [List.eq_of_mem_replicate hp]; decide
      · exact (h p hp).free
  · rw [if_neg h0]
    have e2 : ns = [] := List.length_eq_zero_iff.mp (by omega)
    subst e2
    decide
theorem left_root {ns : List (List UInt8)} (h : ∀ c ∈ ns, IsName c) : leftL (47 :: joinL 47 ns) = srt ns := by
  unfold leftL
  rw [splitL_cons_eq]
  show srt (List.filter kept3 (splitL 47 (joinL 47 ns))) = _
  cases ns with
  | nil => decide
  | cons n r => rw [splitL_joinL (by simp) fun p hp => (h p hp).free, filter_names h]
theorem left_due {s : HS} {odd : Bool} (h : ∀ c ∈ s.records, IsName c) : leftL (dueL s odd) = srt s.records.reverse := by
  have h' : ∀ c ∈ s.records.reverse, IsName c := fun c hc => h c (List.mem_reverse.mp hc)
  unfold dueL
  cases odd with
  | true => exact left_root h'
  | false => exact left_straight h'

/-- each, some times -/
def repK (k : Nat) (l : List (List UInt8)) : List (List UInt8) := l.flatMap fun x => List.replicate k x
def onlyK (k : Nat) (es as : List (List UInt8)) : List (List UInt8) := es.flatMap fun e => if e ∈ as then [] else List.replicate (if lastLt as e then k else 1) e
def Strict (l : List (List UInt8)) : Prop := l.Pairwise fun a b => ltB a b = true
theorem order_gt : ∀ a b, Builtin.Bytes.order a b = .gt ↔ Builtin.Bytes.order b a = .lt
  | [], [] => by simp [Builtin.Bytes.order]
  | [], _ :: _ => by simp [Builtin.Bytes.order]
  | _ :: _, [] => by simp [Builtin.Bytes.order]
  | x :: a, y :: b => by
    have ih := order_gt a b
    simp only [Builtin.Bytes.order]
    by_cases h1 : x < y
    · have h2 : ¬ y < x := UInt8.not_lt.mpr (UInt8.le_of_lt h1)
      simp [h1, h2]
    · by_cases h2 : y < x
      · simp [h1, h2]
      · simp [h1, h2, ih]
theorem gtB_eq (a b : List UInt8) : gtB a b = ltB b a := by
  unfold gtB ltB
  rw [Bool.eq_iff_iff, beq_iff_eq, beq_iff_eq]
  exact order_gt a b
theorem lastLt_cons {a e : List UInt8} {as : List (List UInt8)} (h : ltB a e = true) : lastLt (a :: as) e = lastLt as e := by
  cases as with
  | nil => show ltB a e = true; exact h
  | cons b r => unfold lastLt; rw [List.getLast?_cons_cons]
theorem lastLt_no {a e : List UInt8} {as : List (List UInt8)} (hs : Strict (a :: as)) (h : ltB e a = true) : lastLt (a :: as) e = false := by
  unfold lastLt
  obtain ⟨l, hl⟩ : ∃ l, (a :: as).getLast? = some l := ⟨_, List.getLast?_eq_some_getLast (by simp)⟩
  rw [hl]
  dsimp only
  rcases List.mem_cons.mp (List.mem_of_getLast? hl) with rfl | hm
  · exact ltB_asymm h
  · exact ltB_asymm (ltB_trans h ((List.pairwise_cons.mp hs).1 l hm))
theorem onlyK_drop {k : Nat} {a : List UInt8} {es as : List (List UInt8)} (h : ∀ e ∈ es, ltB a e = true) : onlyK k es (a :: as) = onlyK k es as := by
  unfold onlyK
  have : ∀ e ∈ es, (if e ∈ a :: as then [] else List.replicate (if lastLt (a :: as) e then k else 1) e) = (if e ∈ as then [] else List.replicate (if lastLt as e then k else 1) e) := fun e he => by
    have hae := h e he
    have hne : e ≠ a := fun q => by rw [q, ltB_irrefl] at hae; cases hae
    rw [lastLt_cons hae]
    by_cases hm : e ∈ as
    · rw [if_pos hm, if_pos (.tail _ hm)]
    · rw [if_neg hm, if_neg (by simp [hne, hm])]
  induction es with
  | nil => rfl
  | cons e es ih =>
    rw [List.flatMap_cons, List.flatMap_cons, this e (.head _), ih (fun x hx => h x (.tail _ hx)) fun x hx => this x (.tail _ hx)]
theorem repK_skip {k : Nat} {e : List UInt8} {es : List (List UInt8)} (h : ∀ x ∈ es, x ≠ e) : (List.replicate k e ++ repK (k + 1) es).dropWhile (same e) = repK (k + 1) es := by
  rw [List.dropWhile_append]
  have h0 : (List.replicate k e).dropWhile (same e) = [] := dropWhile_nil fun x hx => by rw [List.eq_of_mem_replicate hx]; simp [same]
  rw [h0]
  simp only [List.isEmpty_nil, if_true]
  cases es with
  | nil => rfl
  | cons x es =>
    show (x :: (List.replicate k x ++ repK (k + 1) es)).dropWhile (same e) = _
    rw [List.dropWhile_cons, if_neg (by simp [same, h x (.head _)])]
    rfl
theorem sld_only (k : Nat) : ∀ (n : Nat) (es as m u : List (List UInt8)), es.length + as.length ≤ n → Strict es → Strict as →
    sld (repK (k + 1) es) (repK (k + 1) as) m u = (m ++ onlyK (k + 1) es as, u ++ onlyK (k + 1) as es)
  | n, [], as, m, u, _, _, _ => by
    have e : onlyK (k + 1) as [] = repK (k + 1) as := by unfold onlyK repK; simp [lastLt]
    rw [e]
    show sld [] _ m u = (m ++ [], _)
    rw [sld, List.append_nil]
  | n, e :: es, [], m, u, _, _, _ => by
    have q : onlyK (k + 1) (e :: es) [] = repK (k + 1) (e :: es) := by unfold onlyK repK; simp [lastLt]
    rw [q]
    show sld (e :: (List.replicate k e ++ repK (k + 1) es)) [] m u = (_, u ++ [])
    rw [sld, List.append_nil]; rfl
  | 0, e :: es, a :: as, m, u, h, _, _ => by simp at h
  | n + 1, e :: es, a :: as, m, u, h, hs, hs' => by
    obtain ⟨s1, s2⟩ := List.pairwise_cons.mp hs
    obtain ⟨s3, s4⟩ := List.pairwise_cons.mp hs'
    have ne1 : ∀ x ∈ es, x ≠ e := fun x hx q => by have := s1 x hx; rw [q, ltB_irrefl] at this; cases this
    have ne2 : ∀ x ∈ as, x ≠ a := fun x hx q => by have := s3 x hx; rw [q, ltB_irrefl] at this; cases this
    simp only [List.length_cons] at h
    show sld (e :: (List.replicate k e ++ repK (k + 1) es)) (a :: (List.replicate k a ++ repK (k + 1) as)) m u = _
    rw [sld, gtB_eq, repK_skip ne1, repK_skip ne2]
    by_cases hlt : ltB e a = true
    · rw [if_pos hlt]
      have ih := sld_only k n es (a :: as) (m ++ [e]) u (by simp; omega) s2 hs'
      have hbig : ∀ x ∈ a :: as, ltB e x = true := fun x hx => by
        rcases List.mem_cons.mp hx with rfl | hx
        · exact hlt
        · exact ltB_trans hlt (s3 x hx)
      have hni : e ∉ a :: as := fun hm => by have := hbig e hm; rw [ltB_irrefl] at this; cases this
      have e1 : onlyK (k + 1) (e :: es) (a :: as) = [e] ++ onlyK (k + 1) es (a :: as) := by
        show (if e ∈ a :: as then [] else List.replicate (if lastLt (a :: as) e then k + 1 else 1) e) ++ _ = _
        rw [if_neg hni, lastLt_no hs' hlt]; rfl
      rw [e1, onlyK_drop hbig]
      refine Eq.trans ih ?_
      rw [List.append_assoc]
    · rw [if_neg hlt]
      have hlt : ltB e a = false := by simpa using hlt
      by_cases hgt : ltB a e = true
      · rw [if_pos hgt]
        have ih := sld_only k n (e :: es) as m (u ++ [a]) (by simp; omega) hs s4
        have hbig : ∀ x ∈ e :: es, ltB a x = true := fun x hx => by
          rcases List.mem_cons.mp hx with rfl | hx
          · exact hgt
          · exact ltB_trans hgt (s1 x hx)
        have hni : a ∉ e :: es := fun hm => by have := hbig a hm; rw [ltB_irrefl] at this; cases this
        have e1 : onlyK (k + 1) (a :: as) (e :: es) = [a] ++ onlyK (k + 1) as (e :: es) := by
          show (if a ∈ e :: es then [] else List.replicate (if lastLt (e :: es) a then k + 1 else 1) a) ++ _ = _
          rw [if_neg hni, lastLt_no hs hgt]; rfl
        rw [e1, onlyK_drop hbig]
        refine Eq.trans ih ?_
        rw [List.append_assoc]
      · rw [if_neg hgt]
        have hgt : ltB a e = false := by simpa using hgt
        have hea := ltB_antisymm hlt hgt
        subst hea
        have ih := sld_only k n es as m u (by omega) s2 s4
        have e1 : onlyK (k + 1) (e :: es) (e :: as) = onlyK (k + 1) es (e :: as) := by
          show (if e ∈ e :: as then [] else _) ++ _ = _
          rw [if_pos (.head _)]; rfl
        have e2 : onlyK (k + 1) (e :: as) (e :: es) = onlyK (k + 1) as (e :: es) := by
          show (if e ∈ e :: es then [] else _) ++ _ = _
          rw [if_pos (.head _)]; rfl
        rw [e1, e2, onlyK_drop s1, onlyK_drop s3]
        exact ih
theorem repK_one (l : List (List UInt8)) : repK 1 l = l := by
  unfold repK
  induction l with
  | nil => rfl
  | cons x l ih => rw [List.flatMap_cons, ih]; rfl
theorem onlyK_one (es as : List (List UInt8)) : onlyK 1 es as = onlyL es as false := by
  unfold onlyK onlyL
  congr 1
  funext e
  unfold onlyN
  by_cases h : e ∈ as
  · rw [if_pos h, if_pos h]; rfl
  · rw [if_neg h, if_neg h]
    have : (if lastLt as e = true then 1 else 1) = 1 := by split <;> rfl
    rw [this]; rfl
theorem onlyK_two (es as : List (List UInt8)) : onlyK 2 es as = onlyL es as true := by
  unfold onlyK onlyL
  congr 1
  funext e
  unfold onlyN
  by_cases h : e ∈ as
  · rw [if_pos h, if_pos h]; rfl
  · rw [if_neg h, if_neg h, Bool.true_and]
theorem strict_of {l : List (List UInt8)} (h : l.Nodup) (hr : Rising l) : Strict l := by
  unfold Strict Rising at *
  refine List.Pairwise.imp₂ ?_ hr h
  intro a b h1 h2
  cases q : ltB a b with
  | true => rfl
  | false => exact absurd (ltB_antisymm q h1) h2
theorem srt_strict {l : List (List UInt8)} (h : l.Nodup) : Strict (srt l) := strict_of ((srt_perm l).nodup_iff.mpr h) (srt_rising l)
theorem srt_of_rising {l : List (List UInt8)} (h : Rising l) : srt l = l := rising_unique (srt_rising l) h (srt_perm l)
theorem rep2_rising : ∀ {l : List (List UInt8)}, Strict l → Rising (repK 2 l)
  | [], _ => List.Pairwise.nil
  | x :: l, h => by
    obtain ⟨h1, h2⟩ := List.pairwise_cons.mp h
    have ih := rep2_rising h2
    have hm : ∀ y ∈ repK 2 l, ltB y x = false := fun y hy => by
      obtain ⟨z, hz, hy⟩ := List.mem_flatMap.mp hy
      rw [List.eq_of_mem_replicate hy]
      exact ltB_asymm (h1 z hz)
    show Rising (x :: x :: repK 2 l)
    refine List.pairwise_cons.mpr ⟨fun y hy => ?_, List.pairwise_cons.mpr ⟨hm, ih⟩⟩
    rcases List.mem_cons.mp hy with rfl | hy
    · exact ltB_irrefl _
    · exact hm y hy
theorem rep2_perm : ∀ (l : List (List UInt8)), (repK 2 l).Perm (l ++ l)
  | [] => .refl _
  | x :: l => by
    show (x :: x :: repK 2 l).Perm (x :: (l ++ x :: l))
    refine .cons _ ?_
    refine List.Perm.trans (.cons _ (rep2_perm l)) ?_
    exact List.perm_middle.symm
theorem srt_twice {l : List (List UInt8)} (h : Strict l) : srt (l ++ l) = repK 2 l :=
  rising_unique (srt_rising _) (rep2_rising h) ((srt_perm _).trans (rep2_perm l).symm)
/-- what the comparison tells -/
theorem told {es as : List (List UInt8)} (h : Strict es) (h' : Strict as) :
    [[(sld es as [] []).1, (sld es as [] []).2], [(sld (srt (es ++ es)) (srt (as ++ as)) [] []).1, (sld (srt (es ++ es)) (srt (as ++ as)) [] []).2]] =
      [[onlyL es as false, onlyL as es false], [onlyL es as true, onlyL as es true]] := by
  have e1 := sld_only 0 _ es as [] [] (Nat.le_refl _) h h'
  rw [show 0 + 1 = 1 from rfl, repK_one, repK_one, onlyK_one, onlyK_one] at e1
  have e2 := sld_only 1 _ es as [] [] (Nat.le_refl _) h h'
  rw [show 1 + 1 = 2 from rfl, onlyK_two, onlyK_two] at e2
  rw [srt_twice h, srt_twice h', e1, e2]
  rfl

section
variable {α β : Type} [DecidableEq α] [DecidableEq β] (f : α → β) (hf : ∀ x y, f x = f y → x = y)
include hf
theorem splitL_map (c : α) : ∀ l : List α, splitL (f c) (l.map f) = (splitL c l).map (List.map f)
  | [] => rfl
  | x :: l => by
    rw [List.map_cons]
    by_cases h : x = c
    · subst h
      rw [splitL_cons_eq, splitL_cons_eq, splitL_map x l]; rfl
    · rw [splitL_cons_ne h, splitL_cons_ne (fun e => h (hf _ _ e)), splitL_map c l]
      cases splitL c l <;> rfl
omit hf [DecidableEq α] [DecidableEq β] in
theorem joinL_map (c : α) : ∀ l : List (List α), joinL (f c) (l.map (List.map f)) = (joinL c l).map f
  | [] => rfl
  | [x] => rfl
  | x :: y :: r => by
    show x.map f ++ f c :: joinL (f c) ((y :: r).map (List.map f)) = (x ++ c :: joinL c (y :: r)).map f
    rw [joinL_map c (y :: r)]; simp
omit [DecidableEq α] [DecidableEq β] in
theorem map_inj : ∀ {a b : List α}, a.map f = b.map f → a = b
  | [], [], _ => rfl
  | [], _ :: _, h => by simp at h
  | _ :: _, [], h => by simp at h
  | x :: a, y :: b, h => by
    rw [List.map_cons, List.map_cons] at h
    obtain ⟨h1, h2⟩ := List.cons.inj h
    rw [hf _ _ h1, map_inj h2]
theorem nstep_map (dt : α) (ab : Bool) (acc : List (List α)) (c : List α) : nstep (f dt) ab (acc.map (List.map f)) (c.map f) = (nstep dt ab acc c).map (List.map f) := by
  have e1 : (c.map f = [f dt]) ↔ c = [dt] := ⟨fun h => map_inj f hf (b := [dt]) h, fun h => by rw [h]; rfl⟩
  have e2 : (c.map f = [f dt, f dt]) ↔ c = [dt, dt] := ⟨fun h => map_inj f hf (b := [dt, dt]) h, fun h => by rw [h]; rfl⟩
  have e0 : (c.map f = []) ↔ c = [] := List.map_eq_nil_iff
  have e3 : (acc.map (List.map f) = []) ↔ acc = [] := List.map_eq_nil_iff
  have e4 : ((acc.map (List.map f)).getLast? = some [f dt, f dt]) ↔ acc.getLast? = some [dt, dt] := by
    rw [List.getLast?_map]
    cases acc.getLast? with
    | none => simp
    | some l =>
      simp only [Option.map_some, Option.some.injEq]
      exact ⟨fun h => map_inj f hf (b := [dt, dt]) h, fun h => by rw [h]; rfl⟩
  unfold nstep
  by_cases h1 : c = [] ∨ c = [dt]
  · rw [if_pos h1, if_pos (by rw [e0, e1]; exact h1)]
  · rw [if_neg h1, if_neg (by rw [e0, e1]; exact h1)]
    by_cases h2 : c ≠ [dt, dt] ∨ (ab = false ∧ acc = []) ∨ acc.getLast? = some [dt, dt]
    · rw [if_pos h2, if_pos (by rw [Ne, e2, e3, e4]; exact h2)]; simp
    · rw [if_neg h2, if_neg (by rw [Ne, e2, e3, e4]; exact h2), List.map_dropLast]
theorem fold_map (dt : α) (ab : Bool) : ∀ (l acc : List (List α)), (l.map (List.map f)).foldl (nstep (f dt) ab) (acc.map (List.map f)) = (l.foldl (nstep dt ab) acc).map (List.map f)
  | [], acc => rfl
  | c :: l, acc => by
    rw [List.map_cons, List.foldl_cons, List.foldl_cons, nstep_map f hf, fold_map dt ab l]
theorem normL_map (sl dt : α) (a : List α) : normL (f sl) (f dt) (a.map f) = (normL sl dt a).map f := by
  have e0 : ((a.map f).take 1 = [f sl]) ↔ a.take 1 = [sl] := by
    rw [← List.map_take]
    exact ⟨fun h => map_inj f hf (b := [sl]) h, fun h => by rw [h]; rfl⟩
  have ei : initL (f sl) (a.map f) = (initL sl a).map f := by
    unfold initL
    by_cases h : a.take 1 = [sl]
    · rw [if_pos h, if_pos (e0.mpr h)]; rfl
    · rw [if_neg h, if_neg (fun q => h (e0.mp q))]; rfl
  have er : restL (f sl) (a.map f) = (restL sl a).map f := by
    unfold restL
    by_cases h : a.take 1 = [sl]
    · rw [if_pos h, if_pos (e0.mpr h)]; simp
    · rw [if_neg h, if_neg (fun q => h (e0.mp q))]
  unfold normL
  dsimp only
  have eb : ((initL sl a).map f).isEmpty = (initL sl a).isEmpty := by cases initL sl a <;> rfl
  rw [ei, er, splitL_map f hf, eb]
  have := fold_map f hf dt (!(initL sl a).isEmpty) (splitL sl (restL sl a)) []
  rw [List.map_nil] at this
  rw [this, joinL_map, ← List.map_append]
  generalize initL sl a ++ joinL sl _ = p
  cases p with
  | nil => rfl
  | cons x r => rw [if_neg (by simp), if_neg (by simp)]
end

/-- the law's steps -/
def nameAt (k : Nat) : List UInt8 := [UInt8.ofNat (97 + k)]
def stepL (k : Nat) (x : Int) : List UInt8 := if x % 5 = 2 then [46, 46] else if x % 5 = 3 then [46] else if x % 5 = 4 then (if k > 0 then [] else [46]) else nameAt k
def stepsL : Nat → List Int → List (List UInt8)
  | _, [] => []
  | k, x :: l => stepL k x :: stepsL (k + 1) l
theorem stepsL_length : ∀ (k : Nat) (l : List Int), (stepsL k l).length = l.length
  | _, [] => rfl
  | k, _ :: l => by show (stepsL (k + 1) l).length + 1 = l.length + 1; rw [stepsL_length]
theorem name_is {k : Nat} (h : k < 100) : IsName (nameAt k) := by
  refine ⟨_, rfl, ?_, ?_⟩
  · intro e
    have := congrArg UInt8.toNat e
    rw [UInt8.toNat_ofNat'] at this
    simp at this
    omega
  · intro e
    have := congrArg UInt8.toNat e
    rw [UInt8.toNat_ofNat'] at this
    simp at this
    omega
theorem name_inj {j k : Nat} (h : j < 100) (h' : k < 100) (e : nameAt j = nameAt k) : j = k := by
  have := congrArg UInt8.toNat (List.cons.inj e).1
  rw [UInt8.toNat_ofNat', UInt8.toNat_ofNat'] at this
  omega
theorem step_is {k : Nat} {x : Int} (h : k < 100) : IsStep (stepL k x) := by
  unfold stepL
  split
  · exact .inl rfl
  · split
    · exact .inr (.inl rfl)
    · split
      · split
        · exact .inr (.inr (.inl rfl))
        · exact .inr (.inl rfl)
      · exact .inr (.inr (.inr (name_is h)))
theorem steps_are : ∀ {k : Nat} {l : List Int}, k + l.length ≤ 100 → ∀ c ∈ stepsL k l, IsStep c
  | _, [], _, c, hc => by cases hc
  | k, x :: l, h, c, hc => by
    simp only [List.length_cons] at h
    rcases List.mem_cons.mp hc with rfl | hc
    · exact step_is (by omega)
    · exact steps_are (by omega) c hc
theorem step_name {k : Nat} {x : Int} (h : IsName (stepL k x)) : stepL k x = nameAt k := by
  unfold stepL at *
  split at h
  · exact absurd rfl h.ne2
  · split at h
    · exact absurd rfl h.ne1
    · split at h
      · split at h
        · exact absurd rfl h.ne0
        · exact absurd rfl h.ne1
      · rename_i h1 h2 h3
        rw [if_neg h1, if_neg h2, if_neg h3]
theorem mem_steps : ∀ {k : Nat} {l : List Int} {c : List UInt8}, c ∈ stepsL k l → IsName c → ∃ j, k ≤ j ∧ j < k + l.length ∧ c = nameAt j
  | _, [], c, hc, _ => by cases hc
  | k, x :: l, c, hc, hn => by
    rcases List.mem_cons.mp hc with rfl | hc
    · exact ⟨k, Nat.le_refl _, by simp, step_name hn⟩
    · obtain ⟨j, h1, h2, h3⟩ := mem_steps hc hn
      exact ⟨j, by omega, by simp; omega, h3⟩
/-- the names, each at its place -/
def Fresh (N : List (List UInt8)) (l : List (List UInt8)) : Prop := ∀ c ∈ l, IsName c → c ∉ N
theorem heights_nodup : ∀ (l : List Int) (k : Nat) (s : HS), k + l.length ≤ 100 → (∀ c ∈ s.names, ∃ j, j < k ∧ c = nameAt j) → (∀ c ∈ s.records, ∃ j, j < k ∧ c = nameAt j) → s.names.Nodup → s.records.Nodup →
    ((stepsL k l).foldl hstep s).names.Nodup ∧ ((stepsL k l).foldl hstep s).records.Nodup
  | [], k, s, _, _, _, h3, h4 => ⟨h3, h4⟩
  | x :: l, k, s, h, h1, h2, h3, h4 => by
    simp only [List.length_cons] at h
    rw [show stepsL k (x :: l) = stepL k x :: stepsL (k + 1) l from rfl, List.foldl_cons]
    have up : ∀ {N : List (List UInt8)}, (∀ c ∈ N, ∃ j, j < k ∧ c = nameAt j) → ∀ c ∈ N, ∃ j, j < k + 1 ∧ c = nameAt j := fun hN c hc => by
      obtain ⟨j, h1, h2⟩ := hN c hc; exact ⟨j, by omega, h2⟩
    have snoc : ∀ {N : List (List UInt8)}, (∀ c ∈ N, ∃ j, j < k ∧ c = nameAt j) → N.Nodup → (N ++ [nameAt k]).Nodup ∧ ∀ c ∈ N ++ [nameAt k], ∃ j, j < k + 1 ∧ c = nameAt j := fun {N} hN hd => by
      refine ⟨?_, ?_⟩
      · rw [List.nodup_append]
        refine ⟨hd, by simp, ?_⟩
        intro a ha b hb e
        rw [List.mem_singleton] at hb
        obtain ⟨j, h1, h2⟩ := hN a ha
        rw [hb, h2] at e
        have := name_inj (by omega) (by omega) e
        omega
      · intro c hc
        rcases List.mem_append.mp hc with hc | hc
        · exact up hN c hc
        · exact ⟨k, by omega, List.mem_singleton.mp hc⟩
    have hst : IsStep (stepL k x) := step_is (by omega)
    by_cases e2 : stepL k x = [46, 46]
    · have e : hstep s (stepL k x) = ⟨s.names.dropLast, s.ups + (if s.names = [] then 1 else 0), s.height - 1, s.highest, s.records⟩ := by unfold hstep; rw [if_pos e2]
      rw [e]
      exact heights_nodup l (k + 1) _ (by omega) (fun c hc => up h1 c (List.dropLast_subset _ hc)) (up h2) ((List.dropLast_sublist _).nodup h3) h4
    · by_cases e1 : stepL k x = [46] ∨ stepL k x = []
      · have e : hstep s (stepL k x) = s := by unfold hstep; rw [if_neg e2, if_pos e1]
        rw [e]
        exact heights_nodup l (k + 1) _ (by omega) (up h1) (up h2) h3 h4
      · have hn := step_name (hst.name e2 e1)
        have e : hstep s (stepL k x) = ⟨s.names ++ [stepL k x], s.ups, s.height + 1, max (s.height + 1) s.highest, s.records ++ (if s.height + 1 > s.highest then [stepL k x] else [])⟩ := by unfold hstep; rw [if_neg e2, if_neg e1]
        rw [e, hn]
        obtain ⟨n1, n2⟩ := snoc h1 h3
        by_cases hgt : s.height + 1 > s.highest
        · rw [if_pos hgt]
          obtain ⟨r1, r2⟩ := snoc h2 h4
          exact heights_nodup l (k + 1) _ (by omega) n2 r2 n1 r1
        · rw [if_neg hgt, List.append_nil]
          exact heights_nodup l (k + 1) _ (by omega) n2 (up h2) n1 h4
theorem stepsL_append : ∀ (a : List Int) (k : Nat) (b : List Int), stepsL k (a ++ b) = stepsL k a ++ stepsL (k + a.length) b
  | [], k, b => by simp [stepsL]
  | x :: a, k, b => by
    show stepL k x :: stepsL (k + 1) (a ++ b) = stepL k x :: stepsL (k + 1) a ++ _
    rw [stepsL_append a (k + 1) b, List.cons_append, List.length_cons, show k + 1 + a.length = k + (a.length + 1) by omega]
abbrev tailL : List Int := [0, 1, 2, 2, 4, 2, 5, 3, 10, 12, 11]

theorem forIn_steps {β : Type} (S : Nat → β) (f : Nat → β → Sem (ForInStep β)) (N : Nat) (hf : ∀ i j, j < N → f i (S j) = pure (.yield (S (j + 1)))) :
    ∀ (L : List Nat) (j : Nat), j + L.length ≤ N → forIn L (S j) f = pure (S (j + L.length))
  | [], j, _ => by simp
  | x :: L, j, h => by
    simp only [List.length_cons] at h
    rw [List.forIn_cons, hf x j (by omega), pure_bind]
    dsimp only
    rw [forIn_steps S f N hf L (j + 1) (by omega), List.length_cons, show j + 1 + L.length = j + (L.length + 1) by omega]
open Builtin in
theorem run_ascii (id : String) (l : List UInt8) (hl : ∀ x ∈ l, x.toNat < 128) (hz : l.length ≤ 1000) :
    _codecs.runDecoder id _codecs.asciiDecoder none true l.toArray 0 [] = pure ((l.map UInt8.toNat).toArray, l.length) := by
  unfold _codecs.runDecoder
  dsimp only
  rw [Std.Legacy.Range.forIn_eq_forIn_range']
  have h0 : ((0 : Nat), (#[] : Array Nat), ({} : _codecs.Faults)) = (fun j => (j, ((l.take j).map UInt8.toNat).toArray, ({} : _codecs.Faults))) 0 := rfl
  rw [h0]
  refine (congrArg (· >>= _) (forIn_steps (fun j => (j, ((l.take j).map UInt8.toNat).toArray, ({} : _codecs.Faults))) _ l.length ?_ _ 0 ?_)).trans ?_
  · intro i j hj
    dsimp only
    have hs : ((l.take j).map UInt8.toNat).toArray.size = j := by simp; omega
    rw [hs, if_neg (by rw [sizeLine_eq]; omega), if_neg (by rw [List.size_toArray]; omega)]
    have hx : l.toArray.getD j 0 = l[j] := by simp [Array.getD, hj]
    have hf : _codecs.asciiDecoder.find true l.toArray j = .text [l[j].toNat] (j + 1) := by
      show (if (l.toArray.getD j 0).toNat < 128 then _codecs.Found.char (l.toArray.getD j 0).toNat (j + 1) else _) = _
      rw [hx, if_pos (hl _ (List.getElem_mem hj))]; rfl
    rw [hf]
    dsimp only
    have e : ((l.take (j + 1)).map UInt8.toNat).toArray = ((l.take j).map UInt8.toNat).toArray ++ [l[j].toNat].toArray := by
      rw [List.append_toArray, List.take_add_one, List.getElem?_eq_getElem hj, Option.toList_some, List.map_append]; rfl
    rw [e]
  · simp
  · simp [List.take_of_length_le]
open Builtin in
theorem road_ascii {id : String} {b : Array UInt8} : _codecs.decodeRoad id b (PySem.Str.ofString "ascii") none [] = (_codecs.runDecoder id _codecs.asciiDecoder none true b 0 [] >>= fun r => mkStr ⟨r.1⟩) := by kernel_rfl
open Builtin in
theorem text_ascii {l : List UInt8} {t t1 t2 : Tok} {dn : PySem.Str} (hl : ∀ x ∈ l, x.toNat < 128) (hz : l.length ≤ 1000) :
    Meets («_codecs.decode.text» ⟨[.bytes l.toArray t, .str (PySem.Str.ofString "ascii") t1, .none, .str dn t2], []⟩) (fun _ R s => R (.ok (.ret (.str ⟨(l.map UInt8.toNat).toArray⟩ s.toks))) { s with toks := s.toks + 1 }) := by
  refine .of_wp fun prog w A R s h => ?_
  show wpAny _ _ (Bytes.bytesLike _ (.bytes l.toArray t) >>= fun r => _) _ _ s
  refine wpAny_bind (wpAny_of_eq KBd.like_eq ?_)
  refine wpAny_bind (wpAny_of_eq KBd.held_eq ?_)
  show wpAny _ _ (_codecs.decodeRoad _ l.toArray (PySem.Str.ofString "ascii") none [] >>= fun v => _) _ _ s
  rw [road_ascii, run_ascii _ _ hl hz]
  refine wpAny_bind (wpAny_bind (wpAny_pure ?_))
  exact wpAny_mkStr (wpAny_pure ⟨_, rfl, h⟩) (by show (l.map UInt8.toNat).toArray.size ≤ sizeLine; rw [sizeLine_eq]; simp; omega)
open Builtin in
theorem entry_ascii {c : UInt8} {cs : List UInt8} {t u : Tok} : «bytes.decode» ⟨[.bytes (c :: cs).toArray t, .str (PySem.Str.ofString "ascii") u], []⟩ = (mkStr (PySem.Str.ofString "utf-8") >>= fun _ => mkStr (PySem.Str.ofString "ascii") >>= fun e => mkStr (PySem.Str.ofString "bytes.decode") >>= fun d =>
    call (.builtin "_codecs.decode.text") [.bytes (c :: cs).toArray t, e, .none, d] >>= fun v => ret v) := by kernel_rfl
theorem args_decode_2 (a b : Value) : argsOk "bytes.decode" ⟨[a, b], []⟩ := by
  unfold argsOk; rw [signature?_of (id := "bytes.decode") (n := ['e', 'd', 'o', 'c', 'e', 'd']) (o := ['s', 'e', 't', 'y', 'b']) (by kernel_rfl) FB.owner_bytes]; kernel_rfl
section
variable {w : World} {A : Around} {E : Value → Shared → Prop} {h : Heap} {g : Array GenState} {d : Drawn} {t : Nat} {os : OsState}
theorem zDecode {l : List UInt8} {u v : Tok} {Q : Value → Shared → Prop} (hne : l ≠ []) (hl : ∀ x ∈ l, x.toNat < 128) (hz : l.length ≤ 1000) (hq : ∀ u' t', Q (.str ⟨(l.map UInt8.toNat).toArray⟩ u') ⟨h, g, d, t', os⟩) :
    wpAny (model PG w) A (call (.builtin "bytes.decode") [.bytes l.toArray u, .str "ascii" v]) Q E ⟨h, g, d, t, os⟩ := by
  cases l with
  | nil => exact absurd rfl hne
  | cons c cs =>
    refine call_meets (s := ⟨h, g, d, t, os⟩) FB.slot_bytes_decode (typeIs_bytes _ _ _) FB.entry_bytes_decode (args_decode_2 _ _) (S := fun _ R s => ∀ u' t', R (.ok (.ret (.str ⟨((c :: cs).map UInt8.toNat).toArray⟩ u'))) { s with toks := t' }) ?_ hq
    refine .of_wp fun prog w A R s hS => ?_
    show wpAny _ _ (Builtin.«bytes.decode» ⟨[.bytes (c :: cs).toArray u, .str (PySem.Str.ofString "ascii") v], []⟩) _ _ s
    rw [entry_ascii]
    refine wpAny_bind (wpAny_mkStr ?_ (by decide))
    refine wpAny_bind (wpAny_mkStr ?_ (by decide))
    refine wpAny_bind (wpAny_mkStr ?_ (by decide))
    exact wpAny_bind (call_function_meets KBd.kind_text KBd.plain_text KBd.entry_text (KBd.args_text _ _ _ _) (text_ascii hl hz) (wpAny_pure ⟨_, rfl, hS _ _⟩))
theorem zMethD {b : List UInt8} {u : Tok} {pl : Sem Bool} {Q : Value × List Value → Shared → Prop} (hq : Q (.builtin "bytes.decode", [.bytes b.toArray u]) ⟨h, g, d, t, os⟩) : wpAny (model PG w) A (getMethod (.bytes b.toArray u) "decode" pl) Q E ⟨h, g, d, t, os⟩ := KBd.method hq
end

section
variable {w : World} {A : Around} {E : Value → Shared → Prop} {B h : Heap} {g : Array GenState} {d : Drawn} {t : Nat} {os : OsState} {L : Addr} {K : List Str} {vs : List (Option Value)} {news : List (Addr × Obj)} {a b : Int} {u u' : Tok} {Q : Value → Shared → Prop}
theorem zModI (hb : b ≠ 0) (hb0 : 0 ≤ b) (hq : ∀ u₁ t', Q (.int (a % b) u₁) ⟨h, g, d, t', os⟩) : wpAny (model PG w) A (binaryOp .Mod (.int a u) (.int b u')) Q E ⟨h, g, d, t, os⟩ :=
  PyProof.Rows.mod_int (s := ⟨h, g, d, t, os⟩) hb (by rw [Int.fmod_eq_emod_of_nonneg _ hb0]; exact hq _ _)
theorem zEqI (hq : Q (.bool (decide (a = b))) ⟨h, g, d, t, os⟩) : wpAny (model PG w) A (compareOp .Eq (.int a u) (.int b u')) Q E ⟨h, g, d, t, os⟩ :=
  PyProof.Rows.eq_int (s := ⟨h, g, d, t, os⟩) (by rw [show (a == b) = decide (a = b) from rfl]; exact hq)
theorem zSum {l : Addr} {us : List Value} {ns : List Int} (hh : A.handled = none) (W : Wd B L K vs news h) (hl : h.IsList l us.toArray) (hi : IntsAre us ns)
    (hq : ∀ h' t' u', Wd B L K vs news h' → Q (.int ns.sum u') ⟨h', g, d, t', os⟩) : wpAny (model PG w) A (call (.builtin "sum") [.ref l]) Q E ⟨h, g, d, t, os⟩ := by
  obtain ⟨m, F, hm⟩ := W.fr
  exact LSm.sum_ints (s := ⟨h, g, d, t, os⟩) F W.nw hh hl hi fun h' tk t' F' N' => hq h' tk t' ⟨⟨m, F', hm⟩, N', W.nd, W.kn⟩
theorem zByte1 {l : Addr} {i : Int} {n : Nat} {tk : Tok} (hh : A.handled = none) (hi : i = n) (hn : n < 256) (hl : h.IsList l [Value.int i tk].toArray) (hq : ∀ h' t' u', Kp h h' → Q (.bytes [UInt8.ofNat n].toArray u') ⟨h', g, d, t', os⟩) :
    wpAny (model PG w) A (call (.type "bytes") [.ref l]) Q E ⟨h, g, d, t, os⟩ := by
  refine call_bytes_ints (s := ⟨h, g, d, t, os⟩) (ns := [i]) hl (IntsAre.cons i _ IntsAre.nil) (fun m hm => by rw [List.mem_singleton] at hm; omega) (by show 1 ≤ sizeLine; rw [sizeLine_eq]; decide) hh fun h' t' k hk => ?_
  have e : byteArr [i] = [UInt8.ofNat n].toArray := by unfold byteArr; rw [hi]; rfl
  rw [e]
  exact hq _ _ _ hk
end
abbrev LK : List Str := ["script", "numbers", "odd", "steps", "way", "tape", "turned", "straight", "back_straight", "ups", "names", "back", "records", "due", "one", "two", "told"]
noncomputable def lawSt (w : World) (i : Nat) : Stmt := (bodyOf (fdOf w 158)).getD i (.Pass default)
theorem law_body (w : World) : bodyOf (fdOf w 158) = [lawSt w 0, lawSt w 1, lawSt w 2, lawSt w 3, lawSt w 4, lawSt w 5, lawSt w 6, lawSt w 7, lawSt w 8, lawSt w 9, lawSt w 10, lawSt w 11, lawSt w 12] := by kernel_rfl!
theorem exec_is {M : Model} {A : Around} {E : Value → Shared → Prop} {s : Shared} {env : Env} {l l' : Stmt} {Q : Flow → Shared → Prop} (e : l = l') (h : wpAny M A (exec l' env) Q E s) : wpAny M A (exec l env) Q E s := by rw [e]; exact h
section
variable {w : World} {mg mb : Str → Option Value} {A : Around} {E : Value → Shared → Prop} {B h : Heap} {g : Array GenState} {d : Drawn} {t : Nat} {os : OsState} {L : Addr} {Q : Flow → Shared → Prop}
theorem law_0 {S : Addr} {us : List Value} {ns : List Int} (tp : Tp w mg mb B) (hh : A.handled = none) (W : Wd B L LK [some (.ref S), none, none, none, none, none, none, none, none, none, none, none, none, none, none, none, none] [] h)
    (hS : B.IsList S us.toArray) (hi : IntsAre us ns) (hz : ns.length ≤ 63)
    (hq : ∀ h' t' N ms, Wd B L LK [some (.ref S), some (.ref N), some (.bool (decide ((ns.take 8).sum % 2 = 1))), none, none, none, none, none, none, none, none, none, none, none, none, none, none] [(N, lst ms)] h' → IntsAre ms (ns.take 8 ++ tailL) → Q .next ⟨h', g, d, t', os⟩) :
    wpAny (model PG w) A (exec (lawSt w 0) (fe w 158 L)) Q E ⟨h, g, d, t, os⟩ := by
  conv => arg 3; arg 1; whnf
  have hul := hi.length
  refine zSwap (names := ["numbers", "odd"]) ?_ (by kernel_rfl!) (by kernel_rfl!)
  repeat none_booked
  refine zCut W ((Ks.of_kp W.keep).list hS) IsPart.none (IsPart.int _ _) IsPart.none (by simp) (by omega) (slicePick_upto' _ 8) (fun D₁ h₁ W1 => ?_) rfl (fun _ => rfl)
  clear W
  repeat none_booked
  rename Wd _ _ _ _ (_ :: (D₁, _) :: _) _ => W2
  refine zAddL W2 (W2.lst (us := us.toArray.toList.take 8) (n := 0) (.tail _ (.head _))) (W2.lst (us := [Value.int 0 _, Value.int 1 _, Value.int 2 _, Value.int 2 _, Value.int 4 _, Value.int 2 _, Value.int 5 _, Value.int 3 _, Value.int 10 _, Value.int 12 _, Value.int 11 _]) (n := 0) (.head _)) (by simp; omega) fun N h₂ W3 => ?_
  clear W1 W2
  repeat none_booked
  refine zCut W3 ((Ks.of_kp W3.keep).list hS) IsPart.none (IsPart.int _ _) IsPart.none (by simp) (by omega) (slicePick_upto' _ 8) (fun D₂ h₃ W4 => ?_) rfl (fun _ => rfl)
  clear W3
  repeat none_booked
  have hit : IntsAre (us.toArray.toList.take 8) (ns.take 8) := hi.take 8
  refine zSum hh W4 (W4.lst (.head _)) hit fun h₄ t₄ u₄ W5 => ?_
  clear W4
  repeat none_booked
  refine zModI (by decide) (by decide) fun _ _ => ?_
  repeat none_booked
  refine zEqI ?_
  repeat none_booked
  rename Wd _ _ _ _ (_ :: (D₂, _) :: _) _ => W6
  refine zUnpT hh (W6.tup (.head _)) (by rfl) fun h₇ kp₇ => ?_
  replace W6 := W6.kp kp₇
  clear W5
  refine zBio ?_
  repeat none_booked
  refine zBio ?_
  repeat none_booked
  refine zBio0 ?_
  rename Wd _ _ _ (_ :: some _ :: some _ :: _) _ _ => W7
  refine hq _ _ N _ (W7.sub (.cons _ (.cons _ (.cons_cons _ (List.nil_sublist _))))) (hit.append ?_)
  repeat first | exact IntsAre.nil | apply IntsAre.cons
end

section
variable {prog : Program} {w : World} {A : Around} {R : Result → Shared → Prop} {s : Shared}
/-- one turn of the last clause, where the iterator keeps its pair -/
theorem comp_lastE {elt : Expr} {gens : List Comprehension} {g : Comprehension} {scope : Scope} {pos : Pos} {depth : Nat} {it acc : Value} {env : Env} (I : Nat → Shared → Prop) (hg : gens[depth]? = some g) (ha : g.is_async = 0) (hl : gens[depth + 1]? = none)
    (turn : ∀ n s, I n s → wpAny (model prog w) A (pyNext it) (fun r s₁ => match r with
      | none => R (.ok .next) s₁
      | some v => wpAny (model prog w) A (letOwnedTupleGo g.target it v) (fun _ s₁' => wpAny (model prog w) A (assign g.target env v) (fun _ s₂ => CompTests prog w A g.ifs env (fun ok s₃ => if ok = true then wpAny (model prog w) A (eval elt env) (fun x s₄ =>
          wpAny (model prog w) A (call (.builtin "list.append") [acc, x]) (fun _ s₅ => ∃ m, m < n ∧ I m s₅) (fun _ _ => False) s₄) (fun _ _ => False) s₃ else ∃ m, m < n ∧ I m s₃) (fun _ _ => False) s₂) (fun _ _ => False) s₁') (fun _ _ => False) s₁) (fun _ _ => False) s)
    (n : Nat) (h : I n s) :
    codeAny (model prog w) A (.compLoop (.ListComp elt gens scope pos) depth it acc env) R s := by
  refine codeAny_loop rfl I (fun n s hI => ?_) n h
  show wpAny _ _ ((compTurn (.ListComp elt gens scope pos) depth it acc env).onRaise (fun x => do noteFrame x env; theTreesLotGoes x)) _ _ s
  refine wpAny_noted ?_
  unfold compTurn
  dsimp only
  rw [hg]
  dsimp only
  rw [ha]
  refine wpAny_bind (wpAny_standAt ?_)
  rw [if_neg (by decide), hl]
  refine wpAny_bind (wpAny_mono (turn n s hI) (fun r s₁ h₁ => ?_) fun _ _ x => x.elim)
  cases r with
  | none => exact wpAny_pure h₁
  | some v =>
    refine wpAny_bind (wpAny_mono h₁ (fun _ s₁' h₁ => ?_) fun _ _ x => x.elim)
    refine wpAny_bind (wpAny_mono h₁ (fun _ s₂ h₂ => ?_) fun _ _ x => x.elim)
    refine wpAny_bind (wpAny_mono h₂ (fun ok s₃ h₃ => ?_) fun _ _ x => x.elim)
    cases ok with
    | true =>
      rw [if_pos rfl] at h₃ ⊢
      refine wpAny_bind (wpAny_bind (wpAny_mono h₃ (fun x s₄ h₄ => ?_) fun _ _ x => x.elim))
      exact wpAny_bind (wpAny_mono h₄ (fun _ s₅ h₅ => wpAny_pure (wpAny_pure ⟨rfl, h₅⟩)) fun _ _ x => x.elim)
    | false =>
      rw [if_neg (by decide)] at h₃ ⊢
      exact wpAny_pure ⟨rfl, h₃⟩
end
theorem Wd.redo {B h h' : Heap} {L : Addr} {K : List Str} {vs : List (Option Value)} {news news' : List (Addr × Obj)} {S : List Addr} (W : Wd B L K vs news h) (hk : ∀ b o, b ∉ S → h.get? b = some o → h'.get? b = some o) (hS : ∀ a ∈ S, a ∈ news.map (·.1))
    (ha : news'.map (·.1) = news.map (·.1)) (hn : ∀ p ∈ news', h'.get? p.1 = some p.2) : Wd B L K vs news' h' := by
  obtain ⟨m, F, hm⟩ := W.fr
  have apart : ∀ a ∈ S, a ≠ L ∧ B.get? a = none := fun a h1 => by
    obtain ⟨p, hp, e⟩ := List.mem_map.mp (hS a h1)
    have := (W.nw p hp).2
    rw [e] at this; exact this
  obtain ⟨oL, es, ep, hL, r⟩ := F.ns
  refine ⟨⟨m, ⟨⟨oL, es, ep, hk _ _ (fun q => (apart _ q).1 rfl) hL, r⟩, fun b x e => hk b x (fun q => ?_) (F.keep b x e), F.above⟩, hm⟩, fun p hp => ⟨hn p hp, ?_⟩, ha ▸ W.nd, W.kn⟩
  · rw [(apart _ q).2] at e; cases e
  · have : p.1 ∈ news.map (·.1) := ha ▸ List.mem_map_of_mem hp
    obtain ⟨p0, h0, e0⟩ := List.mem_map.mp this
    have z := (W.nw p0 h0).2
    rw [e0] at z; exact z
theorem stepsL_get : ∀ {l : List Int} {k i : Nat} {x : Int}, l[i]? = some x → (stepsL k l)[i]? = some (stepL (k + i) x)
  | [], _, _, _, h => by simp at h
  | y :: l, k, 0, x, h => by
    simp only [List.getElem?_cons_zero, Option.some.injEq] at h
    subst h; rfl
  | y :: l, k, i + 1, x, h => by
    simp only [List.getElem?_cons_succ] at h
    show (stepsL (k + 1) l)[i]? = _
    rw [stepsL_get h, show k + 1 + i = k + (i + 1) by omega]
abbrev enumObj (it : Addr) (i : Int) (old : Value) : Obj := { cls := .type "enumerate", data := .fields #[.none, .bool false, .ref it, rawInt i, .none, old] }
/-- a list comprehension that is stored at once -/
theorem zCompAs {w : World} {A : Around} {E : Value → Shared → Prop} {B₀ h₀ : Heap} {t₀ : Nat} {g : Array GenState} {d : Drawn} {os : OsState} {elt target iter : Expr} {ifs : List Expr} {rest : List Comprehension} {scope scope₀ : Scope} {pos spos py : Pos} {L a : Addr} {name : Str} {cd : Value} {cl : List (Str × Addr)} {y : Str} {Q : Flow → Shared → Prop}
    {K₀ : List Str} {vs₀ : List (Option Value)} {news₀ : List (Addr × Obj)} (K : List Str) (vs : List (Option Value)) (vs₁ : Addr → List (Option Value)) (W₀ : Wd B₀ L K₀ vs₀ news₀ h₀) (hp : ∀ D, Put K₀ vs₀ y (.ref D) (vs₁ D))
    (hsw : swapsWith (.ListComp elt (⟨target, iter, ifs, 0⟩ :: rest) scope pos) (some (.Name y py)) spos.line (envOf name scope₀ L a cd) = pure true)
    (hK : K.Nodup) (hvs : ∀ x v, ¬ Loc K vs x v) (hs : ∀ x, foldedSetIterable iter (envOf name scope₀ L a cd) x = pure x) (hclos : closureFor scope (envOf name scope₀ L a cd) = pure cl) (hcell : ∀ y ∈ scope.names, y.2 ≠ .cell)
    (hkind : scope.kind = .function) (hnames : ∀ x ∈ scope.names, x.2 = .local → scope.names.lookup x.1 = some .local) (hk₀ : scope₀.kind = .function) (hy : (envOf name scope₀ L a cd).kindOf y = some .local)
    (h : wpAny (model PG w) A (eval iter (envOf name scope₀ L a cd)) (fun x s₁ => wpAny (model PG w) A (pyIter x) (fun it s₂ => ∃ h₂ t₂ news₂, s₂ = ⟨h₂, g, d, t₂, os⟩ ∧ Kp h₀ h₂ ∧ h₀.objs.size ≤ h₂.objs.size ∧ (∀ p ∈ news₂, h₂.get? p.1 = some p.2 ∧ h₀.get? p.1 = none) ∧ (news₂.map (·.1)).Nodup ∧
      ∀ C D h₃ t₃, Wd h₀ C K vs ((D, lst []) :: news₂) h₃ → codeAny (model PG w) A (.compStart (.ListComp elt (⟨target, iter, ifs, 0⟩ :: rest) scope pos) 0 it (.ref D) (compEnvC scope cl C (envOf name scope₀ L a cd))) (fun r s' => match r with
        | .ok _ => ∃ h' t' vs' zs k more, s' = ⟨h', g, d, t', os⟩ ∧ Wd h₀ C K vs' ((D, lst zs k) :: more) h' ∧ ∀ h'' t'', Wd B₀ L K₀ (vs₁ D) ((D, lst zs k) :: news₀) h'' → Q .next ⟨h'', g, d, t'', os⟩
        | .error _ => False) ⟨h₃, g, d, t₃, os⟩) E s₁) E ⟨h₀, g, d, t₀, os⟩) :
    wpAny (model PG w) A (exec (.Assign [.Name y py] (.ListComp elt (⟨target, iter, ifs, 0⟩ :: rest) scope pos) spos) (envOf name scope₀ L a cd)) Q E ⟨h₀, g, d, t₀, os⟩ := by
  rw [exec_Assign_Name_used _ _ _ _ hsw]
  refine wpAny_bind (wpAny_standAt (wpAny_bind ?_))
  show wpAny _ A (do let _ ← comprehension (.ListComp elt (⟨target, iter, ifs, 0⟩ :: rest) scope pos) scope (envOf name scope₀ L a cd) _ (newList []) false (eval iter (envOf name scope₀ L a cd)) (some (assign (.Name y py) (envOf name scope₀ L a cd)))) _ _ _
  refine wpAny_bind (wpAny_mono (wpAny_comprehension_free (use := some (assign (.Name y py) (envOf name scope₀ L a cd))) (Q := fun _ s' => Q .next s') rfl hs hclos hkind hnames
    (wpAny_mono h (fun xv s₁ h₁ => wpAny_mono h₁ (fun it s₂ h₂ => ?_) fun _ _ e => e) fun _ _ e => e)) (fun _ s' hq => wpAny_pure (wpAny_pure hq)) fun _ _ e => e)
  obtain ⟨h₂, t₂, news₂, rfl, kB, szB, nw, nd, hwalk⟩ := h₂
  refine wpAny_newObj_type ?_ (Nat.zero_le _)
  refine wpAny_newFunctionEnv hcell (by intro y hy; simp at hy) (fun h₃ hns hsb => ?_) hkind
  generalize hH : h₂.push { cls := Value.type "list", dict := none, data := .seq ([] : List Value).toArray } = H at hns hsb ⊢
  have hsz : H.objs.size = h₂.objs.size + 1 := by rw [← hH, Heap.size_push]
  have old : ∀ b o, H.get? b = some o → h₃.get? b = some o := fun b o e => hsb.extBut b o (Nat.ne_of_lt (Heap.lt_size e)) (Heap.get?_push_of_some _ e)
  have old₂ : ∀ b o, h₂.get? b = some o → h₃.get? b = some o := fun b o e => old b o (hH ▸ Heap.get?_push_of_some _ e)
  have hD : h₃.get? h₂.objs.size = some (lst []) := old _ _ (hH ▸ Heap.get?_push_size _ rfl)
  have W : Wd h₀ H.objs.size K vs ((h₂.objs.size, lst []) :: news₂) h₃ := by
    refine ⟨⟨_, ⟨hns, fun b o e => old₂ b o (kB b o e), by omega⟩, fun x v l => absurd l (hvs x v)⟩, fun p hp => ?_, ?_, hK⟩
    · rcases List.mem_cons.mp hp with rfl | hp
      · exact ⟨hD, by show h₂.objs.size ≠ H.objs.size; omega, Heap.get?_none_of_le szB⟩
      · have z := nw p hp
        refine ⟨old₂ _ _ z.1, fun e => ?_, z.2⟩
        have q := Heap.lt_size z.1
        rw [e, hsz] at q
        exact absurd q (Nat.not_lt.mpr (Nat.le_succ _))
    · rw [List.map_cons, List.nodup_cons]
      refine ⟨fun hm => ?_, nd⟩
      obtain ⟨p, hp, e⟩ := List.mem_map.mp hm
      have := Heap.lt_size (nw p hp).1
      rw [e] at this
      exact absurd this (Nat.lt_irrefl _)
  refine codeAny_mono (hwalk H.objs.size h₂.objs.size h₃ _ W) fun r s' hr => ?_
  cases r with
  | error e => exact hr.elim
  | ok f =>
    obtain ⟨h', t', vs', zs, k, more, rfl, W', hq⟩ := hr
    obtain ⟨m, F, _⟩ := W'.fr
    obtain ⟨oC, es, ep, hC, r⟩ := F.ns
    obtain ⟨n1, n2, n3⟩ := W₀.fresh (W'.nw _ (.head _)).2.2
    obtain ⟨c1, c2, c3⟩ := W₀.fresh W'.noL
    have W1 := (W₀.kp W'.keep).put n1 n2 n3 (W'.get (.head _))
    have W2 := W1.put (a := H.objs.size) (by rw [List.map_cons, List.mem_cons, not_or]; exact ⟨fun e => (W'.nw _ (.head _)).2.1 e.symm, c1⟩) c2 c3 hC
    show wpAny _ A (assign (.Name y py) (envOf name scope₀ L a cd) (.ref h₂.objs.size)) _ _ _
    refine zAsN (zSt W2 (hp _) (fun h₄ t₄ W4 => ?_) hk₀ hy)
    refine ⟨m, ⟨oC, es, ep, W4.get (.head _), r⟩, fun h₅ hs₅ => ?_⟩
    exact hq h₅ _ (W4.extBut hs₅.extBut)
--MACRO
local macro_rules | `(tactic| none_booked) => `(tactic| ((with_reducible show wpAny _ _ (eval (PySem.Expr.Name _ _) (compEnvC _ _ _ _)) _ _ _); first
  | refine zLdE (by assumption) (by repeat (with_reducible first | apply Loc.head | apply Loc.tail)) ?_ (by kernel_rfl!) (by kernel_rfl!) (by decide +kernel)
  | refine zBE (by assumption) (by assumption) (by with_reducible first | apply b_len | apply b_bytes | apply b_range | apply b_sorted | apply b_enumerate) ?_ (by kernel_rfl!) (by kernel_rfl!) (by kernel_rfl!) (by kernel_rfl!)
  | refine zGE (by assumption) (by assumption) (by with_reducible first | apply g_law_only | apply g_normpath) ?_ (by kernel_rfl!) (by kernel_rfl!) (by kernel_rfl!)))
--END
theorem zItemEx {w : World} {A : Around} {E : Value → Shared → Prop} {h : Heap} {g : Array GenState} {d : Drawn} {t : Nat} {os : OsState} {Q : Value → Shared → Prop} {D : Addr} {us : List Value} {P : Value → Prop} {value slice : Expr} {i : Int} {u : Tok} (hl : h.IsList D us.toArray) (h0 : 0 ≤ i) (hz : i < 2 ^ 63) (hx : ∃ q, us[i.toNat]? = some q ∧ P q) (hq : ∀ q, P q → Q q ⟨h, g, d, t, os⟩)
    (hs : subscripted slice false (.ref D) (.int i u) = operate [.ref D, .int i u] (getItem (.ref D) (.int i u))) : wpAny (model PG w) A (subscriptTail value slice (.ref D) (.int i u)) Q E ⟨h, g, d, t, os⟩ := by
  obtain ⟨q, h1, h2⟩ := hx
  exact zItem hl h0 hz h1 (hq q h2) hs
section
variable {w : World} {mg mb : Str → Option Value} {A : Around} {E : Value → Shared → Prop} {B h : Heap} {g : Array GenState} {d : Drawn} {t : Nat} {os : OsState} {L : Addr} {Q : Flow → Shared → Prop}
theorem law_1 {S N : Addr} {ms : List Value} {ns : List Int} {ov : Value} (tp : Tp w mg mb B) (hh : A.handled = none) (W : Wd B L LK [some (.ref S), some (.ref N), some ov, none, none, none, none, none, none, none, none, none, none, none, none, none, none] [(N, lst ms)] h)
    (hi : IntsAre ms ns) (hz : ns.length ≤ 63)
    (hq : ∀ h' t' D zs k, Wd B L LK [some (.ref S), some (.ref N), some ov, some (.ref D), none, none, none, none, none, none, none, none, none, none, none, none, none] [(D, lst zs k), (N, lst ms)] h' → BsAre zs (stepsL 0 ns) → Q .next ⟨h', g, d, t', os⟩) :
    wpAny (model PG w) A (exec (lawSt w 1) (fe w 158 L)) Q E ⟨h, g, d, t, os⟩ := by
  conv => arg 3; arg 1; whnf
  have hml := hi.length
  have tp₁ : Tp w mg mb h := tp.keeps W.keep
  refine zCompAs ["place", "x"] [none, none] (fun D => [some (.ref S), some (.ref N), some ov, some (.ref D), none, none, none, none, none, none, none, none, none, none, none, none, none]) W (fun D => .tail (.tail (.tail .head))) (by kernel_rfl!) (by decide +kernel) (fun x v l => by cases l with | tail l => cases l with | tail l => cases l) (by intro _; rfl) (cl := []) (by kernel_rfl!) (by decide +kernel) (by kernel_rfl!) (by decide +kernel) (by kernel_rfl!) (by kernel_rfl!) ?_
  repeat none_booked
  refine call_enumerate_1 (s := ⟨h, g, d, t, os⟩) (W.get (.head _)) fun h₁ he hit hsz kp => ?_
  refine wpAny_pyIter_enum he ?_
  obtain ⟨ito, ho, hc, hd⟩ := hit
  have hsz : h₁.objs.size = h.objs.size + 2 := hsz
  refine ⟨h₁, t, [(h.objs.size + 1, enumObj h.objs.size 0 .none), (h.objs.size, ito)], rfl, kp, by rw [hsz]; omega, ?_, by simp, ?_⟩
  · intro p hp
    simp only [List.mem_cons, List.not_mem_nil, or_false] at hp
    rcases hp with rfl | rfl
    · exact ⟨he, Heap.get?_none_of_le (Nat.le_succ _)⟩
    · exact ⟨ho, Heap.get?_none_of_le (Nat.le_refl _)⟩
  intro C D h₃ t₃ W3
  have hN : h.get? N = some (lst ms) := W.get (.head _)
  have he3 : IsEnum h₃ (h.objs.size + 1) h.objs.size 0 .none := W3.get (.tail _ (.head _))
  refine comp_start rfl rfl ?_ (fun Q hq => wpAny_pyIter_enum he3 hq)
  refine comp_lastE (fun n s => ∃ (i : Nat) (pv xv : Option Value) (zs : List Value) (k : Nat) (old : Value) (ito : Obj) (h' : Heap) (t' : Nat), n + i = ns.length ∧ s = ⟨h', g, d, t', os⟩ ∧ Wd h C ["place", "x"] [pv, xv] [(D, lst zs k), (h.objs.size + 1, enumObj h.objs.size (i : Int) old), (h.objs.size, ito)] h' ∧ ito.cls = .type "list_iterator" ∧ ito.data = .fields #[.ref N, .int i 0] ∧ BsAre zs ((stepsL 0 ns).take i))
    rfl rfl rfl ?_ ns.length ⟨0, none, none, [], 0, .none, ito, h₃, t₃, rfl, rfl, W3, hc, hd, BsAre.nil⟩
  clear he3 W3 hc hd ho he
  rintro n s ⟨i, pv, xv, zs, k, old, ito, h₄, t₄, hni, rfl, W4, hc, hd, hzs⟩
  have he : IsEnum h₄ (h.objs.size + 1) h.objs.size (i : Int) old := W4.get (.tail _ (.head _))
  have hit : h₄.IsListIter h.objs.size N i := ⟨ito, W4.get (.tail _ (.tail _ (.head _))), hc, hd⟩
  have hl : h₄.IsList N ms.toArray := (Ks.of_kp W4.keep).list ⟨_, hN, rfl, _, rfl⟩
  cases hx : ms[i]? with
  | none =>
    refine wpAny_pyNext_enum_end (s := ⟨h₄, g, d, t₄, os⟩) hh he hit hl (by simpa using hx) fun h₅ hb => ?_
    dsimp only
    have hi' : ms.length ≤ i := by simpa using hx
    rw [List.take_of_length_le (by rw [stepsL_length]; omega)] at hzs
    have W5 := (Wd.front (pre := [_, _]) W4).extBut hb
    exact ⟨h₅, _, _, zs, k, _, rfl, W5, fun h'' t'' W6 => hq _ _ D zs k W6 hzs⟩
  | some v =>
    obtain ⟨x, tx, rfl, hnx⟩ := hi.at i v hx
    have hil : i < ns.length := (List.getElem?_eq_some_iff.mp hnx).1
    refine wpAny_pyNext_enum_item (s := ⟨h₄, g, d, t₄, os⟩) he hit hl (by simpa using hx) (Nat.succ_ne_self _) fun h₅ heo hit₅ ht₅ hz₅ hk₅ => ?_
    obtain ⟨ito₅, ho₅, hc₅, hd₅⟩ := hit₅
    obtain ⟨f1, f2, f3⟩ := W4.fresh (none_size h₄)
    have W5 : Wd h C ["place", "x"] [pv, xv] [(D, lst zs k), (h.objs.size + 1, { cls := .type "enumerate", dict := none, data := .fields #[rawInt h₄.objs.size, .bool false, .ref h.objs.size, rawInt ((i : Int) + 1), .none, .int x tx], slots := #[] }), (h.objs.size, ito₅)] h₅ := W4.redo (S := [h.objs.size + 1, h.objs.size]) (fun b o hb e => hk₅ b o (fun q => hb (by simp [q])) (fun q => hb (by simp [q])) e) (fun a ha => by simp at ha ⊢; rcases ha with rfl | rfl <;> simp) rfl (fun p hp => by
      simp only [List.mem_cons, List.not_mem_nil, or_false] at hp
      rcases hp with rfl | rfl | rfl
      · have nd := W4.nd
        simp only [List.map_cons, List.map_nil, List.nodup_cons, List.mem_cons, List.not_mem_nil, or_false, not_or] at nd
        exact hk₅ _ _ nd.1.1 nd.1.2 (W4.get (.head _))
      · exact heo
      · exact ho₅)
    have W6 := W5.put (a := h₄.objs.size) f1 f2 f3 ht₅
    clear W4 W5 he hit hl ho₅ ht₅ hk₅ f1 f2 f3
    dsimp only
    refine wpAny_letOwnedTupleGo_enum heo fun h₆ he₆ hs₆ => ?_
    have W7 := Wd.upd (pre := [_, _]) W6 hs₆ he₆
    clear W6 heo hs₆ he₆
    refine zAsgT hh (W7.tup (us := [_, _]) (.head _)) (by kernel_rfl!) (by kernel_rfl!) fun h₇ kp₇ => ?_
    replace W7 := W7.kp kp₇
    refine zAio ?_ (by kernel_rfl!)
    refine zStE W7 .head (fun h₈ t₈ W8 => ?_) (by kernel_rfl!) (by kernel_rfl!)
    clear W7
    refine zAio ?_ (by kernel_rfl!)
    refine zStE W8 (.tail .head) (fun h₉ t₉ W9 => ?_) (by kernel_rfl!) (by kernel_rfl!)
    clear W8
    refine zAio0 ?_
    unfold CompTests
    simp only [List.forIn_nil]
    refine wpAny_pure ?_
    rw [if_pos rfl]
    repeat none_booked
    rename Wd _ _ _ _ ((_, _) :: (_, _) :: (D, _) :: _) _ => Wa
    refine zByte1 (n := 97 + i) hh (by push_cast; rfl) (by omega) (Wa.lst (.head _)) fun h₁₀ t₁₀ u₁₀ kp₁₀ => ?_
    replace Wa := Wa.kp kp₁₀
    clear W9
    repeat none_booked
    rename Wd _ _ _ _ ((_, _) :: (_, _) :: (_, _) :: (D, _) :: _) _ => Wb
    refine zByte1 (n := 97 + i) hh (by push_cast; rfl) (by omega) (Wb.lst (.head _)) fun h₁₁ t₁₁ u₁₁ kp₁₁ => ?_
    replace Wb := Wb.kp kp₁₁
    clear Wa
    repeat none_booked
    refine zGtI ?_
    have key : ∀ (b4 : List UInt8), b4 = (if i > 0 then [] else [46]) → ∀ u0 u1 u2 u3 u4 : Tok, ∃ q, ([.bytes [UInt8.ofNat (97 + i)].toArray u0, .bytes [UInt8.ofNat (97 + i)].toArray u1, .bytes [46, 46].toArray u2, .bytes [46].toArray u3, .bytes b4.toArray u4] : List Value)[(x % 5).toNat]? = some q ∧ asB q = some (stepL i x) := by
      intro b4 hb4 u0 u1 u2 u3 u4
      subst hb4
      have h5 : x % 5 = 0 ∨ x % 5 = 1 ∨ x % 5 = 2 ∨ x % 5 = 3 ∨ x % 5 = 4 := by omega
      unfold stepL
      rcases h5 with e | e | e | e | e <;> rw [e] <;> exact ⟨_, rfl, rfl⟩
    have hnext : ∀ {zs' : List Value} {q : Value}, BsAre zs' ((stepsL 0 ns).take i) → asB q = some (stepL i x) → BsAre (zs' ++ [q]) ((stepsL 0 ns).take (i + 1)) := fun {zs' q} h1 h2 => by
      rw [List.take_add_one, stepsL_get hnx, Option.toList_some, Nat.zero_add]
      obtain ⟨tq, rfl⟩ := of_asB h2
      exact h1.append (BsAre.cons BsAre.nil)
    have hzl := hzs.length
    rw [List.length_take, stepsL_length] at hzl
    have ecast : ((i : Int) + 1) = ((i + 1 : Nat) : Int) := by push_cast; rfl
    by_cases hp0 : i > 0
    · rw [show decide ((0 : Int) < (i : Int)) = true from decide_eq_true (by omega)]
      repeat none_booked
      refine zModI (by decide) (by decide) fun _ _ => ?_
      repeat none_booked
      rename Wd _ _ _ _ ((_, _) :: (_, _) :: (_, _) :: (_, _) :: (D, _) :: _) _ => Wc
      refine zItemEx (P := fun q => asB q = some (stepL i x)) (Wc.lst (.head _)) (by omega) (by omega) (key [] (by rw [if_pos hp0]) _ _ _ _ _) (fun q hq2 => ?_) rfl
      refine zAppend (Wc.get (.tail _ (.tail _ (.tail _ (.tail _ (.head _)))))) (by omega) fun h₁₂ hs₁₂ ho₁₂ => ?_
      have Wd := (Wd.upd (pre := [_, _, _, _]) Wc hs₁₂ ho₁₂).sub (.cons _ (.cons _ (.cons _ (.cons _ (.refl _)))))
      rw [ecast] at Wd
      exact ⟨n - 1, by omega, i + 1, _, _, _, _, _, ito₅, h₁₂, _, by omega, rfl, Wd, hc₅, hd₅, hnext hzs hq2⟩
    · rw [show decide ((0 : Int) < (i : Int)) = false from decide_eq_false (by omega)]
      repeat none_booked
      refine zModI (by decide) (by decide) fun _ _ => ?_
      repeat none_booked
      rename Wd _ _ _ _ ((_, _) :: (_, _) :: (_, _) :: (_, _) :: (D, _) :: _) _ => Wc
      refine zItemEx (P := fun q => asB q = some (stepL i x)) (Wc.lst (.head _)) (by omega) (by omega) (key [46] (by rw [if_neg hp0]) _ _ _ _ _) (fun q hq2 => ?_) rfl
      refine zAppend (Wc.get (.tail _ (.tail _ (.tail _ (.tail _ (.head _)))))) (by omega) fun h₁₂ hs₁₂ ho₁₂ => ?_
      have Wd := (Wd.upd (pre := [_, _, _, _]) Wc hs₁₂ ho₁₂).sub (.cons _ (.cons _ (.cons _ (.cons _ (.refl _)))))
      rw [ecast] at Wd
      exact ⟨n - 1, by omega, i + 1, _, _, _, _, _, ito₅, h₁₂, _, by omega, rfl, Wd, hc₅, hd₅, hnext hzs hq2⟩
end

open Builtin KBy in
theorem meets_rev (b : Array UInt8) (t u : Tok) (a : Addr) :
    Meets («bytes.__getitem__» ⟨[.bytes b t, .ref a], []⟩) (fun _ R s => s.heap.IsSliceOf a .none .none (.int (-1) u) ∧ b.size ≤ sizeLine ∧ ∀ t' k, R (.ok (.ret (.bytes b.toList.reverse.toArray t'))) { s with toks := k }) := by
  refine .of_wp fun prog w A R s hS => ?_
  obtain ⟨⟨o, ho, hc, hd⟩, hsz, h⟩ := hS
  have hT : s.TypeIs (.ref a) "slice" := ⟨o, ho, hc⟩
  show wpAny _ _ (Bytes.payload (.bytes b t) >>= fun r => _) _ _ s
  refine wpAny_bind (wpAny_of_eq (a := b) rfl ?_)
  show wpAny _ _ (Bytes.subscript? (.ref a) >>= fun r => _) _ _ s
  refine wpAny_bind ?_
  unfold Bytes.subscript?
  refine wpAny_bind (wpAny_specialOf hT slice_no_index (wpAny_pure ?_))
  refine wpAny_bind (wpAny_typeOf hT ?_)
  show wpAny _ _ (Bytes.sliceParts (.ref a) >>= fun r => _) _ _ s
  refine wpAny_bind ?_
  unfold Bytes.sliceParts
  refine wpAny_bind (wpAny_field (x := .int (-1) u) ho hd rfl ?_)
  kby_int
  refine wpAny_ite (KBy.ite_no (show ¬ ((rawInt (-1) == rawInt 0) = true) from by decide) ?_)
  refine wpAny_bind (wpAny_field (x := .none) ho hd rfl ?_)
  kby_none
  refine wpAny_bind (wpAny_field (x := .none) ho hd rfl ?_)
  kby_none
  refine wpAny_pure ?_
  have go : wpAny (model prog w) A.in1 (sliceIndices (rawPart none) (rawPart none) (rawPart (some (-1))) b.size) (fun r s' => r = sliceBounds none none (some (-1)) b.size ∧ s' = s) (fun _ _ => False) s :=
    wpAny_of_eq (sliceIndices_raw none none (some (-1)) b.size (by simp)) ⟨rfl, rfl⟩
  refine wpAny_bind (wpAny_mono go (fun r s' hr => ?_) fun _ _ e => e.elim)
  obtain ⟨hr1, hr2⟩ := hr
  subst hr1 hr2
  rw [krv_bounds]
  refine wpAny_ite (KBy.ite_no ?_ ?_)
  · show ¬ (((b.size : Int) - 1 == 0 && (-1 : Int) == 1 && _ && _) = true)
    rw [show ((-1 : Int) == 1) = false from by decide, Bool.and_false, Bool.false_and, Bool.false_and]
    decide
  · have e : Bytes.sliced b ((b.size : Int) - 1) (-1) (-1) = b.toList.reverse.toArray := by
      unfold Bytes.sliced
      rw [krv_sliceRange, krv_range, List.filterMap_reverse, krv_all]
    show wpAny _ _ (mkBytes (Bytes.sliced b ((b.size : Int) - 1) (-1) (-1)) >>= _) _ _ _
    rw [e]
    exact wpAny_bind (wpAny_mkBytes (wpAny_pure ⟨_, rfl, h _ _⟩) (by simpa using hsz))
section
variable {w : World} {A : Around} {E : Value → Shared → Prop} {h : Heap} {g : Array GenState} {d : Drawn} {t : Nat} {os : OsState}
theorem zRevB {value slice : Expr} {a : List UInt8} {v u : Tok} {Q : Value → Shared → Prop} (hz : a.length < 1000000) (hq : ∀ h' t' k, Kp h h' → Q (.bytes a.reverse.toArray t') ⟨h', g, d, k, os⟩)
    (hs : subscripted slice false (.bytes a.toArray v) (.ref h.objs.size) = operate [.ref h.objs.size, .bytes a.toArray v] (getItem (.bytes a.toArray v) (.ref h.objs.size))) (ht : ∀ r, letTemporaryGo value (.bytes a.toArray v) r = pure ()) :
    wpAny (model PG w) A (subscriptTail value slice (.bytes a.toArray v) (.ref h.objs.size)) Q E ⟨h.push (slc .none .none (.int (-1) u)), g, d, t, os⟩ :=
  tail_of_ItemOn (s := ⟨h.push (slc .none .none (.int (-1) u)), g, d, t, os⟩) ⟨"bytes", _, FB.slot_bytes_getitem.lookup, typeIs_bytes _ _ _, getItem_meets (typeIs_bytes _ _ _) (by decide) FB.slot_bytes_getitem FB.entry_bytes_getitem (FB.args_bytes_getitem_2 _ _) (meets_rev a.toArray v u _)
      ⟨Heap.IsSliceOf.new _ _ _ _, by rw [sizeLine_eq]; simpa using sz6 hz, fun t' k => hq _ t' k (Kp.push h _)⟩⟩ hs ht
end
section
variable {w : World} {mg mb : Str → Option Value} {A : Around} {E : Value → Shared → Prop} {B h : Heap} {g : Array GenState} {d : Drawn} {t : Nat} {os : OsState} {L : Addr} {Q : Flow → Shared → Prop}
theorem law_2 {v0 v1 : Option Value} {D : Addr} {zs : List Value} {k : Nat} {st : List (List UInt8)} {odd : Bool} {news : List (Addr × Obj)} (W : Wd B L LK [v0, v1, some (.bool odd), some (.ref D), none, none, none, none, none, none, none, none, none, none, none, none, none] ((D, lst zs k) :: news) h)
    (hb : BsAre zs st) (hz : (st.map List.length).sum + st.length < 1000)
    (hq : ∀ h' t' u, Wd B L LK [v0, v1, some (.bool odd), some (.ref D), some (.bytes (wayL st odd).toArray u), none, none, none, none, none, none, none, none, none, none, none, none] ((D, lst zs k) :: news) h' → Q .next ⟨h', g, d, t', os⟩) :
    wpAny (model PG w) A (exec (lawSt w 2) (fe w 158 L)) Q E ⟨h, g, d, t, os⟩ := by
  conv => arg 3; arg 1; whnf
  have hjl := joinL_length (47 : UInt8) st
  repeat none_booked
  refine TKb.mJ (a := [47]) ?_
  repeat none_booked
  refine TKb.join (W.get (.head _)) hb (by omega) fun t' k' => ?_
  repeat none_booked
  cases odd with
  | true =>
    repeat none_booked
    refine TKb.add (a := joinL 47 st) (b := [47]) (by show (joinL 47 st).length + 1 < 1000000; omega) fun _ _ => ?_
    repeat none_booked
    rename Wd _ _ _ (_ :: _ :: _ :: _ :: some _ :: _) _ _ => W1
    exact hq _ _ _ W1
  | false =>
    repeat none_booked
    refine TKb.add (a := joinL 47 st) (b := []) (by show (joinL 47 st).length + 0 < 1000000; omega) fun _ _ => ?_
    repeat none_booked
    rename Wd _ _ _ (_ :: _ :: _ :: _ :: some _ :: _) _ _ => W1
    exact hq _ _ _ W1
theorem law_3 {v0 v1 v2 v3 : Option Value} {a : List UInt8} {u : Tok} {news : List (Addr × Obj)} (tp : Tp w mg mb B) (hh : A.handled = none) (hr : A.depth + 2 < recursionLimit) (W : Wd B L LK [v0, v1, v2, v3, some (.bytes a.toArray u), none, none, none, none, none, none, none, none, none, none, none, none] news h)
    (h0 : 0 < a.length) (hz : a.length ≤ 500)
    (hq : ∀ h' t' u', Wd B L LK [v0, v1, v2, v3, some (.bytes a.toArray u), some (.bytes (a.reverse ++ a).toArray u'), none, none, none, none, none, none, none, none, none, none, none] news h' → Q .next ⟨h', g, d, t', os⟩) :
    wpN (model PG w) A (exec (lawSt w 3) (fe w 158 L)) Q E ⟨h, g, d, t, os⟩ := by
  conv => arg 3; arg 1; whnf
  refine nAssign (nCall ?_ (by kernel_rfl!)) (by kernel_rfl!)
  repeat none_booked
  refine nCwF W tp (kf_byteswap w) ?_ (by kernel_rfl!) (by kernel_rfl!)
  repeat none_booked
  refine zRevB (by omega) (fun h₁ t₁ k₁ kp₁ => ?_) rfl (fun _ => rfl)
  replace W := W.kp kp₁
  repeat none_booked
  refine TKb.add (a := a) (b := a.reverse) (by rw [List.length_reverse]; omega) fun _ _ => ?_
  repeat none_booked
  refine zLenB (by omega) fun _ _ => ?_
  repeat none_booked
  refine byteswap_ab (a := a) (b := a.reverse) (tp.keeps W.keep) hr hh (by simp) h0 (by omega) fun h₂ k₂ u₂ kp₂ => ?_
  replace W := W.kp kp₂
  rw [List.reverse_reverse]
  repeat none_booked
  rename Wd _ _ _ (_ :: _ :: _ :: _ :: _ :: some _ :: _) _ _ => W1
  exact hq _ _ _ W1
theorem law_4 {v0 v1 v2 v3 : Option Value} {a b : List UInt8} {u u' : Tok} {news : List (Addr × Obj)} (tp : Tp w mg mb B) (W : Wd B L LK [v0, v1, v2, v3, some (.bytes a.toArray u), some (.bytes (b ++ a).toArray u'), none, none, none, none, none, none, none, none, none, none, none] news h)
    (hab : b.length = a.length) (hz : a.length ≤ 500)
    (hq : ∀ h' t' u₁, Wd B L LK [v0, v1, v2, v3, some (.bytes a.toArray u), some (.bytes (b ++ a).toArray u'), some (.bytes b.toArray u₁), none, none, none, none, none, none, none, none, none, none] news h' → Q .next ⟨h', g, d, t', os⟩) :
    wpAny (model PG w) A (exec (lawSt w 4) (fe w 158 L)) Q E ⟨h, g, d, t, os⟩ := by
  conv => arg 3; arg 1; whnf
  repeat none_booked
  refine zLenB (by omega) fun _ _ => ?_
  repeat none_booked
  refine TKb.cut (a := b ++ a) IsPart.none (IsPart.int _ _) (by rw [List.length_append]; omega) (fun h₁ t₁ k₁ kp₁ => ?_) rfl (fun _ => rfl)
  replace W := W.kp kp₁
  have e : cutL (b ++ a) none (some (a.length : Int)) = b := by rw [cut_hi, ← hab, List.take_left']; rfl
  rw [e]
  repeat none_booked
  rename Wd _ _ _ (_ :: _ :: _ :: _ :: _ :: _ :: some _ :: _) _ _ => W1
  exact hq _ _ _ W1
end

section
variable {w : World} {mg mb : Str → Option Value} {A : Around} {E : Value → Shared → Prop} {B h : Heap} {g : Array GenState} {d : Drawn} {t : Nat} {os : OsState} {L : Addr} {Q : Flow → Shared → Prop}
theorem law_5 {v0 v1 v2 v3 v5 : Option Value} {a b : List UInt8} {u u' : Tok} {news : List (Addr × Obj)} (tp : Tp w mg mb B) (hh : A.handled = none) (hr : A.depth + 3 < recursionLimit) (W : Wd B L LK [v0, v1, v2, v3, some (.bytes a.toArray u), v5, some (.bytes b.toArray u'), none, none, none, none, none, none, none, none, none, none] news h)
    (hz : a.length < 500) (hz' : b.length < 500) (hne : a ≠ []) (hne' : b ≠ []) (hns : a.take 1 = [47] → (a.drop 1).take 1 ≠ [47]) (hns' : b.take 1 = [47] → (b.drop 1).take 1 ≠ [47])
    (hq : ∀ h' t' u₁ u₂, Wd B L LK [v0, v1, v2, v3, some (.bytes a.toArray u), v5, some (.bytes b.toArray u'), some (.bytes (normL 47 46 a).toArray u₁), some (.bytes (normL 47 46 b).toArray u₂), none, none, none, none, none, none, none, none] news h' → Q .next ⟨h', g, d, t', os⟩) :
    wpAny (model PG w) A (exec (lawSt w 5) (fe w 158 L)) Q E ⟨h, g, d, t, os⟩ := by
  conv => arg 3; arg 1; whnf
  refine zSwap (names := ["straight", "back_straight"]) ?_ (by kernel_rfl!) (by kernel_rfl!)
  repeat none_booked
  refine normpath_b (tp.keeps W.keep) hh hr hz hne hns fun h₁ k₁ u₁ kp₁ => ?_
  replace W := W.kp kp₁
  repeat none_booked
  refine normpath_b (tp.keeps W.keep) hh hr hz' hne' hns' fun h₂ k₂ u₂ kp₂ => ?_
  replace W := W.kp kp₂
  repeat none_booked
  rename Wd _ _ _ _ (_ :: _) _ => W1
  refine zUnpT hh (W1.tup (.head _)) (by rfl) fun h₃ kp₃ => ?_
  replace W1 := (W1.kp kp₃).sub (List.sublist_cons_self _ _)
  clear W
  refine zBio ?_
  repeat none_booked
  refine zBio ?_
  repeat none_booked
  refine zBio0 ?_
  rename Wd _ _ _ (_ :: _ :: _ :: _ :: _ :: _ :: _ :: some _ :: some _ :: _) _ _ => W2
  exact hq _ _ _ _ W2
theorem law_6 {v0 v1 v2 v4 v5 v6 v7 v8 : Option Value} {D : Addr} {zs : List Value} {k : Nat} {st : List (List UInt8)} {news : List (Addr × Obj)} (tp : Tp w mg mb B) (hh : A.handled = none) (hr : A.depth + 2 < recursionLimit) (hu : A.units < 5000) (W : Wd B L LK [v0, v1, v2, some (.ref D), v4, v5, v6, v7, v8, none, none, none, none, none, none, none, none] ((D, lst zs k) :: news) h)
    (hb : BsAre zs st) (hz : st.length ≤ 100)
    (hq : ∀ h' t' M R ms rs km kr u₁ u₂, Wd B L LK [v0, v1, v2, some (.ref D), v4, v5, v6, v7, v8, some (.int (heightsL st).ups u₁), some (.ref M), some (.int ((heightsL st).highest - (heightsL st).height) u₂), some (.ref R), none, none, none, none] ((M, lst ms km) :: (R, lst rs kr) :: (D, lst zs k) :: news) h' →
      BsAre ms (heightsL st).names → BsAre rs (heightsL st).records.reverse → Q .next ⟨h', g, d, t', os⟩) :
    wpAny (model PG w) A (exec (lawSt w 6) (fe w 158 L)) Q E ⟨h, g, d, t, os⟩ := by
  conv => arg 3; arg 1; whnf
  repeat none_booked
  refine heights_call (tp.keeps W.keep) hr hh hu (W.lst (.head _)) hb hz ?_
  intro h₁ t₁ T M R ms rs km kr u₁ u₂ kp nT nM nR hMR oT oM oR bm br
  obtain ⟨m1, m2, m3⟩ := W.fresh nM
  obtain ⟨r1, r2, r3⟩ := W.fresh nR
  have W1 := ((W.kp kp).put r1 r2 r3 oR).put (a := M) (by rw [List.map_cons, List.mem_cons, not_or]; exact ⟨hMR, m1⟩) m2 m3 oM
  clear W
  refine zAsgL hh ⟨_, oT, rfl, _, rfl⟩ (by kernel_rfl!) (by kernel_rfl!) fun h₂ kp₂ => ?_
  replace W1 := W1.kp kp₂
  repeat none_booked
  rename Wd _ _ _ (_ :: _ :: _ :: _ :: _ :: _ :: _ :: _ :: _ :: some _ :: some _ :: some _ :: some _ :: _) _ _ => W2
  exact hq _ _ M R ms rs km kr _ _ W2 bm br
theorem law_7 {v0 v1 v3 v4 v5 v6 v7 v8 : Option Value} {odd : Bool} {M R : Addr} {ms rs : List Value} {km kr : Nat} {u₁ u₂ : Tok} {ups : Nat} {bk : Int} {back : Nat} {nm rc : List (List UInt8)} {news : List (Addr × Obj)} (tp : Tp w mg mb B) (hr : A.depth + 2 < recursionLimit)
    (W : Wd B L LK [v0, v1, some (.bool odd), v3, v4, v5, v6, v7, v8, some (.int ups u₁), some (.ref M), some (.int bk u₂), some (.ref R), none, none, none, none] ((M, lst ms km) :: (R, lst rs kr) :: news) h)
    (hbk : bk = back) (bm : BsAre ms nm) (br : BsAre rs rc) (hz1 : ups ≤ 100) (hz2 : back ≤ 100) (hz3 : nm.length ≤ 100) (hz4 : rc.length ≤ 100) (hz5 : ∀ b ∈ nm, b.length ≤ 100) (hz6 : ∀ b ∈ rc, b.length ≤ 100)
    (hq : ∀ h' t' U u₃ u₄, Wd B L LK [v0, v1, some (.bool odd), v3, v4, v5, v6, v7, v8, some (.int ups u₁), some (.ref M), some (.int bk u₂), some (.ref R), some (.ref U), none, none, none] ((U, lst [.bytes (straightL ups nm).toArray u₃, .bytes (if odd then 47 :: joinL 47 rc else straightL back rc).toArray u₄]) :: (M, lst ms km) :: (R, lst rs kr) :: news) h' → Q .next ⟨h', g, d, t', os⟩) :
    wpAny (model PG w) A (exec (lawSt w 7) (fe w 158 L)) Q E ⟨h, g, d, t, os⟩ := by
  subst hbk
  conv => arg 3; arg 1; whnf
  repeat none_booked
  refine straight_call (tp.keeps W.keep) hr (W.lst (.head _)) bm hz1 hz3 hz5 fun h₁ t₁ u' kp₁ => ?_
  replace W := W.kp kp₁
  repeat none_booked
  cases odd with
  | true =>
    repeat none_booked
    refine TKb.mJ (a := [47]) ?_
    repeat none_booked
    have hs := sum_len (l := rc) hz6
    have hjl := joinL_length (47 : UInt8) rc
    refine TKb.join (W.get (.tail _ (.head _))) br (by omega) fun t' k' => ?_
    repeat none_booked
    refine TKb.add (a := [47]) (b := joinL 47 rc) (by show 1 + (joinL 47 rc).length < 1000000; omega) fun _ _ => ?_
    repeat none_booked
    rename Wd _ _ _ (_ :: _ :: _ :: _ :: _ :: _ :: _ :: _ :: _ :: some _ :: some _ :: some _ :: some _ :: some _ :: _) _ _ => W2
    exact hq _ _ _ _ _ W2
  | false =>
    repeat none_booked
    refine straight_call (tp.keeps W.keep) hr (W.lst (us := rs) (n := kr) (.tail _ (.head _))) br hz2 hz4 hz6 fun h₂ t₂ u₂' kp₂ => ?_
    replace W := W.kp kp₂
    repeat none_booked
    rename Wd _ _ _ (_ :: _ :: _ :: _ :: _ :: _ :: _ :: _ :: _ :: some _ :: some _ :: some _ :: some _ :: some _ :: _) _ _ => W2
    exact hq _ _ _ _ _ W2
end

def T0 (_ : Heap) (v : Value) (b : List Nat) : Prop := asT v = some b
abbrev T1 := LOf T0
open PySem.SeqAt in
theorem eqT {A : Around} {s : Shared} {u v : Value} {b : List Nat} (h1 : T0 s.heap u b) (h2 : T0 s.heap v b) : EqAt A s u v true := by
  obtain ⟨t, rfl⟩ := of_asT h1
  obtain ⟨t', rfl⟩ := of_asT h2
  have := EqAt.str_str (A := A) (s := s) ⟨b.toArray⟩ t ⟨b.toArray⟩ t'
  rwa [beq_self_eq_true] at this
theorem all2_of_map {us : List Value} {bs : List (List Nat)} {h : Heap} (e : us.map asT = bs.map some) : All2 (T0 h) us bs := by
  induction us generalizing bs with
  | nil =>
    cases bs with
    | nil => exact .nil
    | cons => cases e
  | cons u us ih =>
    cases bs with
    | nil => cases e
    | cons b bs =>
      rw [List.map_cons, List.map_cons] at e
      obtain ⟨e1, e2⟩ := List.cons.inj e
      exact .cons e1 (ih e2)
section
variable {w : World} {mg mb : Str → Option Value} {A : Around} {E : Value → Shared → Prop} {B h : Heap} {g : Array GenState} {d : Drawn} {t : Nat} {os : OsState} {L : Addr} {Q : Flow → Shared → Prop}
theorem law_8 {v0 v1 v2 v3 v9 v10 v11 v12 : Option Value} {a b c e : List UInt8} {u4 u5 u6 u7 u8 u9 u10 : Tok} {U : Addr} {news : List (Addr × Obj)} (tp : Tp w mg mb B) (hu : A.units < 5000)
    (W : Wd B L LK [v0, v1, v2, v3, some (.bytes a.toArray u4), some (.bytes (b ++ a).toArray u5), some (.bytes b.toArray u6), some (.bytes c.toArray u7), some (.bytes e.toArray u8), v9, v10, v11, v12, some (.ref U), none, none, none] ((U, lst [.bytes c.toArray u9, .bytes e.toArray u10]) :: news) h)
    (hab : b.length = a.length) (hz : a.length ≤ 500)
    (hq : ∀ h' t', Wd B L LK [v0, v1, v2, v3, some (.bytes a.toArray u4), some (.bytes (b ++ a).toArray u5), some (.bytes b.toArray u6), some (.bytes c.toArray u7), some (.bytes e.toArray u8), v9, v10, v11, v12, some (.ref U), none, none, none] ((U, lst [.bytes c.toArray u9, .bytes e.toArray u10]) :: news) h' → Q .next ⟨h', g, d, t', os⟩) :
    wpAny (model PG w) A (exec (lawSt w 8) (fe w 158 L)) Q E ⟨h, g, d, t, os⟩ := by
  conv => arg 3; arg 1; whnf
  have huu : A.units < cLine := by unfold cLine; omega
  repeat none_booked
  refine zLenB (l := a) (by omega) fun _ _ => ?_
  repeat none_booked
  refine TKb.cut (a := b ++ a) (IsPart.int _ _) IsPart.none (by rw [List.length_append]; omega) (fun h₁ t₁ k₁ kp₁ => ?_) rfl (fun _ => rfl)
  replace W := W.kp kp₁
  have ec : cutL (b ++ a) (some (a.length : Int)) none = a := by rw [cut_lo, ← hab, List.drop_left']; rfl
  rw [ec]
  repeat none_booked
  rename Wd _ _ _ _ ((_, _) :: (_, _) :: (U, _) :: _) _ => W1
  refine zAddL W1 (W1.lst (us := [.bytes a.toArray u4]) (n := 0) (.head _)) (W1.lst (us := [.bytes c.toArray u9, .bytes e.toArray u10]) (n := 0) (.tail _ (.tail _ (.head _)))) (by simp) fun D₂ h₄ W2 => ?_
  clear W W1
  repeat none_booked
  have x1 : L1 h₄ _ [a, c, e] := L1.mk (W2.lst (us := [.bytes a.toArray _, .bytes c.toArray _, .bytes e.toArray _]) (n := 0) (.tail _ (.tail _ (.head _)))) (BsAre.cons (BsAre.cons (BsAre.cons BsAre.nil)))
  have x2 : L1 h₄ (.ref D₂) [a, c, e] := L1.mk (W2.lst (.head _)) (BsAre.cons (BsAre.cons (BsAre.cons BsAre.nil)))
  show wpAny _ _ (richCompare .NotEq _ _) _ _ _
  refine neL (s := ⟨h₄, g, d, _, os⟩) huu (fun _ _ _ p q => eq0 p q) x1 x2 _ _ _ _ ?_
  repeat none_booked
  exact hq _ _ (W2.sub (.cons _ (.cons _ (.cons _ (.refl _)))))
theorem law_9 {v0 v1 v2 v3 v5 v7 v8 v9 v10 v11 v12 : Option Value} {a b c e : List UInt8} {u4 u6 u9 u10 : Tok} {U : Addr} {news : List (Addr × Obj)} (tp : Tp w mg mb B) (hh : A.handled = none) (hr : A.depth + 3 < recursionLimit) (hu : A.units < 5000)
    (W : Wd B L LK [v0, v1, v2, v3, some (.bytes a.toArray u4), v5, some (.bytes b.toArray u6), v7, v8, v9, v10, v11, v12, some (.ref U), none, none, none] ((U, lst [.bytes c.toArray u9, .bytes e.toArray u10]) :: news) h)
    (ha : a ≠ [] ∧ (∀ x ∈ a, x.toNat < 128) ∧ a.length < 500) (hb : b ≠ [] ∧ (∀ x ∈ b, x.toNat < 128) ∧ b.length < 500) (hc : c ≠ [] ∧ (∀ x ∈ c, x.toNat < 128) ∧ c.length < 500) (he : e ≠ [] ∧ (∀ x ∈ e, x.toNat < 128) ∧ e.length < 500)
    (ns1 : (a.map UInt8.toNat).take 1 = [47] → ((a.map UInt8.toNat).drop 1).take 1 ≠ [47]) (ns2 : (b.map UInt8.toNat).take 1 = [47] → ((b.map UInt8.toNat).drop 1).take 1 ≠ [47]) (n1 : normL 47 46 (a.map UInt8.toNat) = c.map UInt8.toNat) (n2 : normL 47 46 (b.map UInt8.toNat) = e.map UInt8.toNat)
    (hq : ∀ h' t', Wd B L LK [v0, v1, v2, v3, some (.bytes a.toArray u4), v5, some (.bytes b.toArray u6), v7, v8, v9, v10, v11, v12, some (.ref U), none, none, none] ((U, lst [.bytes c.toArray u9, .bytes e.toArray u10]) :: news) h' → Q .next ⟨h', g, d, t', os⟩) :
    wpAny (model PG w) A (exec (lawSt w 9) (fe w 158 L)) Q E ⟨h, g, d, t, os⟩ := by
  conv => arg 3; arg 1; whnf
  have huu : A.units < cLine := by unfold cLine; omega
  repeat none_booked
  refine zMethD ?_
  repeat none_booked
  refine zDecode ha.1 ha.2.1 (by omega) fun _ _ => ?_
  repeat none_booked
  refine normpath_s (tp.keeps W.keep) hh hr (by rw [List.length_map]; exact ha.2.2) (fun q => ha.1 (List.map_eq_nil_iff.mp q)) ns1 fun h₁ k₁ u₁ kp₁ => ?_
  replace W := W.kp kp₁
  repeat none_booked
  refine zMethD ?_
  repeat none_booked
  refine zDecode hb.1 hb.2.1 (by omega) fun _ _ => ?_
  repeat none_booked
  refine normpath_s (tp.keeps W.keep) hh hr (by rw [List.length_map]; exact hb.2.2) (fun q => hb.1 (List.map_eq_nil_iff.mp q)) ns2 fun h₂ k₂ u₂ kp₂ => ?_
  replace W := W.kp kp₂
  repeat none_booked
  rename Wd _ _ _ _ ((_, _) :: (U, _) :: _) _ => W1
  clear W
  rw [n1, n2] at W1
  refine wpAny_ListComp_map (fun _ => true) (fun v y => asT y = some ((byOf v).map UInt8.toNat)) hh (by decide +kernel) (by decide +kernel) (by kernel_rfl!) (by decide +kernel) (by kernel_rfl!) ?_ (by intro _; rfl)
  repeat none_booked
  refine ⟨U, _, rfl, W1.lst (us := [.bytes c.toArray u9, .bytes e.toArray u10]) (n := 0) (.tail _ (.head _)), by rw [sizeLine_eq]; show (2 : Nat) ≤ 16777216; omega, ?_, ?_, ?_⟩
  · intro C v s₂ m₂ E' hv hns hmv hk
    simp only [List.forIn_nil]
    exact wpAny_pure ⟨rfl, _, _, rfl, fun _ _ e => e⟩
  · intro C v s₂ m₂ E' hv _ hns hmv hk
    obtain ⟨h₃, g₃, d₃, t₃, os₃⟩ := s₂
    obtain ⟨x, tx, rfl, hx⟩ : ∃ x tx, v = .bytes x.toArray tx ∧ (x ≠ [] ∧ (∀ y ∈ x, y.toNat < 128) ∧ x.length < 500) := by
      simp only [List.mem_toArray, List.mem_cons, List.not_mem_nil, or_false] at hv
      rcases hv with rfl | rfl
      · exact ⟨c, u9, rfl, hc⟩
      · exact ⟨e, u10, rfl, he⟩
    refine MethodCall_ ?_
    refine wpAny_Name (wpAny_loadName_local (by kernel_rfl!) (by kernel_rfl!) hns hmv ?_) (by decide +kernel)
    refine zMethD ?_
    repeat none_booked
    refine zDecode hx.1 hx.2.1 (by omega) fun _ _ => ?_
    exact ⟨rfl, _, _, rfl, fun _ _ e => e⟩
  · intro D' h₃ k₃ ys hnD hlD hp hk
    have W2 := W1.kp hk
    have hys : ys.toList.map asT = [c.map UInt8.toNat, e.map UInt8.toNat].map some := by
      generalize hyl : ys.toList = yl at hp
      have hp1 : Paired (fun v y => asT y = some ((byOf v).map UInt8.toNat)) [.bytes c.toArray u9, .bytes e.toArray u10] yl := hp
      clear hp
      cases hp1 with
      | cons p1 hp2 =>
        cases hp2 with
        | cons p2 hp3 =>
          cases hp3
          rw [List.map_cons, List.map_cons, p1, p2]; rfl
    have x1 : T1 h₃ _ [c.map UInt8.toNat, e.map UInt8.toNat] := ⟨_, [.str ⟨(c.map UInt8.toNat).toArray⟩ u₁, .str ⟨(e.map UInt8.toNat).toArray⟩ u₂], rfl, W2.lst (n := 0) (.head _), .cons rfl (.cons rfl .nil)⟩
    have x2 : T1 h₃ (.ref D') [c.map UInt8.toNat, e.map UInt8.toNat] := ⟨D', ys.toList, rfl, by simpa using hlD, all2_of_map hys⟩
    show wpAny _ _ (richCompare .NotEq _ _) _ _ _
    refine neL (s := ⟨h₃, g, d, _, os⟩) huu (fun _ _ _ p q => eqT p q) x1 x2 _ _ _ _ ?_
    repeat none_booked
    exact hq _ _ (W2.sub (.cons _ (.refl _)))
end

section
variable {w : World} {mg mb : Str → Option Value} {A : Around} {E : Value → Shared → Prop} {B h : Heap} {g : Array GenState} {d : Drawn} {t : Nat} {os : OsState} {L a : Addr} {K : List Str} {vs vs' : List (Option Value)} {news : List (Addr × Obj)} {name : Str} {scope : Scope} {cd : Value}
/-- _law_apart, called from the law's frame -/
theorem zApart {X Y : Addr} {us ws : List Value} {es as : List (List UInt8)} {Q : Value → Shared → Prop} (W : Wd B L K vs news h) (tp : Tp w mg mb B) (hr : A.depth + 3 < recursionLimit) (hh : A.handled = none) (hk : scope.kind = .function)
    (hA : A.frames = some [envOf name scope L a cd]) (hX : h.IsList X us.toArray) (hY : h.IsList Y ws.toArray) (hus : BsAre us es) (hws : BsAre ws as) (hz : es.length < 32) (hz2 : as.length < 32)
    (hq : ∀ h' t' T, Wd B L K vs news h' → Ks h h' → L3 h' (.ref T) [[(sld es as [] []).1, (sld es as [] []).2], [(sld (srt (es ++ es)) (srt (as ++ as)) [] []).1, (sld (srt (es ++ es)) (srt (as ++ as)) [] []).2]] → Q (.ref T) ⟨h', g, d, t', os⟩) :
    wpAny (model PG w) A (call (.ref 153) [.ref X, .ref Y]) Q E ⟨h, g, d, t, os⟩ := by
  have W₀ : Wd B L K vs (news ++ []) h := by rw [List.append_nil]; exact W
  obtain ⟨oL, hL, k1, k2, k3, k4⟩ := W₀.frames (name := name) (a := a) (cd := cd) (outer := []) (frs := []) hk trivial
  refine apart_call (frs := [(L, oL)]) (tp.keeps W.keep) hr hh hA k1 k2 k3 (Tp.hide tp W.keep k4) hX hY hus hws hz hz2 ?_
  intro h' t' T frs' kp sl hg nT tree
  obtain ⟨oL', frs₂, rfl, sl₂, W'⟩ := W₀.ret hL kp sl hg
  cases sl₂
  rw [List.append_nil] at W'
  exact hq h' t' T W' (Ks.of_hide k1 k2 kp) tree
theorem zStK {x : Str} {v : Value} {Q : Unit → Shared → Prop} (W : Wd B L K vs news h) (hp : Put K vs x v vs') (hq : ∀ h' t', Wd B L K vs' news h' → Ks h h' → Q () ⟨h', g, d, t', os⟩)
    (hk : scope.kind = .function) (hl : (envOf name scope L a cd).kindOf x = some .local) :
    wpAny (model PG w) A (storeName (envOf name scope L a cd) x v) Q E ⟨h, g, d, t, os⟩ := by
  obtain ⟨m, F, hm⟩ := W.fr
  refine wpAny_storeName_local (s := ⟨h, g, d, t, os⟩) hl F.ns (fun h₃ hn₃ hs₃ => ?_) (by show (scope.kind == .class || (scope.kind == .module && _)) = false; rw [hk]; rfl)
  refine hq h₃ _ ⟨⟨_, F.set hn₃ hs₃, fun y u l => ?_⟩, W.nw.set hs₃, W.nd, W.kn⟩ ?_
  · rcases hp.back W.kn l with ⟨rfl, rfl⟩ | ⟨hne, l'⟩
    · exact if_pos rfl
    · show (if y = x then some v else m y) = some u
      rw [if_neg hne]; exact hm y u l'
  · intro b o e s
    refine hs₃.extBut b o (fun q => ?_) e
    obtain ⟨oL, es, ep, hL, hd, _⟩ := F.ns
    have q' : b = L := q
    rw [q', hL] at e
    cases e
    obtain ⟨vs, n, hs⟩ := s
    rw [hd] at hs; cases hs
theorem zNewLK {vals : List Value} {Q : Value → Shared → Prop} (W : Wd B L K vs news h) (hsz : vals.length ≤ 1000)
    (hq : ∀ l h', Kp h h' → h.get? l = none → Wd B L K vs ((l, lst vals) :: news) h' → Q (.ref l) ⟨h', g, d, t, os⟩) : wpAny (model PG w) A (newList vals) Q E ⟨h, g, d, t, os⟩ :=
  wpAny_newObj_type (s := ⟨h, g, d, t, os⟩) (hq _ _ (Kp.push _ _) (none_size h) (W.push _ rfl)) (by show vals.toArray.size ≤ sizeLine; rw [List.size_toArray, sizeLine_eq]; omega)
end
section
variable {w : World} {mg mb : Str → Option Value} {A : Around} {E : Value → Shared → Prop} {B h : Heap} {g : Array GenState} {d : Drawn} {t : Nat} {os : OsState} {L : Addr} {Q : Flow → Shared → Prop}
theorem law_10 {v0 v1 v2 v3 v4 v5 v6 v7 v8 v9 v11 v13 : Option Value} {M R : Addr} {ms rs : List Value} {km kr : Nat} {nm rc : List (List UInt8)} {news : List (Addr × Obj)} (tp : Tp w mg mb B) (hh : A.handled = none)
    (W : Wd B L LK [v0, v1, v2, v3, v4, v5, v6, v7, v8, v9, some (.ref M), v11, some (.ref R), v13, none, none, none] news h)
    (hM : (M, lst ms km) ∈ news) (hR : (R, lst rs kr) ∈ news) (bm : BsAre ms nm) (br : BsAre rs rc) (hz3 : nm.length < 60) (hz4 : rc.length < 60)
    (hq : ∀ h' t' X Y us ws kx ky, Wd B L LK [v0, v1, v2, v3, v4, v5, v6, v7, v8, v9, some (.ref M), v11, some (.ref R), v13, some (.ref X), some (.ref Y), none] ((Y, lst ws ky) :: (X, lst us kx) :: news) h' → BsAre us (srt nm) → BsAre ws (srt rc) → Q .next ⟨h', g, d, t', os⟩) :
    wpAny (model PG w) A (exec (lawSt w 10) (fe w 158 L)) Q E ⟨h, g, d, t, os⟩ := by
  conv => arg 3; arg 1; whnf
  have hml := bm.length
  have hrl := br.length
  refine zSwap (names := ["one", "two"]) ?_ (by kernel_rfl!) (by kernel_rfl!)
  repeat none_booked
  refine zSorted W (W.lst hM) bm (by omega) fun X h₁ us kx W1 bx => ?_
  clear W
  repeat none_booked
  refine zSorted W1 (W1.lst (.tail _ hR)) br (by omega) fun Y h₂ ws ky W2 bw => ?_
  clear W1
  repeat none_booked
  rename Wd _ _ _ _ (_ :: (Y, _) :: _) _ => W3
  refine zUnpT hh (W3.tup (.head _)) (by rfl) fun h₃ kp₃ => ?_
  replace W3 := (W3.kp kp₃).sub (List.sublist_cons_self _ _)
  clear W2
  refine zBio ?_
  repeat none_booked
  refine zBio ?_
  repeat none_booked
  refine zBio0 ?_
  rename Wd _ _ _ (_ :: _ :: _ :: _ :: _ :: _ :: _ :: _ :: _ :: _ :: _ :: _ :: _ :: _ :: some _ :: some _ :: _) _ _ => W4
  exact hq _ _ X Y us ws kx ky W4 bx bw
abbrev apartL (es as : List (List UInt8)) : List (List (List (List UInt8))) := [[(sld es as [] []).1, (sld es as [] []).2], [(sld (srt (es ++ es)) (srt (as ++ as)) [] []).1, (sld (srt (es ++ es)) (srt (as ++ as)) [] []).2]]
theorem law_11 {v0 v1 v2 v3 v4 v5 v6 v9 v10 v11 v12 v13 v14 v15 : Option Value} {c e : List UInt8} {u7 u8 : Tok} {news : List (Addr × Obj)} (tp : Tp w mg mb B) (hh : A.handled = none) (hr : A.depth + 3 < recursionLimit) (hA : A.frames = some [fe w 158 L])
    (W : Wd B L LK [v0, v1, v2, v3, v4, v5, v6, some (.bytes c.toArray u7), some (.bytes e.toArray u8), v9, v10, v11, v12, v13, v14, v15, none] news h)
    (hc : c.length < 60) (he : e.length < 60) (hc' : (leftL c).length < 32) (he' : (leftL e).length < 32)
    (hq : ∀ h' t' T, Wd B L LK [v0, v1, v2, v3, v4, v5, v6, some (.bytes c.toArray u7), some (.bytes e.toArray u8), v9, v10, v11, v12, v13, v14, v15, some (.ref T)] news h' → L4 h' (.ref T) [apartL (leftL c) (leftL e), apartL (leftL e) (leftL c)] → Q .next ⟨h', g, d, t', os⟩) :
    wpAny (model PG w) A (exec (lawSt w 11) (fe w 158 L)) Q E ⟨h, g, d, t, os⟩ := by
  conv => arg 3; arg 1; whnf
  refine wpAny_Assign_Name ?_ (by kernel_rfl!)
  refine wpAny_mono (Q := fun v s => ∃ T h' t', v = .ref T ∧ s = ⟨h', g, d, t', os⟩ ∧ Wd B L LK [v0, v1, v2, v3, v4, v5, v6, some (.bytes c.toArray u7), some (.bytes e.toArray u8), v9, v10, v11, v12, v13, v14, v15, none] news h' ∧ L4 h' (.ref T) [apartL (leftL c) (leftL e), apartL (leftL e) (leftL c)]) ?_ ?_ (fun _ _ x => x)
  · repeat none_booked
    refine left_call (tp.keeps W.keep) (by omega) hh hc fun h₁ t₁ T₁ us₁ n₁ kp₁ nT₁ oT₁ b₁ => ?_
    have W1 := W.laid kp₁ nT₁ oT₁
    clear W
    repeat none_booked
    refine left_call (tp.keeps W1.keep) (by omega) hh he fun h₂ t₂ T₂ us₂ n₂ kp₂ nT₂ oT₂ b₂ => ?_
    have W2 := W1.laid kp₂ nT₂ oT₂
    clear W1
    repeat none_booked
    refine zApart W2 tp hr hh (by kernel_rfl!) hA (W2.lst (us := us₁) (n := n₁) (.tail _ (.head _))) (W2.lst (.head _)) b₁ b₂ hc' he' fun h₃ t₃ A₁ W3 ks₃ tr₁ => ?_
    clear W2
    repeat none_booked
    refine left_call (tp.keeps W3.keep) (by omega) hh he fun h₄ t₄ T₃ us₃ n₃ kp₄ nT₃ oT₃ b₃ => ?_
    have W4 := W3.laid kp₄ nT₃ oT₃
    clear W3
    repeat none_booked
    refine left_call (tp.keeps W4.keep) (by omega) hh hc fun h₅ t₅ T₄ us₄ n₄ kp₅ nT₄ oT₄ b₄ => ?_
    have W5 := W4.laid kp₅ nT₄ oT₄
    clear W4
    repeat none_booked
    refine zApart W5 tp hr hh (by kernel_rfl!) hA (W5.lst (us := us₃) (n := n₃) (.tail _ (.head _))) (W5.lst (.head _)) b₃ b₄ he' hc' fun h₆ t₆ A₂ W6 ks₆ tr₂ => ?_
    clear W5
    refine spliced_none ?_
    refine zNewLK W6 (by show (2 : Nat) ≤ 1000; omega) fun T h₇ kp₇ _ W7 => ?_
    have k3 : Kept L3 := keptL (keptL (keptL kept0))
    refine ⟨T, h₇, _, rfl, rfl, W7.sub (.cons _ (.cons _ (.cons _ (.cons _ (.cons _ (.refl _)))))), T, _, rfl, W7.lst (.head _), .cons (k3 _ _ _ _ (((Ks.of_kp kp₄).trans (Ks.of_kp kp₅)).trans (ks₆.trans (Ks.of_kp kp₇))) tr₁) (.cons (k3 _ _ _ _ (Ks.of_kp kp₇) tr₂) .nil)⟩
  · rintro _ _ ⟨T, h₁, t₁, rfl, rfl, W1, tr⟩
    refine zStK W1 (by repeat (with_reducible first | apply Put.head | apply Put.tail)) (fun h₂ t₂ W2 ks => ?_) (by kernel_rfl!) (by kernel_rfl!)
    exact hq h₂ t₂ T W2 (keptL (keptL (keptL (keptL kept0))) _ _ _ _ ks tr)
end

/-- a value that reads as a list, by a ledger of objects -/
def LN {α : Type} (P : List (Addr × Obj) → Value → α → Prop) (nws : List (Addr × Obj)) (v : Value) (l : List α) : Prop := ∃ (a : Addr) (us : List Value) (n : Nat), v = .ref a ∧ (a, lst us n) ∈ nws ∧ All2 (P nws) us l
def N0 (_ : List (Addr × Obj)) (v : Value) (b : List UInt8) : Prop := asB v = some b
abbrev N1 := LN N0
abbrev N2 := LN N1
abbrev N3 := LN N2
def MonoN {α : Type} (P : List (Addr × Obj) → Value → α → Prop) : Prop := ∀ (n n' : List (Addr × Obj)) (v : Value) (x : α), (∀ p ∈ n, p ∈ n') → P n v x → P n' v x
theorem mono0 : MonoN N0 := fun _ _ _ _ _ e => e
theorem monoL {α : Type} {P : List (Addr × Obj) → Value → α → Prop} (hP : MonoN P) : MonoN (LN P) := by
  rintro n n' v l h ⟨a, us, k, rfl, hm, ha⟩
  exact ⟨a, us, k, rfl, h _ hm, ha.imp fun u x => hP n n' u x h⟩
theorem LN.heap {α : Type} {P : List (Addr × Obj) → Value → α → Prop} {P' : Heap → Value → α → Prop} {h : Heap} {n : List (Addr × Obj)} (hP : ∀ v x, P n v x → P' h v x) (hn : ∀ p ∈ n, h.get? p.1 = some p.2) {v : Value} {l : List α} (x : LN P n v l) : LOf P' h v l := by
  obtain ⟨a, us, k, rfl, hm, ha⟩ := x
  exact ⟨a, us, rfl, ⟨_, hn _ hm, rfl, k, rfl⟩, ha.imp hP⟩
theorem N3.heap {h : Heap} {n : List (Addr × Obj)} (hn : ∀ p ∈ n, h.get? p.1 = some p.2) {v : Value} {l : List (List (List (List UInt8)))} (x : N3 n v l) : L3 h v l :=
  LN.heap (fun _ _ x => LN.heap (fun _ _ x => LN.heap (fun _ _ x => x) hn x) hn x) hn x
theorem N1.mk {n : List (Addr × Obj)} {T : Addr} {us : List Value} {k : Nat} {bs : List (List UInt8)} (hm : (T, lst us k) ∈ n) (hb : BsAre us bs) : N1 n (.ref T) bs :=
  ⟨T, us, k, rfl, hm, (hb.all2 (h := default)).imp fun _ _ e => e⟩
theorem All2.append {α β : Type} {R : α → β → Prop} {l l' : List α} {m m' : List β} (h : All2 R l m) (h' : All2 R l' m') : All2 R (l ++ l') (m ++ m') := by
  induction h with
  | nil => exact h'
  | cons p _ ih => exact .cons p ih
def retOf : Stmt → Expr
  | .Return (some e) _ => e
  | _ => default
def cmpR : Expr → Expr
  | .Compare _ _ [e] _ => e
  | _ => default
def compElt : Expr → Expr
  | .ListComp e _ _ _ => e
  | _ => default
def compScope : Expr → Scope
  | .ListComp _ _ s _ => s
  | _ => default
noncomputable def outerE (w : World) : Expr := cmpR (retOf (lawSt w 12))
noncomputable def innerE (w : World) : Expr := compElt (outerE w)
abbrev treesL (es as : List (List UInt8)) : List (List (List (List UInt8))) := [[onlyL es as false, onlyL as es false], [onlyL es as true, onlyL as es true]]
section
variable {w : World} {mg mb : Str → Option Value} {A : Around} {E : Value → Shared → Prop} {h : Heap} {g : Array GenState} {d : Drawn} {t : Nat} {os : OsState} {L : Addr} {Q : Value → Shared → Prop}
theorem inner_eval {C c1 c2 X Y : Addr} {us ws : List Value} {es as : List (List UInt8)} (tp : Tp w mg mb h) (hr : A.depth + 2 < recursionLimit) (hh : A.handled = none) (hu : A.units < 5000)
    (hc1 : h.IsCell c1 (some (.ref X))) (hc2 : h.IsCell c2 (some (.ref Y))) (hX : h.IsList X us.toArray) (hY : h.IsList Y ws.toArray) (hus : BsAre us es) (hws : BsAre ws as) (hz : es.length < 100) (hz2 : as.length < 100)
    (hq : ∀ h' t' D nws, Kp h h' → (∀ p ∈ nws, h'.get? p.1 = some p.2 ∧ h.get? p.1 = none) → (nws.map (·.1)).Nodup → N3 nws (.ref D) (treesL es as) → Q (.ref D) ⟨h', g, d, t', os⟩) :
    wpAny (model PG w) A (eval (innerE w) (compEnvC (compScope (outerE w)) [("second", c2), ("first", c1)] C (fe w 158 L))) Q E ⟨h, g, d, t, os⟩ := by
  conv => arg 3; arg 1; whnf
  refine zComp ["more"] [none] (by decide +kernel) (fun x v l => by cases l with | tail l => cases l) (by intro _; rfl) (cl := [("second", c2), ("first", c1)]) (by kernel_rfl!) (by decide +kernel) (by kernel_rfl!) (by decide +kernel) ?_
  repeat none_booked
  refine wpAny_newObj_type ?_ (by show (2 : Nat) ≤ sizeLine; rw [sizeLine_eq]; omega)
  have hl : (h.push (lst [.bool false, .bool true])).IsList h.objs.size [Value.bool false, Value.bool true].toArray := ⟨_, Heap.get?_push_size _ rfl, rfl, 0, rfl⟩
  refine wpAny_pyIter_list hl ?_
  have hsz : (h.push (lst [.bool false, .bool true])).objs.size = h.objs.size + 1 := Heap.size_push ..
  generalize hH : h.push (lst [.bool false, .bool true]) = H at *
  have hHk : Kp h H := hH ▸ Kp.push _ _
  refine ⟨_, _, h, [(H.objs.size, { cls := .type "list_iterator", data := .fields #[.ref h.objs.size, .int 0 0] }), (h.objs.size, lst [.bool false, .bool true])], rfl, hHk.trans (Kp.push _ _), by show h.objs.size ≤ (H.push _).objs.size; rw [Heap.size_push]; omega, ?_, ?_, ?_⟩
  · intro p hp
    simp only [List.mem_cons, List.not_mem_nil, or_false] at hp
    rcases hp with rfl | rfl
    · exact ⟨Heap.get?_push_size _ rfl, Heap.get?_none_of_le (by omega)⟩
    · refine ⟨Heap.get?_push_of_some _ ?_, Heap.get?_none_of_le (Nat.le_refl _)⟩
      rw [← hH]; exact Heap.get?_push_size _ rfl
  · rw [List.map_cons, List.map_cons, List.map_nil, List.nodup_cons]
    exact ⟨by rw [List.mem_singleton]; show H.objs.size ≠ h.objs.size; omega, by simp⟩
  intro C' D h₃ t₃ W
  have hul := hus.length
  have hwl := hws.length
  have hit0 : h₃.IsListIter H.objs.size h.objs.size 0 := ⟨_, W.get (.tail _ (.head _)), rfl, rfl⟩
  refine comp_start rfl rfl ?_ (fun Q hq => wpAny_pyIter_listiter hit0 hq)
  refine comp_last (fun n s => ∃ (i : Nat) (mv : Option Value) (zs : List Value) (k : Nat) (ito : Obj) (h' : Heap) (t' : Nat) (nws : List (Addr × Obj)), n + i = 2 ∧ s = ⟨h', g, d, t', os⟩ ∧ Wd h C' ["more"] [mv] ((D, lst zs k) :: (H.objs.size, ito) :: (h.objs.size, lst [.bool false, .bool true]) :: nws) h' ∧ ito.cls = .type "list_iterator" ∧ ito.data = .fields #[.ref h.objs.size, .int i 0] ∧ zs.length ≤ i ∧ All2 (N2 nws) zs ((treesL es as).take i))
    rfl rfl rfl ?_ 2 ⟨0, none, [], 0, _, h₃, t₃, [], rfl, rfl, W, rfl, rfl, Nat.le_refl _, .nil⟩ (by intro _; rfl)
  clear W hit0
  rintro n s ⟨i, mv, zs, k, ito, h₄, t₄, nws, hni, rfl, W, hc, hd', hzl, hzs⟩
  have hit : h₄.IsListIter H.objs.size h.objs.size i := ⟨ito, W.get (.tail _ (.head _)), hc, hd'⟩
  have hl₄ : h₄.IsList h.objs.size [Value.bool false, Value.bool true].toArray := W.lst (.tail _ (.tail _ (.head _)))
  by_cases hi : i < 2
  · obtain ⟨b, hb, htr⟩ : ∃ b : Bool, [Value.bool false, Value.bool true][i]? = some (.bool b) ∧ (treesL es as).take (i + 1) = (treesL es as).take i ++ [[onlyL es as b, onlyL as es b]] := by
      rcases (show i = 0 ∨ i = 1 by omega) with rfl | rfl
      · exact ⟨false, rfl, rfl⟩
      · exact ⟨true, rfl, rfl⟩
    refine wpAny_pyNext_list_item (s := ⟨h₄, g, d, t₄, os⟩) hit hl₄ (by simpa using hb) fun h₅ hit₅ hs₅ => ?_
    obtain ⟨ito₅, ho₅, hc₅, hd₅⟩ := hit₅
    have W5 := Wd.upd (pre := [(D, lst zs k)]) W hs₅ ho₅
    clear W
    dsimp only
    refine zStE W5 Put.head (fun h₆ t₆ W6 => ?_) (by kernel_rfl!) (by kernel_rfl!)
    clear W5
    unfold CompTests
    simp only [List.forIn_nil]
    refine wpAny_pure ?_
    rw [if_pos rfl]
    repeat none_booked
    refine wpAny_Name (wpAny_loadName_cell (by kernel_rfl!) (by kernel_rfl!) (by kernel_rfl!) (hc1.keeps W6.keep) ?_) (by decide +kernel)
    repeat none_booked
    refine wpAny_Name (wpAny_loadName_cell (by kernel_rfl!) (by kernel_rfl!) (by kernel_rfl!) (hc2.keeps W6.keep) ?_) (by decide +kernel)
    repeat none_booked
    refine only_call (tp.keeps W6.keep) hr hh hu ((Ks.of_kp W6.keep).list hX) ((Ks.of_kp W6.keep).list hY) hus hws hz hz2 fun h₇ t₇ T₁ z₁ n₁ kp₇ nT₁ oT₁ b₁ => ?_
    have W7 := W6.laid kp₇ nT₁ oT₁
    clear W6
    repeat none_booked
    refine wpAny_Name (wpAny_loadName_cell (by kernel_rfl!) (by kernel_rfl!) (by kernel_rfl!) (hc2.keeps W7.keep) ?_) (by decide +kernel)
    repeat none_booked
    refine wpAny_Name (wpAny_loadName_cell (by kernel_rfl!) (by kernel_rfl!) (by kernel_rfl!) (hc1.keeps W7.keep) ?_) (by decide +kernel)
    repeat none_booked
    refine only_call (tp.keeps W7.keep) hr hh hu ((Ks.of_kp W7.keep).list hY) ((Ks.of_kp W7.keep).list hX) hws hus hz2 hz fun h₈ t₈ T₂ z₂ n₂ kp₈ nT₂ oT₂ b₂ => ?_
    have W8 := W7.laid kp₈ nT₂ oT₂
    clear W7
    repeat none_booked
    rename Wd _ _ _ _ ((_, _) :: (T₂, _) :: (T₁, _) :: (D, _) :: _) _ => W9
    clear W8
    refine zAppend (W9.get (.tail _ (.tail _ (.tail _ (.head _))))) (by omega) fun h₁₀ hs₁₀ ho₁₀ => ?_
    have Wa := Wd.upd (pre := [_, _, _]) W9 hs₁₀ ho₁₀
    clear W9
    have Wb := Wd.front (pre := [_, _, _, _, _]) Wa
    have Wc := Wd.front (pre := [_, _, _, _, _]) Wb
    have We := Wd.front (pre := [_, _, _, _, _]) Wc
    clear Wa Wb Wc
    refine ⟨n - 1, by omega, i + 1, _, _, _, ito₅, h₁₀, _, _, by omega, rfl, We, hc₅, hd₅, by simp; omega, ?_⟩
    rw [htr]
    refine All2.append (hzs.imp fun u x => monoL (monoL mono0) _ _ u x fun p hp => ?_) (.cons ⟨_, [.ref T₁, .ref T₂], 0, rfl, .head _, .cons (N1.mk (us := z₁) (k := n₁) ?_ b₁) (.cons (N1.mk (us := z₂) (k := n₂) ?_ b₂) .nil)⟩ .nil)
    · exact .tail _ (.tail _ (.tail _ hp))
    · exact .tail _ (.tail _ (.head _))
    · exact .tail _ (.head _)
  · have h2 : i = 2 := by omega
    subst h2
    refine wpAny_pyNext_list_end (s := ⟨h₄, g, d, t₄, os⟩) hh hit hl₄ rfl fun h₅ he => ?_
    dsimp only
    have W5 := (Wd.front (pre := [(D, lst zs k)]) W).extBut he
    refine ⟨h₅, _, _, _, rfl, W5, fun h'' kp'' hn => hq h'' _ D _ kp'' (fun p hp => ⟨hn p hp, (W5.nw p hp).2.2⟩) W5.nd ?_⟩
    refine ⟨D, zs, k, rfl, .head _, ?_⟩
    exact hzs.imp fun u x => monoL (monoL mono0) _ _ u x fun p hp => .tail _ (.tail _ hp)
end

/-- what a step laid, over an older heap -/
structure Led (h h' : Heap) (nws : List (Addr × Obj)) : Prop where
  kp : Kp h h'
  sz : h.objs.size ≤ h'.objs.size
  get : ∀ p ∈ nws, h'.get? p.1 = some p.2 ∧ h.get? p.1 = none
  nd : (nws.map (·.1)).Nodup
theorem Led.refl (h : Heap) : Led h h [] := ⟨Kp.refl h, Nat.le_refl _, fun _ hp => (by cases hp), List.nodup_nil⟩
theorem Led.push {h h' : Heap} {nws : List (Addr × Obj)} (D : Led h h' nws) (o : Obj) (hf : o.isFreed = false) : Led h (h'.push o) ((h'.objs.size, o) :: nws) := by
  refine ⟨D.kp.trans (Kp.push _ _), by rw [Heap.size_push]; exact Nat.le_succ_of_le D.sz, fun p hp => ?_, ?_⟩
  · rcases List.mem_cons.mp hp with rfl | hp
    · exact ⟨Heap.get?_push_size _ hf, Heap.get?_none_of_le D.sz⟩
    · exact ⟨Heap.get?_push_of_some _ (D.get p hp).1, (D.get p hp).2⟩
  · rw [List.map_cons, List.nodup_cons]
    refine ⟨fun hq => ?_, D.nd⟩
    obtain ⟨p, hp, e⟩ := List.mem_map.mp hq
    exact absurd (Heap.lt_size (D.get p hp).1) (e ▸ Nat.lt_irrefl _)
theorem Led.frame {h h' : Heap} {nws : List (Addr × Obj)} (D : Led h h' nws) (cls : Value) : Wd h h'.objs.size [] [] nws (h'.push { cls, data := .dict #[] }) := by
  refine ⟨⟨_, ⟨Heap.Ns.new h' cls, fun b o e => Heap.get?_push_of_some _ (D.kp b o e), D.sz⟩, fun x v l => by cases l⟩, fun p hp => ⟨Heap.get?_push_of_some _ (D.get p hp).1, fun e => ?_, (D.get p hp).2⟩, D.nd, List.nodup_nil⟩
  have := Heap.lt_size (D.get p hp).1
  rw [e] at this
  exact absurd this (Nat.lt_irrefl _)
theorem Wd.perm {B h : Heap} {L : Addr} {K : List Str} {vs : List (Option Value)} {news news' : List (Addr × Obj)} (W : Wd B L K vs news h) (p : news.Perm news') : Wd B L K vs news' h :=
  ⟨W.fr, fun q hq => W.nw q (p.mem_iff.mpr hq), (p.map _).nodup_iff.mp W.nd, W.kn⟩
theorem Wd.puts {B h h' : Heap} {L : Addr} {K : List Str} {vs : List (Option Value)} {news nws : List (Addr × Obj)} (W : Wd B L K vs news h) (kp : Kp h h') (hg : ∀ p ∈ nws, h'.get? p.1 = some p.2 ∧ h.get? p.1 = none) (nd : (nws.map (·.1)).Nodup) : Wd B L K vs (nws ++ news) h' := by
  have W' := W.kp kp
  refine ⟨W'.fr, fun p hp => ?_, ?_, W.kn⟩
  · rcases List.mem_append.mp hp with hp | hp
    · obtain ⟨_, f2, f3⟩ := W.fresh (hg p hp).2
      exact ⟨(hg p hp).1, f2, f3⟩
    · exact W'.nw p hp
  · rw [List.map_append, List.nodup_append]
    refine ⟨nd, W.nd, fun a ha b hb e => ?_⟩
    obtain ⟨p, hp, rfl⟩ := List.mem_map.mp ha
    exact (W.fresh (hg p hp).2).1 (e ▸ hb)
section
variable {w : World} {mg mb : Str → Option Value} {A : Around} {E : Value → Shared → Prop} {B h₀ h : Heap} {g : Array GenState} {d : Drawn} {t : Nat} {os : OsState} {L : Addr} {K : List Str} {vs : List (Option Value)} {news nws : List (Addr × Obj)}
theorem zNewLL {vals : List Value} {Q : Value → Shared → Prop} (W : Wd B L K vs news h) (D : Led h₀ h nws) (hsz : vals.length ≤ 1000)
    (hq : ∀ l h', Wd B L K vs ((l, lst vals) :: news) h' → Led h₀ h' ((l, lst vals) :: nws) → Q (.ref l) ⟨h', g, d, t, os⟩) : wpAny (model PG w) A (newList vals) Q E ⟨h, g, d, t, os⟩ :=
  wpAny_newObj_type (s := ⟨h, g, d, t, os⟩) (hq _ _ (W.push _ rfl) (D.push _ rfl)) (by show vals.toArray.size ≤ sizeLine; rw [List.size_toArray, sizeLine_eq]; omega)
theorem newEnv2 {M : Model} {scope : Scope} {n0 n1 n2 : Str} {globals : Addr} {qual : Str} {env : Env} {Q : Env → Shared → Prop} (hn : scope.names = [(n0, .local), (n1, .cell), (n2, .cell)])
    (hQ : Q { scope, locals := h.objs.size, globals, cells := [(n2, h.objs.size + 2), (n1, h.objs.size + 1)], qual, func := none, code := env.code, frame := env.frame, builtins := env.builtins }
      ⟨((h.push { cls := .type "dict", data := .dict #[] }).push { cls := .type "cell", data := .cell none }).push { cls := .type "cell", data := .cell none }, g, d, t, os⟩) :
    wpAny M A (newFunctionEnv scope globals [] [] qual none .none (some env)) Q E ⟨h, g, d, t, os⟩ := by
  simp only [newFunctionEnv, Option.isSome_some, if_true]
  refine wpAny_bind (wpAny_alloc ?_)
  refine wpAny_bind (wpAny_layCells _ (fun name kind cells => by cases hkc : kind == NameKind.cell <;> simp [hkc]) _ _ _ _ ?_)
  rw [hn]
  have hsz : (h.push { cls := .type "dict", data := .dict #[] }).objs.size = h.objs.size + 1 := Heap.size_push ..
  have e1 : cellsFrom (h.push { cls := .type "dict", data := .dict #[] }).objs.size [(n0, .local), (n1, .cell), (n2, .cell)] [] = [(n2, h.objs.size + 2), (n1, h.objs.size + 1)] := by rw [hsz]; rfl
  show wpAny _ _ _ _ _ ⟨pushCells (h.push { cls := .type "dict", data := .dict #[] }) [(n0, .local), (n1, .cell), (n2, .cell)], g, d, t, os⟩
  rw [e1]
  refine wpAny_bind ?_
  rw [List.forIn_nil]
  exact wpAny_pure (wpAny_pure hQ)
end
local macro_rules | `(tactic| none_booked) => `(tactic| ((with_reducible show wpAny _ _ (newList _) _ _ _); (with_reducible refine zNewLL (by assumption) (by assumption) (Nat.le_of_ble_eq_true (by kernel_rfl!)) ?_); intro _ _ _ _))
theorem eval_is {M : Model} {A : Around} {E : Value → Shared → Prop} {s : Shared} {env env' : Env} {e e' : Expr} {Q : Value → Shared → Prop} (h1 : e = e') (h2 : env = env') (h : wpAny M A (eval e' env') Q E s) : wpAny M A (eval e env) Q E s := by rw [h1, h2]; exact h
section
variable {w : World} {mg mb : Str → Option Value} {A : Around} {E : Value → Shared → Prop} {B h : Heap} {g : Array GenState} {d : Drawn} {t : Nat} {os : OsState} {L : Addr} {Q : Value → Shared → Prop}
theorem outer_eval {v0 v1 v2 v3 v4 v5 v6 v7 v8 v9 v10 v11 v12 v13 v16 : Option Value} {X Y : Addr} {us ws : List Value} {kx ky : Nat} {es as : List (List UInt8)} {news : List (Addr × Obj)} (tp : Tp w mg mb B) (hr : A.depth + 2 < recursionLimit) (hh : A.handled = none) (hu : A.units < 5000)
    (W : Wd B L LK [v0, v1, v2, v3, v4, v5, v6, v7, v8, v9, v10, v11, v12, v13, some (.ref X), some (.ref Y), v16] news h) (hX : (X, lst us kx) ∈ news) (hY : (Y, lst ws ky) ∈ news) (hus : BsAre us es) (hws : BsAre ws as) (hz : es.length < 100) (hz2 : as.length < 100)
    (hq : ∀ h' t' D, Kp h h' → L4 h' (.ref D) [treesL es as, treesL as es] → Q (.ref D) ⟨h', g, d, t', os⟩) :
    wpAny (model PG w) A (eval (outerE w) (fe w 158 L)) Q E ⟨h, g, d, t, os⟩ := by
  conv => arg 3; arg 1; whnf
  rw [eval_ListComp]
  refine wpAny_comprehension_free (use := none) (cl := []) rfl (by intro _; rfl) (by kernel_rfl!) (by kernel_rfl!) (by decide +kernel) ?_
  have tph := tp.keeps W.keep
  have hXh : h.IsList X us.toArray := W.lst hX
  have hYh : h.IsList Y ws.toArray := W.lst hY
  have Dh := Led.refl h
  show wpAny _ _ (eval _ _) _ _ _
  repeat none_booked
  rename Wd _ _ _ _ ((_, _) :: (_, _) :: (_, _) :: _) _ => W3
  rename Led _ _ [_, _, _] => D3
  rename_i l1 h1 Wx1 Dx1 l2 h2 Wx2 Dx2 l3 h3
  clear Wx1 Dx1 Wx2 Dx2
  refine wpAny_pyIter_list (W3.lst (.head _)) ?_
  have D4 := D3.push { cls := .type "list_iterator", data := .fields #[.ref l3, .int 0 0] } rfl
  clear D3 W3
  generalize h3.push { cls := .type "list_iterator", data := .fields #[.ref l3, .int 0 0] } = h4 at *
  refine wpAny_newObj_type ?_ (Nat.zero_le _)
  have D5 := D4.push (lst []) rfl
  clear D4
  show wpAny _ _ (newFunctionEnv _ _ _ _ _ _ _ _) _ _ ⟨h4.push (lst []), g, d, t, os⟩
  generalize hD : h4.objs.size = D at *
  generalize hit : h3.objs.size = I at *
  generalize h4.push (lst []) = h5 at *
  refine newEnv2 rfl ?_
  have W6 := ((D5.frame (.type "dict")).push { cls := .type "cell", data := .cell none } rfl).push { cls := .type "cell", data := .cell none } rfl
  rw [Heap.size_push, Heap.size_push] at W6
  clear D5
  generalize ((h5.push { cls := .type "dict", data := .dict #[] }).push { cls := .type "cell", data := .cell none }).push { cls := .type "cell", data := .cell none } = h6 at *
  generalize hC : h5.objs.size = C at *
  have W7 := W6.perm (news' := [(D, lst []), (I, _), (C + 1, _), (C + 1 + 1, _), (l3, _), (l2, _), (l1, _)]) (by
    refine List.Perm.trans (List.perm_append_comm (l₁ := [_, _]) (l₂ := [_, _, _, _, _])) ?_
    refine .cons _ (.cons _ ?_)
    refine List.Perm.trans (List.perm_append_comm (l₁ := [_, _, _]) (l₂ := [_, _])) ?_
    exact .swap ..)
  clear W6
  have hit7 : h6.IsListIter I l3 0 := ⟨_, W7.get (.tail _ (.head _)), rfl, rfl⟩
  have hul := hus.length
  have hwl := hws.length
  refine comp_start rfl rfl ?_ (fun Q hq => wpAny_pyIter_listiter hit7 hq)
  refine comp_lastE (fun n s => ∃ (i : Nat) (o1 o2 : Obj) (f1 f2 : Option Value) (zs : List Value) (k : Nat) (ito : Obj) (h' : Heap) (t' : Nat) (nws : List (Addr × Obj)), n + i = 2 ∧ s = ⟨h', g, d, t', os⟩ ∧ Wd h C [] [] ((D, lst zs k) :: (I, ito) :: (C + 1, o1) :: (C + 1 + 1, o2) :: (l3, lst [.ref l1, .ref l2]) :: (l2, lst [.ref Y, .ref X]) :: (l1, lst [.ref X, .ref Y]) :: nws) h' ∧ o1.data = .cell f1 ∧ o2.data = .cell f2 ∧ ito.cls = .type "list_iterator" ∧ ito.data = .fields #[.ref l3, .int i 0] ∧ zs.length ≤ i ∧ All2 (N3 nws) zs ([treesL es as, treesL as es].take i))
    rfl rfl rfl ?_ 2 ⟨0, _, _, none, none, [], 0, _, h6, t, [], rfl, rfl, W7, rfl, rfl, rfl, rfl, Nat.le_refl _, .nil⟩
  clear W7 hit7
  rintro n s ⟨i, o1, o2, f1, f2, zs, k, ito, h₄, t₄, nws, hni, rfl, W4, ho1, ho2, hc, hd', hzl, hzs⟩
  have hit : h₄.IsListIter I l3 i := ⟨ito, W4.get (.tail _ (.head _)), hc, hd'⟩
  have hl₄ : h₄.IsList l3 [Value.ref l1, Value.ref l2].toArray := W4.lst (.tail _ (.tail _ (.tail _ (.tail _ (.head _)))))
  by_cases hi : i < 2
  · obtain ⟨l, P, R, us', ws', es', as', hb, hm, hP, hR, hus', hws', hz', hz2', htr⟩ : ∃ (l P R : Addr) (us' ws' : List Value) (es' as' : List (List UInt8)), [Value.ref l1, Value.ref l2][i]? = some (.ref l) ∧ (l, lst [.ref P, .ref R]) ∈ ((l2, lst [.ref Y, .ref X]) :: (l1, lst [.ref X, .ref Y]) :: nws) ∧ h.IsList P us'.toArray ∧ h.IsList R ws'.toArray ∧ BsAre us' es' ∧ BsAre ws' as' ∧ es'.length < 100 ∧ as'.length < 100 ∧ [treesL es as, treesL as es].take (i + 1) = [treesL es as, treesL as es].take i ++ [treesL es' as'] := by
      rcases (show i = 0 ∨ i = 1 by omega) with rfl | rfl
      · exact ⟨l1, X, Y, us, ws, es, as, rfl, .tail _ (.head _), hXh, hYh, hus, hws, hz, hz2, rfl⟩
      · exact ⟨l2, Y, X, ws, us, as, es, rfl, .head _, hYh, hXh, hws, hus, hz2, hz, rfl⟩
    refine wpAny_pyNext_list_item (s := ⟨h₄, g, d, t₄, os⟩) hit hl₄ (by simpa using hb) fun h₅ hit₅ hs₅ => ?_
    have hit₅' := hit₅
    obtain ⟨ito₅, ho₅, hc₅, hd₅⟩ := hit₅
    have W5 := Wd.upd (pre := [(D, lst zs k)]) W4 hs₅ ho₅
    clear W4
    dsimp only
    refine wpAny_letOwnedTupleGo_listiter hit₅' ?_
    refine zAsgL hh (W5.lst (us := [.ref P, .ref R]) (n := 0) (.tail _ (.tail _ (.tail _ (.tail _ (.tail _ hm)))))) (by kernel_rfl!) (by kernel_rfl!) fun h₆ kp₆ => ?_
    replace W5 := W5.kp kp₆
    refine zAio ?_ (by kernel_rfl!)
    refine zAsN ?_
    refine wpAny_storeName_cell (c := C + 1) (by kernel_rfl!) (by kernel_rfl!) (by kernel_rfl!) ⟨o1, W5.get (.tail _ (.tail _ (.head _))), ho1⟩ fun h₇ hc₇ hs₇ => ?_
    obtain ⟨o1', g1, ho1'⟩ := hc₇
    have W6 := Wd.upd (pre := [_, _]) W5 hs₇ g1
    clear W5
    refine zAio ?_ (by kernel_rfl!)
    refine zAsN ?_
    refine wpAny_storeName_cell (c := C + 1 + 1) (by kernel_rfl!) (by kernel_rfl!) (by kernel_rfl!) ⟨o2, W6.get (.tail _ (.tail _ (.tail _ (.head _)))), ho2⟩ fun h₈ hc₈ hs₈ => ?_
    obtain ⟨o2', g2, ho2'⟩ := hc₈
    have W7 := Wd.upd (pre := [_, _, _]) W6 hs₈ g2
    clear W6
    refine zAio0 ?_
    unfold CompTests
    simp only [List.forIn_nil]
    refine wpAny_pure ?_
    rw [if_pos rfl]
    refine eval_is (e' := innerE w) (env' := compEnvC (compScope (outerE w)) [("second", C + 1 + 1), ("first", C + 1)] C (fe w 158 L)) (by kernel_rfl!) (by kernel_rfl!) ?_
    refine inner_eval (tph.keeps W7.keep) hr hh hu ⟨o1', W7.get (.tail _ (.tail _ (.head _))), ho1'⟩ ⟨o2', W7.get (.tail _ (.tail _ (.tail _ (.head _)))), ho2'⟩ ((Ks.of_kp W7.keep).list hP) ((Ks.of_kp W7.keep).list hR) hus' hws' hz' hz2' fun h₉ t₉ D' nws' kp₉ hg nd tr => ?_
    have W8 := W7.puts kp₉ hg nd
    clear W7
    have W9 := W8.perm (List.perm_append_comm_assoc nws' [_, _, _, _, _, _, _] nws)
    clear W8
    refine zAppend (W9.get (.head _)) (by omega) fun h₁₀ hs₁₀ ho₁₀ => ?_
    have Wa := Wd.upd (pre := []) W9 hs₁₀ ho₁₀
    clear W9
    refine ⟨n - 1, by omega, i + 1, o1', o2', _, _, _, _, ito₅, h₁₀, _, nws' ++ nws, by omega, rfl, Wa, ho1', ho2', hc₅, hd₅, by simp; omega, ?_⟩
    rw [htr]
    exact All2.append (hzs.imp fun u x => monoL (monoL (monoL mono0)) _ _ u x fun p hp => List.mem_append.mpr (.inr hp)) (.cons (monoL (monoL (monoL mono0)) _ _ _ _ (fun p hp => List.mem_append.mpr (.inl hp)) tr) .nil)
  · have h2 : i = 2 := by omega
    subst h2
    refine wpAny_pyNext_list_end (s := ⟨h₄, g, d, t₄, os⟩) hh hit hl₄ rfl fun h₅ he => ?_
    dsimp only
    have W5 := (Wd.front (pre := [(D, lst zs k)]) W4).extBut he
    clear W4
    obtain ⟨m, F, _⟩ := W5.fr
    refine ⟨m, F.ns, fun h'' hs'' => ?_⟩
    have hn : ∀ p ∈ (D, lst zs k) :: nws, h''.get? p.1 = some p.2 := fun p hp => by
      have hp' : p ∈ [(D, lst zs k)] ++ ((C + 1, o1) :: (C + 1 + 1, o2) :: (l3, lst [.ref l1, .ref l2]) :: (l2, lst [.ref Y, .ref X]) :: (l1, lst [.ref X, .ref Y]) :: nws) := by
        rcases List.mem_cons.mp hp with rfl | hp
        · exact .head _
        · exact .tail _ (.tail _ (.tail _ (.tail _ (.tail _ (.tail _ hp)))))
      exact hs''.extBut _ _ (W5.nw p hp').2.1 (W5.nw p hp').1
    refine hq h'' _ D (fun b o e => hs''.extBut b o (fun q => ?_) (W5.keep b o e)) ⟨D, zs, rfl, ⟨_, hn _ (.head _), rfl, k, rfl⟩, ?_⟩
    · have := W5.noL
      have q' : b = C := q
      rw [q', this] at e; cases e
    · exact hzs.imp fun u x hx => N3.heap hn (monoL (monoL (monoL mono0)) _ _ u x (fun p hp => .tail _ hp) hx)
theorem law_12 {v0 v1 v2 v3 v4 v5 v6 v7 v8 v9 v10 v11 v12 v13 : Option Value} {X Y T : Addr} {us ws : List Value} {kx ky : Nat} {es as : List (List UInt8)} {news : List (Addr × Obj)} {Q : Flow → Shared → Prop} (tp : Tp w mg mb B) (hr : A.depth + 2 < recursionLimit) (hh : A.handled = none) (hu : A.units < 5000)
    (W : Wd B L LK [v0, v1, v2, v3, v4, v5, v6, v7, v8, v9, v10, v11, v12, v13, some (.ref X), some (.ref Y), some (.ref T)] news h) (hX : (X, lst us kx) ∈ news) (hY : (Y, lst ws ky) ∈ news) (hus : BsAre us es) (hws : BsAre ws as) (hz : es.length < 100) (hz2 : as.length < 100)
    (hT : L4 h (.ref T) [treesL es as, treesL as es]) (hq : ∀ h' t', Kp h h' → Q (.ret (.bool true)) ⟨h', g, d, t', os⟩) :
    wpAny (model PG w) A (exec (lawSt w 12) (fe w 158 L)) Q E ⟨h, g, d, t, os⟩ := by
  conv => arg 3; arg 1; whnf
  refine wpAny_Return_some ?_
  refine wpAny_Compare1 ?_ (by kernel_rfl!)
  none_booked
  refine eval_is (e' := outerE w) (env' := fe w 158 L) (by kernel_rfl!) rfl ?_
  refine outer_eval tp hr hh hu W hX hY hus hws hz hz2 fun h' t' D kp tr => ?_
  show wpAny _ _ (richCompare .Eq _ _) _ _ _
  exact eq4 (s := ⟨h', g, d, t', os⟩) (by unfold cLine; omega) (keptL (keptL (keptL (keptL kept0))) _ _ _ _ (Ks.of_kp kp) hT) tr _ _ _ _ (hq h' t' kp)
end

theorem heights_all (P : List UInt8 → Prop) : ∀ (l : List (List UInt8)) (s : HS), (∀ c ∈ l, P c) → (∀ c ∈ s.names, P c) → (∀ c ∈ s.records, P c) → (∀ c ∈ (l.foldl hstep s).names, P c) ∧ ∀ c ∈ (l.foldl hstep s).records, P c
  | [], s, _, h1, h2 => ⟨h1, h2⟩
  | c :: l, s, h, h1, h2 => by
    rw [List.foldl_cons]
    have hc := h c (.head _)
    refine heights_all P l (hstep s c) (fun b hb => h b (.tail _ hb)) ?_ ?_
    · unfold hstep
      split
      · intro b hb; exact h1 b (List.dropLast_subset _ hb)
      · split
        · exact h1
        · intro b hb
          rcases List.mem_append.mp hb with hb | hb
          · exact h1 b hb
          · rw [List.mem_singleton.mp hb]; exact hc
    · unfold hstep
      split
      · exact h2
      · split
        · exact h2
        · intro b hb
          rcases List.mem_append.mp hb with hb | hb
          · exact h2 b hb
          · split at hb
            · rw [List.mem_singleton.mp hb]; exact hc
            · cases hb
theorem fold_len {α : Type} [DecidableEq α] (dt : α) (ab : Bool) : ∀ (l acc : List (List α)), (l.foldl (nstep dt ab) acc).length ≤ acc.length + l.length
  | [], acc => Nat.le_refl _
  | c :: l, acc => by
    rw [List.foldl_cons]
    have h1 := fold_len dt ab l (nstep dt ab acc c)
    have h2 := nstep_len (dt := dt) (ab := ab) (acc := acc) (c := c) (Nat.le_refl _)
    rw [List.length_cons]
    omega
theorem ups_len {l : List (List UInt8)} (h : ∀ c ∈ l, IsStep c) : (heightsL l).ups + (heightsL l).names.length ≤ l.length := by
  have z := fwd l ⟨[], 0, 0, 0, []⟩ h (by simp)
  have z' : l.foldl (nstep 46 false) [] = List.replicate (heightsL l).ups [46, 46] ++ (heightsL l).names := z
  have y := fold_len (46 : UInt8) false l []
  rw [z', List.length_append, List.length_replicate] at y
  simpa using y
theorem back_len {l : List (List UInt8)} (h : ∀ c ∈ l, IsStep c) : backL (heightsL l) + (heightsL l).records.length ≤ l.length := by
  have z := bwd false l.reverse [] fun c hc => h c (List.mem_reverse.mp hc)
  rw [List.reverse_reverse, show upN false _ [] = _ from upN_rel _ 0, Nat.zero_add] at z
  have y := fold_len (46 : UInt8) false l.reverse []
  rw [z, List.length_append, List.length_replicate, List.length_reverse, List.length_reverse] at y
  simpa [backL] using y
theorem joinL_mem {c x : UInt8} : ∀ {ps : List (List UInt8)}, x ∈ joinL c ps → x = c ∨ ∃ p ∈ ps, x ∈ p
  | [], h => by cases h
  | [p], h => .inr ⟨p, .head _, h⟩
  | p :: q :: r, h => by
    have h : x ∈ p ++ c :: joinL c (q :: r) := h
    rcases List.mem_append.mp h with h | h
    · exact .inr ⟨p, .head _, h⟩
    · rcases List.mem_cons.mp h with h | h
      · exact .inl h
      · rcases joinL_mem h with h | ⟨y, hy, h⟩
        · exact .inl h
        · exact .inr ⟨y, .tail _ hy, h⟩
def Asc (c : List UInt8) : Prop := ∀ x ∈ c, x.toNat < 128
theorem asc_join {ps : List (List UInt8)} (h : ∀ p ∈ ps, Asc p) : Asc (joinL 47 ps) := fun x hx => by
  rcases joinL_mem hx with rfl | ⟨p, hp, hx⟩
  · decide
  · exact h p hp x hx
theorem sum_le2 {l : List (List UInt8)} (h : ∀ b ∈ l, b.length ≤ 2) : (l.map List.length).sum ≤ 2 * l.length := by
  induction l with
  | nil => simp
  | cons x l ih =>
    have h1 := h x (.head _)
    have h2 := ih fun b hb => h b (.tail _ hb)
    simp only [List.map_cons, List.sum_cons, List.length_cons]
    omega
theorem join_len2 {l : List (List UInt8)} (h : ∀ b ∈ l, b.length ≤ 2) : (joinL 47 l).length ≤ 3 * l.length := by
  have h1 := joinL_length (47 : UInt8) l
  have h2 := sum_le2 h
  omega
theorem rep_mem {u : Nat} {ns : List (List UInt8)} {P : List UInt8 → Prop} (h0 : P [46, 46]) (h : ∀ c ∈ ns, P c) : ∀ c ∈ List.replicate u [46, 46] ++ ns, P c := fun c hc => by
  rcases List.mem_append.mp hc with hc | hc
  · rw [List.eq_of_mem_replicate hc]; exact h0
  · exact h c hc
theorem straight_all {u : Nat} {ns : List (List UInt8)} (hn : ∀ c ∈ ns, IsName c) (ha : ∀ c ∈ ns, Asc c) (hl : u + ns.length ≤ 19) : straightL u ns ≠ [] ∧ Asc (straightL u ns) ∧ (straightL u ns).length ≤ 57 := by
  unfold straightL
  by_cases h0 : u + ns.length > 0
  · rw [if_pos h0]
    refine ⟨straight_ne u ns hn h0, asc_join (rep_mem (fun x hx => by simp at hx; rw [hx]; decide) ha), ?_⟩
    have := join_len2 (rep_mem (u := u) (ns := ns) (P := fun c => c.length ≤ 2) (by decide) fun c hc => by rw [(hn c hc).len]; decide)
    rw [List.length_append, List.length_replicate] at this
    omega
  · rw [if_neg h0]
    exact ⟨by simp, fun x hx => by simp at hx; rw [hx]; decide, by decide⟩
theorem due_all {s : HS} {odd : Bool} (hn : ∀ c ∈ s.records, IsName c) (ha : ∀ c ∈ s.records, Asc c) (hl : backL s + s.records.length ≤ 19) : dueL s odd ≠ [] ∧ Asc (dueL s odd) ∧ (dueL s odd).length ≤ 58 := by
  have hn' : ∀ c ∈ s.records.reverse, IsName c := fun c hc => hn c (List.mem_reverse.mp hc)
  have ha' : ∀ c ∈ s.records.reverse, Asc c := fun c hc => ha c (List.mem_reverse.mp hc)
  unfold dueL
  cases odd with
  | true =>
    rw [if_pos rfl]
    refine ⟨by simp, fun x hx => ?_, ?_⟩
    · rcases List.mem_cons.mp hx with rfl | hx
      · decide
      · exact asc_join ha' x hx
    · have := join_len2 (l := s.records.reverse) fun c hc => by rw [(hn' c hc).len]; decide
      rw [List.length_reverse] at this
      rw [List.length_cons]
      omega
  | false =>
    rw [if_neg (by decide)]
    have := straight_all hn' ha' (u := backL s) (by rw [List.length_reverse]; exact hl)
    exact ⟨this.1, this.2.1, by omega⟩
theorem ns_map {a : List UInt8} (h : a.take 1 = [47] → (a.drop 1).take 1 ≠ [47]) : (a.map UInt8.toNat).take 1 = [47] → ((a.map UInt8.toNat).drop 1).take 1 ≠ [47] := by
  have inj : ∀ x y : UInt8, x.toNat = y.toNat → x = y := fun x y e => UInt8.toNat_inj.mp e
  intro h1 h2
  rw [← List.map_take] at h1
  rw [← List.map_drop, ← List.map_take] at h2
  exact h (map_inj UInt8.toNat inj (b := [47]) h1) (map_inj UInt8.toNat inj (b := [47]) h2)
theorem norm_map {a c : List UInt8} (h : normL 47 46 a = c) : normL 47 46 (a.map UInt8.toNat) = c.map UInt8.toNat := by
  rw [← h]
  exact normL_map UInt8.toNat (fun x y e => UInt8.toNat_inj.mp e) 47 46 a
theorem steps_asc : ∀ {k : Nat} {l : List Int}, k + l.length ≤ 30 → ∀ c ∈ stepsL k l, Asc c
  | _, [], _, c, hc => by cases hc
  | k, x :: l, h, c, hc => by
    simp only [List.length_cons] at h
    rcases List.mem_cons.mp hc with rfl | hc
    · unfold stepL
      split
      · intro y hy; simp at hy; rw [hy]; decide
      · split
        · intro y hy; simp at hy; rw [hy]; decide
        · split
          · split
            · intro y hy; cases hy
            · intro y hy; simp at hy; rw [hy]; decide
          · intro y hy
            unfold nameAt at hy
            rw [List.mem_singleton] at hy
            rw [hy, UInt8.toNat_ofNat']
            omega
    · exact steps_asc (by omega) c hc
/-- all that the walk asks of the steps -/
structure Facts (ns : List Int) (st : List (List UInt8)) : Prop where
  len : st.length ≤ 19
  step : ∀ c ∈ st, IsStep c
  asc : ∀ c ∈ st, Asc c
  first : ∃ c l, st = c :: l ∧ c ≠ []
  last : ∃ l c, st = l ++ [c] ∧ c ≠ []
  names : (heightsL st).names.Nodup
  recs : (heightsL st).records.Nodup
theorem facts (ns : List Int) : Facts ns (stepsL 0 (ns.take 8 ++ tailL)) := by
  have hl : (ns.take 8 ++ tailL).length ≤ 19 := by
    rw [List.length_append, List.length_take]
    show min 8 ns.length + 11 ≤ 19
    omega
  have hnd := heights_nodup (ns.take 8 ++ tailL) 0 ⟨[], 0, 0, 0, []⟩ (by omega) (by simp) (by simp) List.nodup_nil List.nodup_nil
  refine ⟨by rw [stepsL_length]; exact hl, steps_are (by omega), steps_asc (by omega), ?_, ?_, hnd.1, hnd.2⟩
  · obtain ⟨x, l, e⟩ : ∃ x l, ns.take 8 ++ tailL = x :: l := by
      cases h : ns.take 8 ++ tailL with
      | nil => simp [tailL] at h
      | cons x l => exact ⟨x, l, rfl⟩
    rw [e]
    refine ⟨stepL 0 x, stepsL 1 l, rfl, ?_⟩
    unfold stepL nameAt
    split
    · simp
    · split
      · simp
      · split
        · simp
        · simp
  · have e : ns.take 8 ++ tailL = (ns.take 8 ++ [0, 1, 2, 2, 4, 2, 5, 3, 10, 12]) ++ [11] := by simp [tailL]
    rw [e, stepsL_append]
    refine ⟨_, stepL (0 + (ns.take 8 ++ [0, 1, 2, 2, 4, 2, 5, 3, 10, 12]).length) 11, rfl, ?_⟩
    show nameAt _ ≠ []
    unfold nameAt
    simp
theorem way_all {ns : List Int} {st : List (List UInt8)} (F : Facts ns st) (odd : Bool) : wayL st odd ≠ [] ∧ Asc (wayL st odd) ∧ (wayL st odd).length ≤ 58 := by
  have h1 := asc_join F.asc
  have h2 := join_len2 fun c hc => (F.step c hc).len
  have hl := F.len
  unfold wayL
  refine ⟨?_, ?_, ?_⟩
  · intro e
    obtain ⟨c, l, rfl, hc⟩ := F.first
    cases c with
    | nil => exact hc rfl
    | cons x p =>
      obtain ⟨q, hq⟩ := joinL_head (47 : UInt8) x p l
      rw [hq] at e; simp at e
  · intro x hx
    rcases List.mem_append.mp hx with hx | hx
    · exact h1 x hx
    · cases odd with
      | false => simp at hx
      | true => simp at hx; rw [hx]; decide
  · rw [List.length_append]
    cases odd with
    | false => show _ + 0 ≤ _; omega
    | true => show _ + 1 ≤ _; omega

section
variable {w : World} {mg mb : Str → Option Value} {E : Value → Shared → Prop} {h : Heap} {g : Array GenState} {d : Drawn} {t : Nat} {os : OsState}
theorem nNext {M : Model} {A : Around} {E : Value → Shared → Prop} {s : Shared} {env : Env} {st : Stmt} {rest : List Stmt} {Q : Flow → Shared → Prop} (h : wpN M A (exec st env) (fun f s' => match f with | .next => wpN M A (execs rest env) Q E s' | f => Q f s') E s) : wpN M A (execs (st :: rest) env) Q E s := nExecs h
theorem law_call {S : Addr} {us : List Value} {ns : List Int} (tp : Tp w mg mb h) (hS : h.IsList S us.toArray) (hi : IntsAre us ns) (hz : ns.length ≤ 63) :
    wpN (model PG w) callerA (call (.ref 158) [.ref S]) (fun v s' => v = .bool true ∧ ∃ h' t', s' = ⟨h', g, d, t', os⟩ ∧ Kp h h') E ⟨h, g, d, t, os⟩ := by
  refine zCallN LK [some (.ref S), none, none, none, none, none, none, none, none, none, none, none, none, none, none, none, none] [("script", .ref S)] tp (by decide +kernel) (by kernel_rfl!) (by kernel_rfl!) (by kernel_rfl!) (by kernel_rfl!) (by kernel_rfl!) (by decide +kernel) (by kernel_rfl!) (by kernel_rfl!) (fun _ => by kernel_rfl!) (by kernel_rfl!) (by kernel_rfl!) (by kernel_rfl!) ?_
  intro L h₁ t₁ W
  rw [law_body w]
  have hh : (callerA.deeper (fe w 158 L)).handled = none := rfl
  have hr : (callerA.deeper (fe w 158 L)).depth + 3 < recursionLimit := by show callerA.depth + 1 + 3 < recursionLimit; decide +kernel
  have hr2 : (callerA.deeper (fe w 158 L)).depth + 2 < recursionLimit := by omega
  have hu : (callerA.deeper (fe w 158 L)).units < 5000 := by show callerA.units + 3 < 5000; decide
  have hA : (callerA.deeper (fe w 158 L)).frames = some [fe w 158 L] := rfl
  generalize callerA.deeper (fe w 158 L) = A at *
  have F := facts ns
  generalize hst : stepsL 0 (ns.take 8 ++ tailL) = st at F
  generalize hodd : decide ((ns.take 8).sum % 2 = 1) = odd
  have hway := way_all F odd
  have hlen := F.len
  have hnl : (ns.take 8 ++ tailL).length ≤ 63 := by rw [List.length_append, List.length_take]; show min 8 ns.length + 11 ≤ 63; omega
  obtain ⟨hns1, hn1⟩ : ((wayL st odd).take 1 ≠ [47]) ∧ normL 47 46 (wayL st odd) = straightL (heightsL st).ups (heightsL st).names := by
    obtain ⟨c, l, e, hc⟩ := F.first
    have := F.step
    subst e
    exact norm_way this hc
  obtain ⟨hns2, hn2⟩ : ((wayL st odd).reverse.take 1 = [47] → ((wayL st odd).reverse.drop 1).take 1 ≠ [47]) ∧ normL 47 46 (wayL st odd).reverse = dueL (heightsL st) odd := by
    obtain ⟨l, c, e, hc⟩ := F.last
    have := F.step
    subst e
    exact norm_back this hc
  have hnm := heights_names st ⟨[], 0, 0, 0, []⟩ F.step (by simp) (by simp)
  have hna := heights_all Asc st ⟨[], 0, 0, 0, []⟩ F.asc (by simp) (by simp)
  change (∀ c ∈ (heightsL st).names, IsName c) ∧ ∀ c ∈ (heightsL st).records, IsName c at hnm
  change (∀ c ∈ (heightsL st).names, Asc c) ∧ ∀ c ∈ (heightsL st).records, Asc c at hna
  have hul := ups_len F.step
  have hbl := back_len F.step
  have hle : (heightsL st).height ≤ (heightsL st).highest := heights_le st ⟨[], 0, 0, 0, []⟩ (Int.le_refl _)
  have hbk : (heightsL st).highest - (heightsL st).height = (backL (heightsL st) : Nat) := by unfold backL; omega
  have hs1 := straight_all hnm.1 hna.1 (u := (heightsL st).ups) (by omega)
  have hs2 := due_all (odd := odd) hnm.2 hna.2 (by omega)
  have hf1 : leftL (straightL (heightsL st).ups (heightsL st).names) = srt (heightsL st).names := left_straight hnm.1
  have hf2 : leftL (dueL (heightsL st) odd) = srt (heightsL st).records.reverse := left_due hnm.2
  have hsr1 : (srt (heightsL st).names).length = (heightsL st).names.length := (srt_perm _).length_eq
  have hsr2 : (srt (heightsL st).records.reverse).length = (heightsL st).records.length := by rw [(srt_perm _).length_eq, List.length_reverse]
  have hst1 := srt_strict F.names
  have hst2 := srt_strict ((List.reverse_perm _).nodup_iff.mpr F.recs)
  have hne : wayL st odd ≠ [] := hway.1
  have hner : (wayL st odd).reverse ≠ [] := fun e => hne (List.reverse_eq_nil_iff.mp e)
  refine nNext (wpN.of (law_0 tp hh W hS hi hz fun h₂ t₂ N ms W2 hms => ?_))
  clear W
  rw [hodd] at W2
  show wpN _ _ (execs _ _) _ _ _
  refine nNext (wpN.of (law_1 tp hh W2 hms hnl fun h₃ t₃ D zs k W3 bz => ?_))
  clear W2
  rw [hst] at bz
  show wpN _ _ (execs _ _) _ _ _
  refine nNext (wpN.of (law_2 W3 bz (by have := sum_le2 fun c hc => (F.step c hc).len; omega) fun h₄ t₄ u₄ W4 => ?_))
  clear W3
  generalize hwy : wayL st odd = way at *
  show wpN _ _ (execs _ _) _ _ _
  refine nNext (law_3 tp hh hr2 W4 (List.length_pos_iff.mpr hne) (by omega) fun h₅ t₅ u₅ W5 => ?_)
  clear W4
  show wpN _ _ (execs _ _) _ _ _
  refine nNext (wpN.of (law_4 tp W5 (by rw [List.length_reverse]) (by omega) fun h₆ t₆ u₆ W6 => ?_))
  clear W5
  show wpN _ _ (execs _ _) _ _ _
  refine nNext (wpN.of (law_5 tp hh hr W6 (by omega) (by rw [List.length_reverse]; omega) hne hner (fun e => absurd e hns1) hns2 fun h₇ t₇ u₇ u₈ W7 => ?_))
  clear W6
  rw [hn1, hn2] at W7
  show wpN _ _ (execs _ _) _ _ _
  refine nNext (wpN.of (law_6 tp hh hr2 hu W7 bz (by omega) fun h₈ t₈ M R ms' rs km kr u₉ u₁₁ W8 bm br => ?_))
  clear W7
  show wpN _ _ (execs _ _) _ _ _
  refine nNext (wpN.of (law_7 tp hr2 W8 hbk bm br (by omega) (by omega) (by omega) (by rw [List.length_reverse]; omega) (fun b hb => by rw [(hnm.1 b hb).len]; decide) (fun b hb => by rw [(hnm.2 b (List.mem_reverse.mp hb)).len]; decide) fun h₉ t₉ U u₁₃ u₁₄ W9 => ?_))
  clear W8
  have hdu : (if odd = true then 47 :: joinL 47 (heightsL st).records.reverse else straightL (backL (heightsL st)) (heightsL st).records.reverse) = dueL (heightsL st) odd := rfl
  rw [hdu] at W9
  show wpN _ _ (execs _ _) _ _ _
  refine nNext (wpN.of (law_8 tp hu W9 (by rw [List.length_reverse]) (by omega) fun ha ta Wa => ?_))
  clear W9
  show wpN _ _ (execs _ _) _ _ _
  refine nNext (wpN.of (law_9 tp hh hr hu Wa ⟨hne, hway.2.1, by omega⟩ ⟨hner, fun x hx => hway.2.1 x (List.mem_reverse.mp hx), by rw [List.length_reverse]; omega⟩ ⟨hs1.1, hs1.2.1, by omega⟩ ⟨hs2.1, hs2.2.1, by omega⟩ (ns_map fun e => absurd e hns1) (ns_map hns2) (norm_map hn1) (norm_map hn2) fun hb tb Wb => ?_))
  clear Wa
  show wpN _ _ (execs _ _) _ _ _
  refine nNext (wpN.of (law_10 tp hh Wb (.tail _ (.head _)) (.tail _ (.tail _ (.head _))) bm br (by omega) (by rw [List.length_reverse]; omega) fun hc tc X Y xs ys kx ky Wc bx bw => ?_))
  clear Wb
  show wpN _ _ (execs _ _) _ _ _
  refine nNext (wpN.of (law_11 tp hh hr hA Wc (by omega) (by omega) (by rw [hf1, hsr1]; omega) (by rw [hf2, hsr2]; omega) fun hd td T We tr => ?_))
  clear Wc
  rw [hf1, hf2] at tr
  unfold apartL at tr
  rw [told hst1 hst2, told hst2 hst1] at tr
  show wpN _ _ (execs _ _) _ _ _
  refine nNext (wpN.of (law_12 tp hr2 hh hu We (.tail _ (.head _)) (.head _) bx bw (by rw [hsr1]; omega) (by rw [hsr2]; omega) tr fun he te kp => ?_))
  show _ ∧ _
  exact ⟨rfl, he, te, rfl, We.keep.trans kp⟩
end

theorem ints_of {R : WRecords} {cl : Str → Option Addr} {h : Heap} : ∀ {vs : List Value} {xs : List WData} {as : List Addr}, ReadsAllW R cl h vs xs as → WShape.hasItems R xs .int = true → ∃ ns, IntsAre vs ns ∧ ns.length = xs.length
  | _, _, _, .nil, _ => ⟨[], .nil, rfl⟩
  | _, d :: ds, _, .cons r1 r2, hx => by
    have hx' : WShape.has R d .int = true ∧ WShape.hasItems R ds .int = true := by simpa [WShape.hasItems] using hx
    obtain ⟨i, rfl⟩ := hasW_int hx'.1
    obtain ⟨t, rfl, _⟩ := readsW_int_inv r1
    obtain ⟨ns, h1, h2⟩ := ints_of r2 hx'.2
    exact ⟨i :: ns, .cons i t h1, by simp [h2]⟩
theorem pre_len {xs : List WData} (h : PySem.Challenge.rw_oc0037_01.row.toRowW.pre.holds PySem.Challenge.rw_oc0037_01.row.toRowW.records { args := [.list xs] } = true) : xs.length ≤ 63 := by
  have v : WTm.value PySem.Challenge.rw_oc0037_01.row.toRowW.records (.and (.not (.lt (.lit (.int 63)) (.len (.arg 0)))) (.lit (.bool true))) { args := [.list xs] } = some (.bool ((!decide ((63 : Int) < (xs.length : Int))) && true)) := w_and (w_not (w_lt w_lit (w_len_list (w_arg rfl)))) w_lit
  have h : (match WTm.value PySem.Challenge.rw_oc0037_01.row.toRowW.records (.and (.not (.lt (.lit (.int 63)) (.len (.arg 0)))) (.lit (.bool true))) { args := [.list xs] } with | some (.bool true) => true | _ => false) = true := h
  rw [v] at h
  by_cases hl : (63 : Int) < (xs.length : Int)
  · rw [decide_eq_true hl] at h; cases h
  · omega
theorem walk : Walk0 vw (XL vw []) topK.says PySem.Challenge.rw_oc0037_01.row.toRowW lawDef [] := by
  intro w s₀ s₁ mg mb G Y fa o pm cd doc dV kV ho hd' hcd hD hmg hg args vals as hpre hlay hrd hwl hlo
  have KX := kIn_of Y
  have tp : Tp w mg mb s₁.heap := ⟨KX, topRead_of G.T⟩
  obtain ⟨hsh, hp⟩ := pre_splitW hpre
  obtain ⟨dd, r, rfl, hd1, hd2⟩ := hasAllW_cons (e := .list .int) (es := []) hsh
  obtain rfl := hasAllW_nil hd2
  obtain ⟨xs, rfl, hx⟩ := hasW_list hd1
  obtain ⟨v, vs, as1, as2, rfl, rfl, r1, r2⟩ := readsAllW_cons_inv hrd
  obtain ⟨rfl, rfl⟩ := readsAllW_nil_inv r2
  obtain ⟨a, us, as', rfl, hl, ri, rfl⟩ := readsW_list_inv r1
  obtain ⟨ns, hi, hn⟩ := ints_of ri hx
  have hlen := pre_len hp
  have h158 : mg lawDef.name = some (.ref 158) := mg_of KX G.T.g (by kernel_rfl!)
  rw [h158] at hmg
  cases hmg
  obtain ⟨h, g, d, t, os⟩ := s₁
  refine (law_call (E := fun _ _ => False) (us := us.toList) (ns := ns) tp (by simpa using hl) hi (by omega)).mono (fun v s' hq => ?_) (fun _ _ x => x.elim)
  obtain ⟨rfl, h', t', rfl, kp⟩ := hq
  refine ⟨.inl ⟨.bool true, .bool true, [], rfl, fun cls => ?_, ReadsW.bool true, ?_, fun _ => ⟨List.nodup_nil, fun _ hm => by cases hm⟩⟩, .of_keep kp, rfl, AllBare.of_eq hg⟩
  · rfl
  · refine Bool.and_eq_true_iff.mpr ⟨by show WShape.has PySem.Challenge.rw_oc0037_01.row.toRowW.records (.bool true) .bool = true; simp [WShape.has, WShape.arms], ?_⟩
    have v : WTm.value PySem.Challenge.rw_oc0037_01.row.toRowW.records (.eq .res (.lit (.bool true))) { args := [.list xs], res := some (.bool true), after := [.list xs] } = some (.bool (true == true)) := w_eq_bool (w_res rfl) w_lit
    show (match WTm.value PySem.Challenge.rw_oc0037_01.row.toRowW.records (.eq .res (.lit (.bool true))) { args := [.list xs], res := some (.bool true), after := [.list xs] } with | some (.bool true) => true | _ => false) = true
    rw [v]; rfl
theorem holds : PySem.Challenge.rw_oc0037_01.Holds := hdz walk

end Mine
theorem PySem.Challenge.cw_oc0037_01_holds : PySem.Challenge.rw_oc0037_01.Holds := by
  exact Mine.holds
