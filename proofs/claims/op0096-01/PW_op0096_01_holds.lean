import PyProof.Rows.All
import Wide.All
import OpenK.AllK
import Wide.FinOn
import PySem.Challenge.RW_op0096_01
set_option Elab.async false
section
open PySem PySem.W PyProof.Rows
set_option maxRecDepth 100000
set_option maxHeartbeats 8000000
namespace Mine
open_top hd for PySem.Challenge.rw_op0096_01
end Mine
end
section
open PySem PySem.W PySem.Calls PyProof.Rows
set_option maxRecDepth 100000
set_option maxHeartbeats 4000000
namespace Mine

noncomputable abbrev Pg : Program := PySem.Challenge.rw_op0096_01.row.prog

noncomputable abbrev Sub (B h : Heap) : Prop := ∀ b o, B.get? b = some o → h.get? b = some o
noncomputable abbrev KeepM (M : List Addr) (h h' : Heap) : Prop := ∀ b o, b ∉ M → h.get? b = some o → h'.get? b = some o

theorem KeepM.trans {M : List Addr} {h₁ h₂ h₃ : Heap} (x : KeepM M h₁ h₂) (y : KeepM M h₂ h₃) : KeepM M h₁ h₃ := fun b o hb e => y b o hb (x b o hb e)
theorem KeepM.of_same {l : Addr} {h h' : Heap} (hs : Heap.SameBut l h h') : KeepM [l] h h' := fun b o hb e => (hs.2 b (fun q => hb (by simp [q]))).trans e
theorem KeepM.of_sub {M : List Addr} {h h' : Heap} (hs : Sub h h') : KeepM M h h' := fun b o _ e => hs b o e
theorem Sub.push (h : Heap) (o : Obj) : Sub h (h.push o) := fun _ _ e => Heap.get?_push_of_some o e
theorem Sub.trans {h₁ h₂ h₃ : Heap} (x : Sub h₁ h₂) (y : Sub h₂ h₃) : Sub h₁ h₃ := fun b o e => y b o (x b o e)
theorem Sub.refl (h : Heap) : Sub h h := fun _ _ e => e

/-- what stands at the start of the call -/
structure Cx (w : World) (mg mb : Str → Option Value) (B : Heap) : Prop where
  K : (hd.heap_39 w.params).In B
  g : B.Ns mainGlobals mg
  b : B.Ns builtinsNs mb
  builtins : ∀ x : Str, x ≠ "__name__" → mb x = bootBuiltins x
  nolimit : B.NoLimit

noncomputable def gEntries (P : Params) : Array DictEntry := match (hd.heap_39 P).lookup 3 with
  | some ⟨_, _, .dict es _, _⟩ => es
  | _ => #[]

section
variable {w : World} {mg mb : Str → Option Value} {B : Heap}
theorem Cx.mgEq (C : Cx w mg mb B) (x : Str) : mg x = nsFind (gEntries w.params) x := by
  obtain ⟨o, es, ep, ho, hd, _, hf⟩ := C.g
  have h3 : B.get? mainGlobals = some _ := C.K 3 _ rfl
  rw [ho] at h3
  cases h3
  cases hd
  exact (hf x).symm

variable {A : Around} {E : Value → Shared → Prop} {s : Shared}

/-- the state s with another heap and another count of marks -/
noncomputable abbrev St (s : Shared) (h : Heap) (t : Nat) : Shared := ⟨h, s.gens, s.drawn, t, s.os⟩

/-- a frame: L its names; of the heap r all is kept but L and the lists M; s₀ says what else the state holds -/
structure FS (B : Heap) (M : List Addr) (s₀ : Shared) (r : Heap) (L : Addr) (h : Heap) (m : Str → Option Value) : Prop where
  ns : h.Ns L m
  base : Sub B h
  keep : ∀ b o, b ∉ M → b ≠ L → r.get? b = some o → h.get? b = some o
  bm : ∀ b ∈ M, B.get? b = none
  bl : B.get? L = none
  mex : ∀ b ∈ M, (h.get? b).isSome = true

theorem FS.start {M : List Addr} {s₀ : Shared} {h : Heap} {m : Str → Option Value} (F : Fr s₀.heap s₀.heap.objs.size h m) (k : Sub B s₀.heap) (hm : ∀ b ∈ M, B.get? b = none ∧ (s₀.heap.get? b).isSome = true) : FS B M s₀ s₀.heap s₀.heap.objs.size h m := by
  refine ⟨F.ns, fun b o e => F.keep b o (k b o e), fun b o _ _ e => F.keep b o e, fun b hb => (hm b hb).1, ?_, fun b hb => ?_⟩
  · cases e : B.get? s₀.heap.objs.size with
    | none => rfl
    | some o => exact absurd (Heap.lt_size (k _ _ e)) (Nat.lt_irrefl _)
  · obtain ⟨o, ho⟩ := Option.isSome_iff_exists.mp (hm b hb).2
    rw [F.keep _ _ ho]; rfl

theorem call_fn {f c : Addr} {o oc : Obj} {name : Str} {params : Arguments} {body : List Stmt} {scope : Scope} {pm doc : Value} {vals : List Value} (binds : List (Str × Value)) (M : List Addr)
    {vsc : Array Value} {tc : Tok} {Q : Value → Shared → Prop}
    (C : Cx w mg mb B) (k : Sub B s.heap) (hroom : A.depth < recursionLimit)
    (ho : (hd.heap_39 w.params).lookup f = some o) (hdat : o.data = .func (docDef name params body scope pm (.ref c) doc))
    (hoc : (hd.heap_39 w.params).lookup c = some oc) (hdc : oc.data = .fields vsc) (hq : vsc[1]? = some (.str name tc))
    (hbind : bindArgs (docDef name params body scope pm (.ref c) doc) ⟨vals, []⟩ = pure binds)
    (hloc : ∀ x ∈ binds, scope.names.lookup x.1 = some .local) (hM : ∀ b ∈ M, B.get? b = none ∧ (s.heap.get? b).isSome = true)
    (h : ∀ h₁ t, FS B M s s.heap s.heap.objs.size h₁ (fun x => binds.reverse.lookup x) → Sub s.heap h₁ →
      wpAny (model Pg w) (A.deeper (envOf name scope s.heap.objs.size f (.ref c))) (execs body (envOf name scope s.heap.objs.size f (.ref c)))
        (fun fl s' => Q (match fl with | .ret v => v | _ => .none) s') (fun _ _ => False)
        (St s h₁ t))
    (hco : scope.isCoroutine = false := by rfl) (hgen : scope.isGenerator = false := by rfl) (hk : scope.kind = .function := by rfl)
    (hcell : ∀ x ∈ scope.names, x.2 ≠ .cell := by decide) :
    wpAny (model Pg w) A (call (.ref f) vals) Q E s :=
  wpAny_call (call_plain_ret hroom (k _ _ (C.K _ _ ho)) hdat (C.nolimit.keeps k) ⟨c, oc, vsc, tc, rfl, k _ _ (C.K _ _ hoc), hdc, hq⟩ hbind hloc (fun h₁ F₁ => h h₁ _ (FS.start F₁ k hM) F₁.keep) hco hgen hk hcell)

variable {M : List Addr} {s₀ : Shared} {r h h' : Heap} {t : Nat} {L : Addr} {m m' : Str → Option Value}
theorem FS.set (F : FS B M s₀ r L h m) (hn : h'.Ns L m') (hs : Heap.SameBut L h h') : FS B M s₀ r L h' m' := by
  refine ⟨hn, fun b o e => (hs.2 b (fun q => by rw [q, F.bl] at e; cases e)).trans (F.base b o e),
    fun b o hb hL e => (hs.2 b hL).trans (F.keep b o hb hL e), F.bm, F.bl, fun b hb => ?_⟩
  by_cases q : b = L
  · obtain ⟨o, _, _, ho, _⟩ := hn
    rw [q, ho]; rfl
  · rw [hs.2 b q]; exact F.mex b hb
/-- what a call from r keeps -/
theorem FS.kp (F : FS B M s₀ r r.objs.size h m) : KeepM M r h := fun b o hb e => F.keep b o hb (Nat.ne_of_lt (Heap.lt_size e)) e
theorem FS.fresh (F : FS B M s₀ r L h m) {l : Addr} (hl : h.get? l = none) : r.get? l = none ∧ B.get? l = none ∧ l ≠ L := by
  have h1 : l ≠ L := fun q => by obtain ⟨o, _, _, ho, _⟩ := F.ns; rw [← q, hl] at ho; cases ho
  have h2 : l ∉ M := fun q => by have := F.mex l q; rw [hl] at this; cases this
  refine ⟨?_, ?_, h1⟩
  · cases e : r.get? l with
    | none => rfl
    | some o => rw [F.keep l o h2 h1 e] at hl; cases hl
  · cases e : B.get? l with
    | none => rfl
    | some o => rw [F.base l o e] at hl; cases hl
theorem FS.notM (F : FS B M s₀ r L h m) {l : Addr} (hl : h.get? l = none) : l ∉ M := fun q => by have := F.mex l q; rw [hl] at this; cases this
theorem FS.grow (F : FS B M s₀ r L h m) (hs : Sub h h') : FS B M s₀ r L h' m :=
  ⟨F.ns.keeps hs, fun b o e => hs _ _ (F.base b o e), fun b o hb hL e => hs _ _ (F.keep b o hb hL e), F.bm, F.bl, fun b hb => by
    obtain ⟨o, ho⟩ := Option.isSome_iff_exists.mp (F.mex b hb)
    rw [hs _ _ ho]; rfl⟩
theorem FS.push (F : FS B M s₀ r L h m) (o : Obj) : FS B M s₀ r L (h.push o) m := F.grow (Sub.push h o)
/-- a callee or a built-in changed the objects of M' alone -/
theorem FS.step {M' : List Addr} (F : FS B M s₀ r L h m) (hk : KeepM M' h h') (hL : L ∉ M') (hB : ∀ b ∈ M', B.get? b = none) (hM : ∀ b ∈ M', b ∈ M ∨ r.get? b = none) (hex : ∀ b ∈ M', b ∈ M → (h'.get? b).isSome = true) : FS B M s₀ r L h' m := by
  refine ⟨?_, fun b o e => hk b o (fun q => by rw [hB b q] at e; cases e) (F.base b o e), fun b o hb hbL e => hk b o (fun q => ?_) (F.keep b o hb hbL e), F.bm, F.bl, fun b hb => ?_⟩
  · obtain ⟨o, es, ep, e, r⟩ := F.ns
    exact ⟨o, es, ep, hk _ _ hL e, r⟩
  · rcases hM b q with q | q
    · exact hb q
    · rw [q] at e; cases e
  · by_cases q : b ∈ M'
    · exact hex b q hb
    · obtain ⟨o, ho⟩ := Option.isSome_iff_exists.mp (F.mex b hb)
      rw [hk _ _ q ho]; rfl
/-- from here on another reference and other lists -/
theorem FS.rebase {M' : List Addr} (F : FS B M s₀ r L h m) (hM : ∀ b ∈ M', B.get? b = none ∧ (h.get? b).isSome = true) : FS B M' s₀ h L h m :=
  ⟨F.ns, F.base, fun _ _ _ _ e => e, fun b hb => (hM b hb).1, F.bl, fun b hb => (hM b hb).2⟩
/-- back to the elder reference -/
theorem FS.back {M' : List Addr} (F : FS B M s₀ r L h m) (G : FS B M' s₀ h L h' m') (hM : ∀ b ∈ M', b ∈ M ∨ r.get? b = none) : FS B M s₀ r L h' m' := by
  refine ⟨G.ns, G.base, fun b o hb hL e => G.keep b o (fun q => ?_) hL (F.keep b o hb hL e), F.bm, F.bl, fun b hb => ?_⟩
  · rcases hM b q with q | q
    · exact hb q
    · rw [q] at e; cases e
  · by_cases q : b ∈ M'
    · exact G.mex b q
    · by_cases qL : b = L
      · obtain ⟨o, _, _, ho, _⟩ := G.ns
        rw [qL, ho]; rfl
      · obtain ⟨o, ho⟩ := Option.isSome_iff_exists.mp (F.mex b hb)
        rw [G.keep _ _ q qL ho]; rfl

theorem ns_ne_list {l : Addr} {its : Array Value} (hn : h.Ns L m) (hl : h.IsList l its) : L ≠ l := by
  rintro rfl
  obtain ⟨o, es, ep, e, d, _⟩ := hn
  obtain ⟨o', e', _, n, d'⟩ := hl
  rw [e] at e'; cases e'; rw [d] at d'; cases d'

variable {name : Str} {scope : Scope} {a : Addr} {cd : Value}
theorem ldm {x : Str} {pos : Pos} {v : Value} {Q : Value → Shared → Prop} (F : FS B M s₀ r L s.heap m) (hv : m x = some v) (h : Q v s)
    (hk : scope.kind = .function := by rfl) (hl : (envOf name scope L a cd).kindOf x = some .local := by rfl)
    (hd : (x == ("__debug__" : Str)) = false := by decide) :
    wpAny (model Pg w) A (eval (.Name x pos) (envOf name scope L a cd)) Q E s := wpAny_Name (wpAny_loadName_local hk hl F.ns hv h) hd
theorem stm {x : Str} {v : Value} {Q : Unit → Shared → Prop} (F : FS B M s₀ r L h m)
    (hQ : ∀ h' t', FS B M s₀ r L h' (fun y => if y = x then some v else m y) → Heap.SameBut L h h' → Q () (St s₀ h' t'))
    (hst : s = St s₀ h s.toks := by rfl)
    (hk : scope.kind = .function := by rfl) (hl : (envOf name scope L a cd).kindOf x = some .local := by rfl) :
    wpAny (model Pg w) A (storeName (envOf name scope L a cd) x v) Q E s := by
  obtain ⟨h1, g1, d1, t1, o1⟩ := s
  cases hst
  exact wpAny_storeName_local hl F.ns (fun h' hn hs => hQ h' _ (F.set hn hs) hs)
    (by show (scope.kind == .class || (scope.kind == .module && L != mainGlobals)) = false; rw [hk]; rfl)
theorem ldg {x : Str} {pos : Pos} {v : Value} {Q : Value → Shared → Prop} (C : Cx w mg mb B) (F : FS B M s₀ r L s.heap m) (hv : nsFind (gEntries w.params) x = some v) (h : Q v s)
    (hk : scope.kind = .function := by rfl) (hx : (envOf name scope L a cd).kindOf x = some .globalImplicit := by rfl)
    (hd : (x == ("__debug__" : Str)) = false := by decide) : wpAny (model Pg w) A (eval (.Name x pos) (envOf name scope L a cd)) Q E s :=
  Name_function_global hk hx (loadGlobal_global (env := envOf name scope L a cd) (C.g.keeps F.base) ((C.mgEq x).trans hv) h) hd
theorem ldb {x : Str} {pos : Pos} {v : Value} {Q : Value → Shared → Prop} (C : Cx w mg mb B) (F : FS B M s₀ r L s.heap m) (hn : nsFind (gEntries w.params) x = none) (hv : bootBuiltins x = some v) (h : Q v s)
    (hx' : x ≠ "__name__" := by decide)
    (hk : scope.kind = .function := by rfl) (hx : (envOf name scope L a cd).kindOf x = some .globalImplicit := by rfl)
    (hd : (x == ("__debug__" : Str)) = false := by decide) : wpAny (model Pg w) A (eval (.Name x pos) (envOf name scope L a cd)) Q E s :=
  Name_function_global hk hx (loadGlobal_builtin (env := envOf name scope L a cd) (C.g.keeps F.base) ((C.mgEq x).trans hn) (C.b.keeps F.base) ((C.builtins x hx').trans hv) h) hd
end

section
variable {w : World} {mg mb : Str → Option Value} {B : Heap} {A : Around} {E : Value → Shared → Prop} {s : Shared} {env : Env}
/-- f(e, ..): the arguments, then the call of the text's own def at f -/
theorem callF {pos : Pos} {f : Addr} {o : Obj} {fd : FuncData} {e : Expr} {rest : List Expr} {Q : Value → Shared → Prop} (C : Cx w mg mb B) (ho : (hd.heap_39 w.params).lookup f = some o) (hdat : o.data = .func fd)
    (h : wpAny (model Pg w) A (spliced (backTo pos (starEach (e :: rest) env))) (fun vs s₁ => Sub B s₁.heap ∧ wpAny (model Pg w) A (call (.ref f) vs) Q E s₁) E s)
    (he : starEach (e :: rest) env = (false, eval e env) :: starEach rest env := by rfl) :
    wpAny (model Pg w) A (callWith pos (.ref f) [] (backTo pos (starEach (e :: rest) env)) []) Q E s :=
  callWith_def hdat (wpAny_mono h (fun _ _ g => ⟨g.1 _ _ (C.K _ _ ho), g.2⟩) fun _ _ x => x) he
end

-- the globals' names
section
variable (P : Params)
theorem g_heappush : nsFind (gEntries P) "heappush" = some (.ref 57) := by rfl
theorem g_siftdown : nsFind (gEntries P) "_siftdown" = some (.ref 71) := by rfl
theorem g_siftup : nsFind (gEntries P) "_siftup" = some (.ref 78) := by rfl
theorem g_heappop : nsFind (gEntries P) "heappop" = some (.ref 64) := by rfl
theorem g_IPV4 : nsFind (gEntries P) "IPV4_RE" = some (.ref 36) := by rfl
theorem g_isHDN : nsFind (gEntries P) "is_HDN" = some (.ref 43) := by rfl
theorem g_reach : nsFind (gEntries P) "reach" = some (.ref 50) := by rfl
theorem g_filemode : nsFind (gEntries P) "filemode" = some (.ref 125) := by rfl
theorem g_law_rows : nsFind (gEntries P) "_law_rows" = some (.ref 132) := by rfl
theorem g_law_goes_on : nsFind (gEntries P) "_law_goes_on" = some (.ref 139) := by rfl
theorem g_law_signs : nsFind (gEntries P) "_law_signs" = some (.ref 144) := by rfl
theorem g_law_due : nsFind (gEntries P) "_law_due" = some (.ref 149) := by rfl
theorem g_S_IFMT : nsFind (gEntries P) "S_IFMT" = some (.ref 85) := by rfl
theorem g_filemode_table : nsFind (gEntries P) "_filemode_table" = some (.ref 118) := by rfl
theorem g_no_range : nsFind (gEntries P) "range" = none := by rfl
theorem g_no_sorted : nsFind (gEntries P) "sorted" = none := by rfl
theorem g_no_enumerate : nsFind (gEntries P) "enumerate" = none := by rfl
theorem g_len : nsFind (gEntries P) "len" = none := by rfl
end
end Mine
end
section
open PySem PySem.W PySem.Calls PyProof.Rows
set_option maxRecDepth 100000
set_option maxHeartbeats 4000000
namespace Mine

/-- labels' number below nought, host, mode -/
noncomputable abbrev It := Int × Str × Int
noncomputable def slt (a b : Str) : Bool := decide (a.cps.toList < b.cps.toList)
noncomputable def ilt (x y : It) : Bool := decide (x.1 < y.1) || (x.1 == y.1 && (slt x.2.1 y.2.1 || (x.2.1 == y.2.1 && decide (x.2.2 < y.2.2))))

theorem str_ext {a b : Str} (h : a.cps.toList = b.cps.toList) : a = b := by
  cases a; cases b; simp at h; simp [h]
theorem slt_irrefl (a : Str) : slt a a = false := by simp [slt, List.lt_irrefl]
theorem slt_trans {a b c : Str} (h : slt a b = true) (g : slt b c = true) : slt a c = true := by
  simp only [slt, decide_eq_true_eq] at *; exact List.lt_trans h g
theorem slt_tri (a b : Str) : slt a b = true ∨ a = b ∨ slt b a = true := by
  simp only [slt, decide_eq_true_eq]
  by_cases h : a.cps.toList < b.cps.toList
  · exact .inl h
  · by_cases g : b.cps.toList < a.cps.toList
    · exact .inr (.inr g)
    · exact .inr (.inl (str_ext (List.le_antisymm (List.not_lt.mp g) (List.not_lt.mp h))))

theorem ilt_iff (x y : It) : ilt x y = true ↔ x.1 < y.1 ∨ (x.1 = y.1 ∧ (slt x.2.1 y.2.1 = true ∨ (x.2.1 = y.2.1 ∧ x.2.2 < y.2.2))) := by
  simp [ilt]
theorem ilt_irrefl (x : It) : ilt x x = false := by
  cases h : ilt x x with
  | false => rfl
  | true =>
    rw [ilt_iff, slt_irrefl] at h
    rcases h with h | ⟨_, h | ⟨_, h⟩⟩
    · omega
    · cases h
    · omega
theorem ilt_trans {x y z : It} (h : ilt x y = true) (g : ilt y z = true) : ilt x z = true := by
  rw [ilt_iff] at *
  rcases h with h | ⟨e, h⟩
  · rcases g with g | ⟨e', g⟩
    · exact .inl (by omega)
    · exact .inl (by omega)
  · rcases g with g | ⟨e', g⟩
    · exact .inl (by omega)
    · refine .inr ⟨by omega, ?_⟩
      rcases h with h | ⟨i, h⟩
      · rcases g with g | ⟨j, g⟩
        · exact .inl (slt_trans h g)
        · exact .inl (j ▸ h)
      · rcases g with g | ⟨j, g⟩
        · exact .inl (i ▸ g)
        · exact .inr ⟨i.trans j, by omega⟩
theorem ilt_tri (x y : It) : ilt x y = true ∨ x = y ∨ ilt y x = true := by
  simp only [ilt_iff]
  obtain ⟨a, b, c⟩ := x
  obtain ⟨d, e, f⟩ := y
  simp only [Prod.mk.injEq]
  by_cases h1 : a < d
  · exact .inl (.inl h1)
  · by_cases h2 : d < a
    · exact .inr (.inr (.inl h2))
    · have h3 : a = d := by omega
      rcases slt_tri b e with h | h | h
      · exact .inl (.inr ⟨h3, .inl h⟩)
      · by_cases h4 : c < f
        · exact .inl (.inr ⟨h3, .inr ⟨h, h4⟩⟩)
        · by_cases h5 : f < c
          · exact .inr (.inr (.inr ⟨h3.symm, .inr ⟨h.symm, h5⟩⟩))
          · exact .inr (.inl ⟨h3, h, by omega⟩)
      · exact .inr (.inr (.inr ⟨h3.symm, .inl h⟩))
theorem ilt_asymm {x y : It} (h : ilt x y = true) : ilt y x = false := by
  cases g : ilt y x with
  | false => rfl
  | true => have := ilt_trans h g; rw [ilt_irrefl] at this; cases this
/-- not less is transitive -/
theorem nlt_trans {x y z : It} (h : ilt y x = false) (g : ilt z y = false) : ilt z x = false := by
  cases k : ilt z x with
  | false => rfl
  | true =>
    rcases ilt_tri x y with q | q | q
    · rw [ilt_trans k q] at g; cases g
    · subst q; rw [k] at g; cases g
    · rw [q] at h; cases h
theorem nlt_antisymm {x y : It} (h : ilt y x = false) (g : ilt x y = false) : x = y := by
  rcases ilt_tri x y with q | q | q
  · rw [q] at g; cases g
  · exact q
  · rw [q] at h; cases h

noncomputable abbrev tupO (vs : List Value) : Obj := { cls := .type "tuple", data := .seq vs.toArray }
noncomputable def ItemAt (h : Heap) (v : Value) (x : It) : Prop := ∃ a t1 t2 t3, v = .ref a ∧ h.get? a = some (tupO [.int x.1 t1, .str x.2.1 t2, .int x.2.2 t3])
theorem ItemAt.sub {h h' : Heap} {v : Value} {x : It} (i : ItemAt h v x) (k : Sub h h') : ItemAt h' v x :=
  let ⟨a, t1, t2, t3, e, g⟩ := i; ⟨a, t1, t2, t3, e, k _ _ g⟩

/-- no list among the changed ones is a tuple -/
theorem ItemAt.keepM {M : List Addr} {h h' : Heap} {v : Value} {x : It} (i : ItemAt h v x) (k : KeepM M h h') (hM : ∀ b ∈ M, ∃ its, h.IsList b its) : ItemAt h' v x := by
  obtain ⟨a, t1, t2, t3, e, g⟩ := i
  refine ⟨a, t1, t2, t3, e, k _ _ (fun q => ?_) g⟩
  obtain ⟨its, o, ho, hc, _⟩ := hM a q
  rw [g] at ho; cases ho; simp at hc

theorem ItemAt.inj {h : Heap} {v : Value} {x y : It} (i : ItemAt h v x) (j : ItemAt h v y) : x = y := by
  obtain ⟨a, t1, t2, t3, rfl, g⟩ := i
  obtain ⟨a', _, _, _, e, g'⟩ := j
  cases e
  rw [g] at g'
  simp only [Option.some.injEq, Obj.mk.injEq, Data.seq.injEq] at g'
  have := g'.2.2.1.1
  simp at this
  obtain ⟨p, q, r⟩ := this
  exact Prod.ext p.1 (Prod.ext q.1 r.1)

section
variable {w : World} {A : Around} {E : Value → Shared → Prop} {s : Shared}
theorem tuple_lt_tree {a b : Addr} {x y : It} {t1 t2 t3 u1 u2 u3 : Tok} {R : Fin → Shared → Prop}
    (ha : s.heap.get? a = some (tupO [.int x.1 t1, .str x.2.1 t2, .int x.2.2 t3])) (hb : s.heap.get? b = some (tupO [.int y.1 u1, .str y.2.1 u2, .int y.2.2 u3]))
    (h : R (.done (.ret (.bool (ilt x y)))) s) : wpAny (model Pg w) A (Builtin.«tuple.__lt__» ⟨[.ref a, .ref b], []⟩) R E s := by
  show wpAny _ _ (isInstance (.ref b) (.type "tuple") >>= _) _ _ s
  refine wpAny_bind (wpAny_isInstance (T := "tuple") ⟨_, hb, rfl⟩ isSubtype_tuple_tuple ?_)
  simp only [Bool.not_true, Bool.false_eq_true, if_false]
  refine wpAny_bind (wpAny_tupleItemsOf ha rfl ?_)
  refine wpAny_bind (wpAny_tupleItemsOf hb rfl ?_)
  refine wpAny_bind ?_
  simp only [List.zip_cons_cons, List.zip_nil_right, List.forIn_cons, List.forIn_nil]
  refine wpAny_bind (wpAny_bind (wpAny_eqBool_int ?_))
  by_cases e1 : x.1 = y.1
  · have e1' : (x.1 == y.1) = true := by simp [e1]
    rw [e1']
    simp only [Bool.not_true, Bool.false_eq_true, if_false]
    refine wpAny_pure ?_
    refine wpAny_bind (wpAny_bind (eqBool_str ?_))
    by_cases e2 : x.2.1 = y.2.1
    · have e2' : (x.2.1 == y.2.1) = true := by simp [e2]
      rw [e2']
      simp only [Bool.not_true, Bool.false_eq_true, if_false]
      refine wpAny_pure ?_
      refine wpAny_bind (wpAny_bind (wpAny_eqBool_int ?_))
      by_cases e3 : x.2.2 = y.2.2
      · have e3' : (x.2.2 == y.2.2) = true := by simp [e3]
        rw [e3']
        simp only [Bool.not_true, Bool.false_eq_true, if_false]
        refine wpAny_pure (wpAny_pure (wpAny_pure ?_))
        have : ilt x y = false := by
          rw [show x = y from Prod.ext e1 (Prod.ext e2 e3)]; exact ilt_irrefl _
        rw [this] at h
        exact h
      · have e3' : (x.2.2 == y.2.2) = false := by simp [e3]
        rw [e3']
        simp only [Bool.not_false, if_true]
        refine wpAny_bind (wpAny_rule (wpAny_bind (wpAny_lt_int ?_)))
        have : ilt x y = decide (x.2.2 < y.2.2) := by simp [ilt, e1, e2, slt_irrefl]
        rw [this] at h
        exact wpAny_bind (wpAny_pure (wpAny_pure (wpAny_pure (wpAny_pure h))))
    · have e2' : (x.2.1 == y.2.1) = false := by simp [e2]
      rw [e2']
      simp only [Bool.not_false, if_true]
      refine wpAny_bind (wpAny_rule (wpAny_bind (P.lt_str ?_)))
      have : ilt x y = slt x.2.1 y.2.1 := by simp [ilt, e1, e2]
      rw [this] at h
      exact wpAny_bind (wpAny_pure (wpAny_pure (wpAny_pure (wpAny_pure h))))
  · have e1' : (x.1 == y.1) = false := by simp [e1]
    rw [e1']
    simp only [Bool.not_false, if_true]
    refine wpAny_bind (wpAny_rule (wpAny_bind (wpAny_lt_int ?_)))
    have : ilt x y = decide (x.1 < y.1) := by simp [ilt, e1]
    rw [this] at h
    exact wpAny_bind (wpAny_pure (wpAny_pure (wpAny_pure (wpAny_pure h))))

theorem lt_item {v u : Value} {x y : It} {Q : Value → Shared → Prop} (hu : A.units < cLine) (hv : ItemAt s.heap v x) (hw : ItemAt s.heap u y)
    (h : Q (.bool (ilt x y)) s) : wpAny (model Pg w) A (compareOp .Lt v u) Q E s := by
  obtain ⟨a, t1, t2, t3, rfl, ga⟩ := hv
  obtain ⟨b, u1, u2, u3, rfl, gb⟩ := hw
  show wpAny _ _ (richCompare .Lt (.ref a) (.ref b)) Q E s
  exact wpAny_richCompare_same_room (op := .Lt) (T := "tuple") ⟨_, ga, rfl⟩ ⟨_, gb, rfl⟩ F.slot_tuple_lt
    (wpAny_call_entry F.slot_tuple_lt ⟨_, ga, rfl⟩ F.entry_tuple_lt (tuple_lt_tree ga gb ⟨_, rfl, (fun e => nomatch e), h⟩) (F.args_tuple_lt_2 _ _)) hu
end
end Mine
end
section
open PySem PySem.W PySem.Calls PyProof.Rows
set_option maxRecDepth 100000
set_option maxHeartbeats 4000000
namespace Mine

/-- the key at a place -/
noncomputable abbrev ga (κ : Value → It) (z : List Value) (i : Nat) : It := κ (z.getD i .none)

noncomputable def IsHp (κ : Value → It) (z : List Value) : Prop := ∀ c, 0 < c → c < z.length → ilt (ga κ z c) (ga κ z ((c - 1) / 2)) = false

/-- all is well but at p's edge upward -/
structure SD (κ : Value → It) (z : List Value) (p : Nat) : Prop where
  lt : p < z.length
  edge : ∀ c, 0 < c → c < z.length → c ≠ p → ilt (ga κ z c) (ga κ z ((c - 1) / 2)) = false
  grand : 0 < p → ∀ c, 0 < c → c < z.length → (c - 1) / 2 = p → ilt (ga κ z c) (ga κ z ((p - 1) / 2)) = false

/-- all is well but at p's edges -/
structure SU (κ : Value → It) (z : List Value) (p : Nat) : Prop where
  lt : p < z.length
  edge : ∀ c, 0 < c → c < z.length → c ≠ p → (c - 1) / 2 ≠ p → ilt (ga κ z c) (ga κ z ((c - 1) / 2)) = false
  grand : 0 < p → ∀ c, 0 < c → c < z.length → (c - 1) / 2 = p → ilt (ga κ z c) (ga κ z ((p - 1) / 2)) = false

theorem getD_set {α : Type} (z : List α) (p i : Nat) (x d : α) (hp : p < z.length) : (z.set p x).getD i d = if i = p then x else z.getD i d := by
  simp only [List.getD_eq_getElem?_getD, List.getElem?_set]
  by_cases h : p = i
  · subst h; simp [hp]
  · have h' : ¬ i = p := fun e => h e.symm
    simp [h, h']

noncomputable abbrev swp (z : List Value) (p q : Nat) : List Value := (z.set p (z.getD q .none)).set q (z.getD p .none)

theorem swp_length (z : List Value) (p q : Nat) : (swp z p q).length = z.length := by simp [swp]
theorem swp_getD (z : List Value) {p q : Nat} (hp : p < z.length) (hq : q < z.length) (i : Nat) :
    (swp z p q).getD i .none = if i = q then z.getD p .none else if i = p then z.getD q .none else z.getD i .none := by
  rw [swp, getD_set _ _ _ _ _ (by simpa using hq), getD_set _ _ _ _ _ hp]
theorem swp_perm (z : List Value) {p q : Nat} (hp : p < z.length) (hq : q < z.length) : (swp z p q).Perm z := by
  have h1 : z.getD q .none = z[q] := by simp [List.getD_eq_getElem?_getD, hq]
  have h2 : z.getD p .none = z[p] := by simp [List.getD_eq_getElem?_getD, hp]
  rw [swp, h1, h2]
  exact List.set_set_perm hp hq

theorem SD.step {κ : Value → It} {z : List Value} {p : Nat} (s : SD κ z p) (h0 : 0 < p) (hlt : ilt (ga κ z p) (ga κ z ((p - 1) / 2)) = true) : SD κ (swp z p ((p - 1) / 2)) ((p - 1) / 2) := by
  have hp := s.lt
  have hq : (p - 1) / 2 < z.length := by omega
  have hne : (p - 1) / 2 ≠ p := by omega
  refine ⟨by rw [swp_length]; exact hq, fun c c0 cl cq => ?_, fun q0 c c0 cl cq => ?_⟩
  · rw [swp_length] at cl
    simp only [ga, swp_getD z hp hq]
    rw [if_neg cq]
    by_cases hc : c = p
    · subst hc
      rw [if_pos rfl, if_pos rfl]
      exact ilt_asymm hlt
    · rw [if_neg hc]
      by_cases h1 : (c - 1) / 2 = (p - 1) / 2
      · rw [if_pos h1]
        exact nlt_trans (ilt_asymm hlt) (by have := s.edge c c0 cl hc; rw [h1] at this; exact this)
      · rw [if_neg h1]
        by_cases h2 : (c - 1) / 2 = p
        · rw [if_pos h2]
          exact s.grand h0 c c0 cl h2
        · rw [if_neg h2]
          exact s.edge c c0 cl hc
  · rw [swp_length] at cl
    simp only [ga, swp_getD z hp hq]
    have e0 : c ≠ (p - 1) / 2 := by omega
    have e1 : ((p - 1) / 2 - 1) / 2 ≠ (p - 1) / 2 := by omega
    have e2 : ((p - 1) / 2 - 1) / 2 ≠ p := by omega
    rw [if_neg e0, if_neg e1, if_neg e2]
    have up := s.edge _ q0 hq hne
    by_cases hc : c = p
    · rw [if_pos hc]; exact up
    · rw [if_neg hc]
      exact nlt_trans up (by have := s.edge c c0 cl hc; rw [cq] at this; exact this)

theorem SD.done {κ : Value → It} {z : List Value} {p : Nat} (s : SD κ z p) (h : p = 0 ∨ ilt (ga κ z p) (ga κ z ((p - 1) / 2)) = false) : IsHp κ z := by
  intro c c0 cl
  by_cases hc : c = p
  · subst hc
    rcases h with h | h
    · omega
    · exact h
  · exact s.edge c c0 cl hc

theorem SU.step {κ : Value → It} {z : List Value} {p c : Nat} (s : SU κ z p) (hc : c = 2 * p + 1 ∨ c = 2 * p + 2) (hcl : c < z.length)
    (hsm : ∀ d, d < z.length → (d = 2 * p + 1 ∨ d = 2 * p + 2) → ilt (ga κ z d) (ga κ z c) = false) : SU κ (swp z p c) c := by
  have hp := s.lt
  have hcp : (c - 1) / 2 = p := by omega
  refine ⟨by rw [swp_length]; exact hcl, fun d d0 dl dc dq => ?_, fun _ e e0 el eq => ?_⟩
  · rw [swp_length] at dl
    simp only [ga, swp_getD z hp hcl]
    rw [if_neg dc, if_neg dq]
    by_cases h1 : d = p
    · subst h1
      rw [if_pos rfl, if_neg (by omega)]
      exact s.grand d0 c (by omega) hcl hcp
    · rw [if_neg h1]
      by_cases h2 : (d - 1) / 2 = p
      · rw [if_pos h2]
        exact hsm d dl (by omega)
      · rw [if_neg h2]
        exact s.edge d d0 dl h1 h2
  · rw [swp_length] at el
    simp only [ga, swp_getD z hp hcl]
    rw [hcp, if_neg (by omega), if_neg (by omega), if_neg (by omega), if_pos rfl]
    have := s.edge e e0 el (by omega) (by omega)
    rw [eq] at this
    exact this

theorem SU.done {κ : Value → It} {z : List Value} {p : Nat} (s : SU κ z p) (h : z.length ≤ 2 * p + 1) : SD κ z p :=
  ⟨s.lt, fun c c0 cl cp => s.edge c c0 cl cp (by omega), fun _ c c0 cl cp => by omega⟩

theorem IsHp.least {κ : Value → It} {z : List Value} (h : IsHp κ z) : ∀ n c, c ≤ n → c < z.length → ilt (ga κ z c) (ga κ z 0) = false := by
  intro n
  induction n with
  | zero => intro c h0 _; rw [show c = 0 by omega]; exact ilt_irrefl _
  | succ n ih =>
    intro c hc cl
    by_cases h0 : c = 0
    · subst h0; exact ilt_irrefl _
    · exact nlt_trans (ih ((c - 1) / 2) (by omega) (by omega)) (h c (by omega) cl)

theorem IsHp.min {κ : Value → It} {z : List Value} (h : IsHp κ z) {v : Value} (hv : v ∈ z) : ilt (κ v) (ga κ z 0) = false := by
  obtain ⟨i, hi, rfl⟩ := List.getElem_of_mem hv
  have := h.least i i (Nat.le_refl _) hi
  rw [ga, List.getD_eq_getElem?_getD, List.getElem?_eq_getElem hi] at this
  exact this

/-- behind append -/
theorem IsHp.appended {κ : Value → It} {z : List Value} (h : IsHp κ z) (x : Value) : SD κ (z ++ [x]) z.length := by
  refine ⟨by simp, fun c c0 cl cz => ?_, fun _ c c0 cl cz => ?_⟩
  · simp at cl
    have e1 : (z ++ [x]).getD c Value.none = z.getD c .none := by
      simp [List.getD_eq_getElem?_getD, List.getElem?_append_left (show c < z.length by omega)]
    have e2 : (z ++ [x]).getD ((c - 1) / 2) Value.none = z.getD ((c - 1) / 2) .none := by
      simp [List.getD_eq_getElem?_getD, List.getElem?_append_left (show (c - 1) / 2 < z.length by omega)]
    rw [ga, ga, e1, e2]
    exact h c c0 (by omega)
  · simp at cl; omega

/-- behind pop and the last one laid at the root -/
theorem IsHp.rooted {κ : Value → It} {z : List Value} (h : IsHp κ z) (x : Value) (h2 : 2 ≤ z.length) : SU κ (z.dropLast.set 0 x) 0 := by
  have hl : z.dropLast.length = z.length - 1 := by simp
  refine ⟨by simp; omega, fun c c0 cl cz cq => ?_, fun q => by omega⟩
  rw [List.length_set, hl] at cl
  have key : ∀ i, i ≠ 0 → i < z.length - 1 → (z.dropLast.set 0 x).getD i Value.none = z.getD i .none := by
    intro i i0 il
    rw [getD_set _ _ _ _ _ (by omega), if_neg i0]
    simp [List.getD_eq_getElem?_getD, il, List.getElem?_eq_getElem (show i < z.length by omega)]
  rw [ga, ga, key c cz cl, key _ cq (by omega)]
  exact h c c0 (by omega)
end Mine
end
section
open PySem PySem.W PySem.Calls PyProof.Rows
set_option maxRecDepth 100000
set_option maxHeartbeats 4000000
namespace Mine
section
variable {w : World} {A : Around} {E : Value → Shared → Prop} {s : Shared}

/-- room for n calls more -/
structure Aok (A : Around) (n : Nat) : Prop where
  hd : A.handled = none
  dp : A.depth + n < 1000
  un : A.units + 6 * n < 9900
theorem Aok.deeper {A : Around} {n : Nat} (h : Aok A (n + 1)) (env : Env) : Aok (A.deeper env) n := ⟨h.hd, by have := h.dp; show A.depth + 1 + n < 1000; omega, by have := h.un; show A.units + 3 + 6 * n < 9900; omega⟩
theorem Aok.room {A : Around} {n : Nat} (h : Aok A n) : A.depth < recursionLimit := by have := h.dp; show A.depth < 1000; omega
theorem Aok.units {A : Around} {n : Nat} (h : Aok A n) : A.units < cLine := by have := h.un; show A.units < 9900; omega
theorem Aok.less {A : Around} {n k : Nat} (h : Aok A n) (hk : k ≤ n) : Aok A k := ⟨h.hd, by have := h.dp; omega, by have := h.un; omega⟩

theorem isL_same {h h' : Heap} {L l : Addr} {its : Array Value} {n : Nat} {m : Str → Option Value} (hl : IsL h l its n) (hn : h.Ns L m) (hs : Heap.SameBut L h h') : IsL h' l its n :=
  (hs.2 l (fun e => ns_ne_list hn hl.isList e.symm)).trans hl

theorem size_line : sizeLine = 16777216 := by decide

/-- xs[i] -/
theorem itemL {value slice : PySem.Expr} {l : Addr} {z : List Value} {n : Nat} {k : Int} {i : Nat} {t : Tok} {x : Value} {Q : Value → Shared → Prop} (hl : IsL s.heap l z.toArray n) (hk : k = i) (hx : z[i]? = some x) (hz : z.length ≤ 1000)
    (h : Q x s) (hs : subscripted slice false (.ref l) (.int k t) = operate [.ref l, .int k t] (getItem (.ref l) (.int k t)) := by with_unfolding_all rfl) :
    wpAny (model Pg w) A (subscriptTail value slice (.ref l) (.int k t)) Q E s := by
  have hi : i < z.length := by
    rcases Nat.lt_or_ge i z.length with q | q
    · exact q
    · rw [List.getElem?_eq_none q] at hx; cases hx
  exact item_listR hl.isList (by omega) (by omega) (by subst hk; simpa using hx) h hs

/-- one list that this call may change has been changed -/
theorem FS.chg {B : Heap} {M : List Addr} {s₀ : Shared} {L l : Addr} {r h h' : Heap} {m : Str → Option Value} {its its' : Array Value} {n n' : Nat} (F : FS B M s₀ r L h m) (hl : IsL h l its n) (hB : B.get? l = none) (hM : l ∈ M ∨ r.get? l = none) (hs : Heap.SameBut l h h') (hl' : IsL h' l its' n') : FS B M s₀ r L h' m :=
  F.step (KeepM.of_same hs) (by simpa using ns_ne_list F.ns hl.isList) (by simpa using hB) (fun b hb => by rw [List.mem_singleton.mp hb]; exact hM) (fun b hb _ => by rw [List.mem_singleton.mp hb, hl']; rfl)

variable {B : Heap} {M : List Addr} {s₀ : Shared} {L : Addr} {r h : Heap} {m : Str → Option Value}
/-- xs[i] = v -/
theorem setItemL {l : Addr} {z : List Value} {n : Nat} {k : Int} {i : Nat} {u : Tok} {v : Value} {Q : Unit → Shared → Prop} (F : FS B M s₀ r L h m) (hl : IsL h l z.toArray n) (hB : B.get? l = none) (hM : l ∈ M ∨ r.get? l = none) (hk : k = i) (hi : i < z.length) (hz : z.length ≤ 1000)
    (hQ : ∀ h' n', FS B M s₀ r L h' m → IsL h' l (List.toArray (z.set i v)) n' → Heap.SameBut l h h' → Q () (St s₀ h' s.toks)) (hst : s = St s₀ h s.toks := by rfl) :
    wpAny (model Pg w) A (setItem (.ref l) (.int k u) v) Q E s := by
  obtain ⟨h1, g1, d1, t1, o1⟩ := s
  cases hst
  subst hk
  have e : z.toArray.setIfInBounds (Int.toNat (i : Int)) v = List.toArray (z.set i v) := by
    apply Array.toList_inj.mp
    simp
  have g := IsL.update hl (fun a => a.setIfInBounds (Int.toNat (i : Int)) v)
  rw [e] at g
  exact ki_setAt hl (by omega) (by omega) (by simpa using hi) (hQ _ _ (F.chg hl hB hM (Heap.SameBut.update ..) g) g (Heap.SameBut.update ..))

/-- xs.append(v) -/
theorem appendL {l : Addr} {z : List Value} {n : Nat} {v : Value} {Q : Value → Shared → Prop} (F : FS B M s₀ r L h m) (hl : IsL h l z.toArray n) (hB : B.get? l = none) (hM : l ∈ M ∨ r.get? l = none) (hz : z.length ≤ 1000)
    (hQ : ∀ h' n', FS B M s₀ r L h' m → IsL h' l (List.toArray (z ++ [v])) n' → Heap.SameBut l h h' → Q .none (St s₀ h' s.toks)) (hst : s = St s₀ h s.toks := by rfl) :
    wpAny (model Pg w) A (call (.builtin "list.append") [.ref l, v]) Q E s := by
  obtain ⟨h1, g1, d1, t1, o1⟩ := s
  cases hst
  have e : z.toArray.push v = List.toArray (z ++ [v]) := by simp
  have g := IsL.update hl (fun a => a.push v)
  rw [e] at g
  exact call_meets PySem.F.slot_list_append ⟨_, hl, rfl⟩ PySem.F.entry_list_append (PySem.F.args_list_append_2 _ _) (list_append l z.toArray n v (by rw [size_line]; simp; omega)) ⟨hl, hQ _ _ (F.chg hl hB hM (Heap.SameBut.update ..) g) g (Heap.SameBut.update ..)⟩

/-- xs.pop() -/
theorem popL {l : Addr} {z : List Value} {n : Nat} {v : Value} {Q : Value → Shared → Prop} (F : FS B M s₀ r L h m) (hl : IsL h l (List.toArray (z ++ [v])) n) (hB : B.get? l = none) (hM : l ∈ M ∨ r.get? l = none) (hz : z.length ≤ 1000)
    (hQ : ∀ h' n', FS B M s₀ r L h' m → IsL h' l z.toArray n' → Heap.SameBut l h h' → Q v (St s₀ h' s.toks)) (hst : s = St s₀ h s.toks := by rfl) :
    wpAny (model Pg w) A (call (.builtin "list.pop") [.ref l]) Q E s := by
  obtain ⟨h1, g1, d1, t1, o1⟩ := s
  cases hst
  have e : (List.toArray (z ++ [v])).eraseIdxIfInBounds ((List.toArray (z ++ [v])).size - 1) = z.toArray := by
    apply Array.toList_inj.mp
    simp [Array.eraseIdxIfInBounds]
    rw [List.eraseIdx_append_of_length_le (by simp)]
    simp
  have g := IsL.update hl (fun a => a.eraseIdxIfInBounds ((List.toArray (z ++ [v])).size - 1))
  rw [e] at g
  exact call_meets PySem.F.slot_list_pop ⟨_, hl, rfl⟩ PySem.F.entry_list_pop (PySem.F.args_list_pop_1 _) (MeetsSeq.list_pop_last l (List.toArray (z ++ [v])) n v (by simp) (by rw [size_line]; simp; omega)) ⟨hl, hQ _ _ (F.chg hl hB hM (Heap.SameBut.update ..) g) g (Heap.SameBut.update ..)⟩

/-- a new list, a new tuple -/
theorem newL {vs : List Value} {Q : Value → Shared → Prop} (F : FS B M s₀ r L h m) (hz : vs.length ≤ 1000)
    (hQ : ∀ l h', FS B M s₀ r L h' m → IsL h' l vs.toArray 0 → Sub h h' → h.get? l = none → B.get? l = none → r.get? l = none → l ≠ L → Q (.ref l) (St s₀ h' s.toks)) (hst : s = St s₀ h s.toks := by rfl) : wpAny (model Pg w) A (newList vs) Q E s := by
  obtain ⟨h1, g1, d1, t1, o1⟩ := s
  cases hst
  exact wpAny_newObj_type (hQ _ _ (F.push _) (Heap.get?_push_size _ rfl) (Sub.push _ _) (Heap.get?_none_of_le (Nat.le_refl _)) (F.fresh (Heap.get?_none_of_le (Nat.le_refl _))).2.1 (F.fresh (Heap.get?_none_of_le (Nat.le_refl _))).1 (F.fresh (Heap.get?_none_of_le (Nat.le_refl _))).2.2) (by show vs.toArray.size ≤ sizeLine; rw [size_line]; simp; omega)
theorem newT {vs : List Value} {Q : Value → Shared → Prop} (F : FS B M s₀ r L h m) (hz : vs.length ≤ 1000)
    (hQ : ∀ l h', FS B M s₀ r L h' m → h'.get? l = some (tupO vs) → Sub h h' → h.get? l = none → Q (.ref l) (St s₀ h' s.toks)) (hst : s = St s₀ h s.toks := by rfl) : wpAny (model Pg w) A (newTuple vs) Q E s := by
  obtain ⟨h1, g1, d1, t1, o1⟩ := s
  cases hst
  exact wpAny_newObj_type (hQ _ _ (F.push _) (Heap.get?_push_size _ rfl) (Sub.push _ _) (Heap.get?_none_of_le (Nat.le_refl _))) (by show vs.toArray.size ≤ sizeLine; rw [size_line]; simp; omega)

theorem methL {l : Addr} {z : Array Value} {n : Nat} {name : Str} {id : String} {pl : Sem Bool} {Q : Value × List Value → Shared → Prop} (slot : Slot "list" name id) (hty : typeOf (.builtin id) = pure (.type "method_descriptor"))
    (hl : IsL s.heap l z n) (h : Q (.builtin id, [.ref l]) s) : wpAny (model Pg w) A (getMethod (.ref l) name pl) Q E s :=
  getMethod_list_of slot hty hl.isList ⟨_, hl, rfl⟩ h
theorem meth_append {l : Addr} {z : Array Value} {n : Nat} {pl : Sem Bool} {Q : Value × List Value → Shared → Prop} 
    (hl : IsL s.heap l z n) (h : Q (.builtin "list.append", [.ref l]) s) : wpAny (model Pg w) A (getMethod (.ref l) "append" pl) Q E s := methL PySem.F.slot_list_append rfl hl h
theorem meth_pop {l : Addr} {z : Array Value} {n : Nat} {pl : Sem Bool} {Q : Value × List Value → Shared → Prop} 
    (hl : IsL s.heap l z n) (h : Q (.builtin "list.pop", [.ref l]) s) : wpAny (model Pg w) A (getMethod (.ref l) "pop" pl) Q E s := methL PySem.F.slot_list_pop rfl hl h

/-- len(xs) -/
theorem lenL {l : Addr} {z : List Value} {n : Nat} {Q : Value → Shared → Prop} (hl : IsL s.heap l z.toArray n) (hz : z.length ≤ 1000) (h : ∀ t t', Q (.int z.length t) { s with toks := t' }) :
    wpAny (model Pg w) A (call (.builtin "len") [.ref l]) Q E s := by
  refine len_list hl.isList (by simp; omega) ?_
  simpa using h _ _

/-- truth of a list -/
theorem truthL {l : Addr} {z : List Value} {n : Nat} {Q : Bool → Shared → Prop} (hl : IsL s.heap l z.toArray n) (hz : z.length ≤ 1000) (h : ∀ t', Q (!z.isEmpty) { s with toks := t' }) :
    wpAny (model Pg w) A (truthy (.ref l)) Q E s := by
  refine wpAny_truthy_list hl.isList (by simp; omega) ?_
  simpa using h _
end
end Mine
namespace Mine
theorem ItemAt.keepL {l : Addr} {h h' : Heap} {v : Value} {x : It} {its : Array Value} {n : Nat} (i : ItemAt h v x) (k : KeepM [l] h h') (hl : IsL h l its n) : ItemAt h' v x :=
  i.keepM k (fun b hb => ⟨its, by have : b = l := List.mem_singleton.mp hb
                                  subst this; exact hl.isList⟩)
theorem getD_of {z : List Value} {i : Nat} (h : i < z.length) : z[i]? = some (z.getD i .none) := by
  rw [List.getD_eq_getElem?_getD, List.getElem?_eq_getElem h]; rfl
theorem mem_getD {z : List Value} {i : Nat} (h : i < z.length) : z.getD i .none ∈ z := by
  rw [List.getD_eq_getElem?_getD, List.getElem?_eq_getElem h]; exact List.getElem_mem h
theorem set_getD_self {z : List Value} {i : Nat} (h : i < z.length) : z.set i (z.getD i .none) = z := by
  rw [List.getD_eq_getElem?_getD, List.getElem?_eq_getElem h]; simp
end Mine
end
section
open PySem PySem.W PySem.Calls PyProof.Rows
set_option maxRecDepth 100000
set_option maxHeartbeats 4000000
namespace Mine
section
variable {w : World} {mg mb : Str → Option Value} {B : Heap} {A : Around} {E : Value → Shared → Prop} {s : Shared}

theorem siftdown_ {l : Addr} {z : List Value} {n₀ p : Nat} {k₀ : Int} {κ : Value → It} {t0 tp : Tok} {Q : Value → Shared → Prop} (C : Cx w mg mb B) (kB : Sub B s.heap) (hA : Aok A 1)
    (hl₀ : IsL s.heap l z.toArray n₀) (hB : B.get? l = none) (hit : ∀ v ∈ z, ItemAt s.heap v (κ v)) (hsd : SD κ z p) (hk₀ : k₀ = p) (hz : z.length ≤ 1000)
    (hQ : ∀ h' t' z' n', IsL h' l (List.toArray z') n' → z'.Perm z → IsHp κ z' → KeepM [l] s.heap h' → Q .none (St s h' t')) :
    wpAny (model Pg w) A (call (.ref 71) [.ref l, .int 0 t0, .int k₀ tp]) Q E s := by
  subst hk₀
  refine call_fn [("heap", .ref l), ("startpos", .int 0 t0), ("pos", .int p tp)] [l] C kB hA.room rfl rfl rfl rfl rfl rfl (locs rfl) (by simp [hB, hl₀]) fun h₁ t₁ F sub₁ => ?_
  have hl1 : IsL h₁ l z.toArray n₀ := sub₁ _ _ hl₀
  have hp := hsd.lt
  -- newitem = heap[pos]
  refine wpAny_execs_cons (wpAny_Assign_Name (Subscript_ (ldm F rfl (ldm F rfl (itemL hl1 rfl (getD_of hp) hz (stm F fun h₂ t₂ F₂ s₂ => ?_))))))
  have hl2 := isL_same hl1 F.ns s₂
  generalize hx : z.getD p .none = x at *
  have hxz : x ∈ z := by rw [← hx]; exact mem_getD hp
  -- the loop
  refine wpAny_execs_cons (wpAny_While (codeAny_whileLoop (fun k s' => ∃ h t ys n m u, s' = St s h t ∧ FS B [l] s s.heap s.heap.objs.size h m ∧ IsL h l (List.toArray ys) n ∧
    m "heap" = some (.ref l) ∧ m "startpos" = some (.int 0 t0) ∧ m "pos" = some (.int k u) ∧ m "newitem" = some x ∧
    k < ys.length ∧ ys.length = z.length ∧ SD κ (ys.set k x) k ∧ (ys.set k x).Perm z) ?_ p ⟨h₂, _, z, n₀, _, tp, rfl, F₂, hl2, rfl, rfl, rfl, rfl, hp, rfl, ?_, ?_⟩))
  · rintro k s' ⟨h, t, ys, n, m, u, rfl, F, hl, m1, m2, m3, m4, hk, hlen, sd, pm⟩
    have ezk : (ys.set k x).getD k .none = x := by rw [getD_set _ _ _ _ _ hk, if_pos rfl]
    refine wpAny_isTrue_Compare1 (ldm F m3 (ldm F m2 (gt_int (wpAny_truthy_bool (split_dec (fun hgt => ?_) (fun hgt => ?_))))))
    · have k0 : 0 < k := by omega
      have hq : (k - 1) / 2 < ys.length := by omega
      have hne : (k - 1) / 2 ≠ k := by omega
      have ezq : (ys.set k x).getD ((k - 1) / 2) .none = ys.getD ((k - 1) / 2) .none := by rw [getD_set _ _ _ _ _ hk, if_neg hne]
      have hmemq : ys.getD ((k - 1) / 2) .none ∈ z := by
        rw [← ezq]; exact pm.mem_iff.mp (mem_getD (by simpa using hq))
      -- parentpos = pos - 1 >> 1
      refine wpAny_execs_cons (wpAny_Assign_Name (wpAny_BinOp (wpAny_BinOp (ldm F m3 (wpAny_Constant_int (sub_int (wpAny_Constant_int (wpAny_rshift1_int (by omega) (stm F fun h₂ t₂ F₂ s₂ => ?_)))))))))
      have hl2 := isL_same hl F.ns s₂
      -- parent = heap[parentpos]
      refine wpAny_execs_cons (wpAny_Assign_Name (Subscript_ (ldm F₂ m1 (ldm F₂ rfl (itemL hl2 (i := (k - 1) / 2) (by omega) (getD_of hq) (by omega) (stm F₂ fun h₃ t₃ F₃ s₃ => ?_))))))
      have hl3 := isL_same hl2 F₂.ns s₃
      have i1 : ItemAt h₃ x (κ x) := (hit _ hxz).keepL F₃.kp hl₀
      have i2 : ItemAt h₃ (ys.getD ((k - 1) / 2) .none) (κ (ys.getD ((k - 1) / 2) .none)) := (hit _ hmemq).keepL F₃.kp hl₀
      -- if newitem < parent
      refine wpAny_execs_cons (wpAny_If (wpAny_isTrue_Compare1 (ldm F₃ m4 (ldm F₃ rfl (lt_item (hA.deeper _).units i1 i2 (wpAny_truthy_bool (split_bool (fun hlt => ?_) (fun hlt => ?_))))))))
      · -- heap[pos] = parent; pos = parentpos; continue
        refine wpAny_execs_cons (wpAny_Assign_Subscript (ldm F₃ rfl (ldm F₃ m1 (ldm F₃ m3 (setItemL F₃ hl3 hB (.inl (by simp)) rfl hk (by omega) fun h₄ n₄ F₄ hl4 s₄ => ?_)))))
        refine wpAny_execs_cons (wpAny_Assign_Name (ldm F₄ rfl (stm F₄ fun h₅ t₅ F₅ s₅ => ?_)))
        have hl5 := isL_same hl4 F₄.ns s₅
        refine wpAny_execs_cons (wpAny_Continue ?_)
        have hlt' : ilt (ga κ (ys.set k x) k) (ga κ (ys.set k x) ((k - 1) / 2)) = true := by
          rw [ga, ga, ezk, ezq]; exact hlt
        have st := sd.step k0 hlt'
        have ez : swp (ys.set k x) k ((k - 1) / 2) = (ys.set k (ys.getD ((k - 1) / 2) .none)).set ((k - 1) / 2) x := by
          rw [swp, ezk, ezq, List.set_set]
        have ek : ((k : Int) - 1) / 2 = (((k - 1) / 2 : Nat) : Int) := by omega
        rw [ez] at st
        have pm' := (swp_perm _ sd.lt (q := (k - 1) / 2) (by simpa using hq)).trans pm
        rw [ez] at pm'
        exact ⟨(k - 1) / 2, by omega, h₅, _, ys.set k (ys.getD ((k - 1) / 2) .none), n₄, _, _, rfl, F₅, hl5, m1, m2, congrArg (fun i => some (Value.int i _)) ek, m4, by simpa using hq, by simpa using hlen, st, pm'⟩
      · -- break
        refine wpAny_execs_nil ?_
        refine wpAny_execs_cons (wpAny_Break ?_)
        -- heap[pos] = newitem
        refine wpAny_execs_cons (wpAny_Assign_Subscript (ldm F₃ m4 (ldm F₃ m1 (ldm F₃ m3 (setItemL F₃ hl3 hB (.inl (by simp)) rfl hk (by omega) fun h₄ n₄ F₄ hl4 s₄ => ?_)))))
        refine wpAny_execs_nil ?_
        exact hQ h₄ _ _ n₄ hl4 pm (sd.done (.inr (by rw [ga, ga, ezk, ezq]; exact hlt))) F₄.kp
    · refine wpAny_execs_nil ?_
      refine wpAny_execs_cons (wpAny_Assign_Subscript (ldm F m4 (ldm F m1 (ldm F m3 (setItemL F hl hB (.inl (by simp)) rfl hk (by omega) fun h₄ n₄ F₄ hl4 s₄ => ?_)))))
      refine wpAny_execs_nil ?_
      exact hQ h₄ _ _ n₄ hl4 pm (sd.done (.inl (by omega))) F₄.kp
  · rw [← hx, set_getD_self hp]; exact hsd
  · rw [← hx, set_getD_self hp]
end
end Mine
end
section
open PySem PySem.W PySem.Calls PyProof.Rows
set_option maxRecDepth 100000
set_option maxHeartbeats 4000000
namespace Mine
section
variable {w : World} {mg mb : Str → Option Value} {B : Heap} {A : Around} {E : Value → Shared → Prop} {s : Shared}

theorem siftup_ {l : Addr} {z : List Value} {n₀ : Nat} {κ : Value → It} {tp : Tok} {Q : Value → Shared → Prop} (C : Cx w mg mb B) (kB : Sub B s.heap) (hA : Aok A 2)
    (hl₀ : IsL s.heap l z.toArray n₀) (hB : B.get? l = none) (hit : ∀ v ∈ z, ItemAt s.heap v (κ v)) (hsu : SU κ z 0) (hz : z.length ≤ 1000)
    (hQ : ∀ h' t' z' n', IsL h' l (List.toArray z') n' → z'.Perm z → IsHp κ z' → KeepM [l] s.heap h' → Q .none (St s h' t')) :
    wpAny (model Pg w) A (call (.ref 78) [.ref l, .int 0 tp]) Q E s := by
  refine call_fn [("heap", .ref l), ("pos", .int 0 tp)] [l] C kB hA.room rfl rfl rfl rfl rfl rfl (locs rfl) (by simp [hB, hl₀]) fun h₁ t₁ F sub₁ => ?_
  have hl1 : IsL h₁ l z.toArray n₀ := sub₁ _ _ hl₀
  have hp := hsu.lt
  -- endpos = len(heap)
  refine wpAny_execs_cons (wpAny_Assign_Name (Call_ (ldb C F rfl boot_len (callWith_builtin1 (args_cons (ldm F rfl (args_nil (lenL hl1 hz fun u1 t2 => ?_))))))))
  refine stm F fun h₂ t₂ F₂ s₂ => ?_
  have hl2 := isL_same hl1 F.ns s₂
  -- startpos = pos
  refine wpAny_execs_cons (wpAny_Assign_Name (ldm F₂ rfl (stm F₂ fun h₃ t₃ F₃ s₃ => ?_)))
  have hl3 := isL_same hl2 F₂.ns s₃
  -- newitem = heap[pos]
  refine wpAny_execs_cons (wpAny_Assign_Name (Subscript_ (ldm F₃ rfl (ldm F₃ rfl (itemL hl3 (i := 0) rfl (getD_of hp) hz (stm F₃ fun h₄ t₄ F₄ s₄ => ?_))))))
  have hl4 := isL_same hl3 F₃.ns s₄
  generalize hx : z.getD 0 .none = x at *
  have hxz : x ∈ z := by rw [← hx]; exact mem_getD hp
  -- childpos = 2 * pos + 1
  refine wpAny_execs_cons (wpAny_Assign_Name (wpAny_BinOp (wpAny_BinOp (wpAny_Constant_int (ldm F₄ rfl (mul_int (wpAny_Constant_int (add_int (stm F₄ fun h₅ t₅ F₅ s₅ => ?_)))))))))
  have hl5 := isL_same hl4 F₄.ns s₅
  -- the loop
  refine wpAny_execs_cons (wpAny_While (codeAny_whileLoop (fun k s' => ∃ p h t ys n m u1 u2, s' = St s h t ∧ k = z.length - p ∧ FS B [l] s s.heap s.heap.objs.size h m ∧ IsL h l (List.toArray ys) n ∧
    m "heap" = some (.ref l) ∧ m "startpos" = some (.int 0 tp) ∧ m "pos" = some (.int (p : Nat) u1) ∧ m "newitem" = some x ∧ (∃ u, m "endpos" = some (.int z.length u)) ∧ m "childpos" = some (.int (2 * p + 1 : Nat) u2) ∧
    p < ys.length ∧ ys.length = z.length ∧ SU κ (ys.set p x) p ∧ (ys.set p x).Perm z) ?_ z.length ⟨0, h₅, _, z, n₀, _, _, _, rfl, rfl, F₅, hl5, rfl, rfl, rfl, rfl, ⟨_, rfl⟩, rfl, hp, rfl, ?_, ?_⟩))
  · rintro k s' ⟨p, h, t, ys, n, m, u1, u2, rfl, hk, F, hl, m1, m2, m3, m4, ⟨u3, m5⟩, m6, hpl, hlen, su, pm⟩
    have ezp : (ys.set p x).getD p .none = x := by rw [getD_set _ _ _ _ _ hpl, if_pos rfl]
    refine wpAny_isTrue_Compare1 (ldm F m6 (ldm F m5 (lt_int (wpAny_truthy_bool (split_dec (fun hlt => ?_) (fun hlt => ?_))))))
    · -- rightpos = childpos + 1
      refine wpAny_execs_cons (wpAny_Assign_Name (wpAny_BinOp (ldm F m6 (wpAny_Constant_int (add_int (stm F fun h₂ t₂ F₂ s₂ => ?_))))))
      have hl2 := isL_same hl F.ns s₂
      have hc1 : 2 * p + 1 < ys.length := by omega
      have eza : ∀ i, i ≠ p → (ys.set p x).getD i .none = ys.getD i .none := fun i hi => by rw [getD_set _ _ _ _ _ hpl, if_neg hi]
      have hmem : ∀ i, i ≠ p → i < ys.length → ys.getD i .none ∈ z := fun i hi hil => by
        rw [← eza i hi]; exact pm.mem_iff.mp (mem_getD (by simpa using hil))
      -- if rightpos < endpos and not heap[childpos] < heap[rightpos]: childpos = rightpos
      refine wpAny_execs_cons (wpAny_mono (Q := fun f s' => f = Flow.next ∧ ∃ c h t m u, s' = St s h t ∧ FS B [l] s s.heap s.heap.objs.size h m ∧ IsL h l (List.toArray ys) n ∧
          m "heap" = some (.ref l) ∧ m "startpos" = some (.int 0 tp) ∧ m "pos" = some (.int (p : Nat) u1) ∧ m "newitem" = some x ∧ m "endpos" = some (.int z.length u3) ∧ m "childpos" = some (.int (c : Nat) u) ∧
          (c = 2 * p + 1 ∨ c = 2 * p + 2) ∧ c < ys.length ∧ ∀ d, d < ys.length → (d = 2 * p + 1 ∨ d = 2 * p + 2) → ilt (κ (ys.getD d .none)) (κ (ys.getD c .none)) = false) ?_ ?_ (fun _ _ e => e))
      · refine wpAny_If (isTrue_and (wpAny_isTrue_Compare1 (ldm F₂ rfl (ldm F₂ m5 (lt_int (wpAny_truthy_bool (split_dec (fun hr => ?_) (fun hr => ?_))))))))
        · have hc2 : 2 * p + 2 < ys.length := by omega
          have i1 : ItemAt h₂ (ys.getD (2 * p + 1) .none) (κ (ys.getD (2 * p + 1) .none)) := (hit _ (hmem _ (by omega) hc1)).keepL F₂.kp hl₀
          have i2 : ItemAt h₂ (ys.getD (2 * p + 2) .none) (κ (ys.getD (2 * p + 2) .none)) := (hit _ (hmem _ (by omega) hc2)).keepL F₂.kp hl₀
          refine isTrue_and (isTrue_not (wpAny_isTrue_Compare1 (Subscript_ (ldm F₂ m1 (ldm F₂ m6 (itemL hl2 rfl (getD_of hc1) (by omega) (Subscript_ (ldm F₂ m1 (ldm F₂ rfl (itemL hl2 (i := 2 * p + 2) (by omega) (getD_of hc2) (by omega)
            (lt_item (hA.deeper _).units i1 i2 (wpAny_truthy_bool (split_bool (fun hn => isTrue_and_nil ?_) (fun hn => ?_))))))))))))))
          · refine wpAny_execs_cons (wpAny_Assign_Name (ldm F₂ rfl (stm F₂ fun h₃ t₃ F₃ s₃ => ?_)))
            have hl3 := isL_same hl2 F₂.ns s₃
            have ek : (((2 * p + 1 : Nat) : Int) + 1) = ((2 * p + 2 : Nat) : Int) := by omega
            refine wpAny_execs_nil ⟨rfl, 2 * p + 2, h₃, _, _, _, rfl, F₃, hl3, m1, m2, m3, m4, m5, congrArg (fun i => some (Value.int i _)) ek, .inr rfl, hc2, fun d hd hdd => ?_⟩
            rcases hdd with rfl | rfl
            · simpa using hn
            · exact ilt_irrefl _
          · refine wpAny_execs_nil ⟨rfl, 2 * p + 1, h₂, _, _, _, rfl, F₂, hl2, m1, m2, m3, m4, m5, m6, .inl rfl, hc1, fun d hd hdd => ?_⟩
            rcases hdd with rfl | rfl
            · exact ilt_irrefl _
            · exact ilt_asymm (by simpa using hn)
        · refine wpAny_execs_nil ⟨rfl, 2 * p + 1, h₂, _, _, _, rfl, F₂, hl2, m1, m2, m3, m4, m5, m6, .inl rfl, hc1, fun d hd hdd => ?_⟩
          rcases hdd with rfl | rfl
          · exact ilt_irrefl _
          · omega
      · rintro f s' ⟨rfl, c, h, t, m, u, rfl, F, hl, m1, m2, m3, m4, m5, m6, hc, hcl, hsm⟩
        -- heap[pos] = heap[childpos]
        refine wpAny_execs_cons (wpAny_Assign_Subscript (Subscript_ (ldm F m1 (ldm F m6 (itemL hl rfl (getD_of hcl) (by omega) (ldm F m1 (ldm F m3 (setItemL F hl hB (.inl (by simp)) rfl hpl (by omega) fun h₃ n₃ F₃ hl3 s₃ => ?_))))))))
        -- pos = childpos
        refine wpAny_execs_cons (wpAny_Assign_Name (ldm F₃ m6 (stm F₃ fun h₄ t₄ F₄ s₄ => ?_)))
        have hl4 := isL_same hl3 F₃.ns s₄
        -- childpos = 2 * pos + 1
        refine wpAny_execs_cons (wpAny_Assign_Name (wpAny_BinOp (wpAny_BinOp (wpAny_Constant_int (ldm F₄ rfl (mul_int (wpAny_Constant_int (add_int (stm F₄ fun h₅ t₅ F₅ s₅ => ?_)))))))))
        have hl5 := isL_same hl4 F₄.ns s₅
        have hcp : c ≠ p := by omega
        have st : SU κ (swp (ys.set p x) p c) c := su.step hc (by simpa using hcl) (fun d hd hdd => by
          rw [ga, ga, eza d (by omega), eza c hcp]; exact hsm d (by simpa using hd) hdd)
        have pm' := (swp_perm _ su.lt (q := c) (by simpa using hcl)).trans pm
        have ez : swp (ys.set p x) p c = (ys.set p (ys.getD c .none)).set c x := by
          rw [swp, ezp, eza c hcp, List.set_set]
        rw [ez] at st pm'
        have ek : (2 : Int) * (c : Int) + 1 = ((2 * c + 1 : Nat) : Int) := by omega
        exact wpAny_execs_nil ⟨z.length - c, by omega, c, h₅, _, ys.set p (ys.getD c .none), n₃, _, _, _, rfl, rfl, F₅, hl5, m1, m2, rfl, m4, ⟨_, m5⟩, congrArg (fun i => some (Value.int i _)) ek, by simpa using hcl, by simpa using hlen, st, pm'⟩
    · refine wpAny_execs_nil ?_
      -- heap[pos] = newitem
      refine wpAny_execs_cons (wpAny_Assign_Subscript (ldm F m4 (ldm F m1 (ldm F m3 (setItemL F hl hB (.inl (by simp)) rfl hpl (by omega) fun h₆ n₆ F₆ hl6 s₆ => ?_)))))
      -- _siftdown(heap, startpos, pos)
      refine wpAny_execs_cons (wpAny_Expr (Call_ (ldg C F₆ (g_siftdown _) (callF C rfl rfl (args_cons (ldm F₆ m1 (args_cons (ldm F₆ m2 (args_cons (ldm F₆ m3 (args_nil ⟨F₆.base, ?_⟩))))))))))) 
      refine siftdown_ C F₆.base (hA.deeper _) hl6 hB (fun v hv => (hit v (pm.mem_iff.mp hv)).keepL F₆.kp hl₀) (su.done (by simp; omega)) rfl (by simp; omega) fun h₇ t₇ z₇ n₇ hl7 pm7 hp7 k7 => ?_
      exact wpAny_execs_nil (hQ h₇ _ z₇ n₇ hl7 (pm7.trans pm) hp7 (F₆.kp.trans k7))
  · rw [← hx, set_getD_self hp]; exact hsu
  · rw [← hx, set_getD_self hp]
end
end Mine
end
section
open PySem PySem.W PySem.Calls PyProof.Rows
set_option maxRecDepth 100000
set_option maxHeartbeats 4000000
namespace Mine
section
variable {w : World} {mg mb : Str → Option Value} {B : Heap} {A : Around} {E : Value → Shared → Prop} {s : Shared}

theorem heappush_ {l : Addr} {z : List Value} {n₀ : Nat} {v : Value} {κ : Value → It} {Q : Value → Shared → Prop} (C : Cx w mg mb B) (kB : Sub B s.heap) (hA : Aok A 2)
    (hl₀ : IsL s.heap l z.toArray n₀) (hB : B.get? l = none) (hit : ∀ u ∈ z ++ [v], ItemAt s.heap u (κ u)) (hhp : IsHp κ z) (hz : z.length ≤ 900)
    (hQ : ∀ h' t' z' n', IsL h' l (List.toArray z') n' → z'.Perm (z ++ [v]) → IsHp κ z' → KeepM [l] s.heap h' → Q .none (St s h' t')) :
    wpAny (model Pg w) A (call (.ref 57) [.ref l, v]) Q E s := by
  refine call_fn [("heap", .ref l), ("item", v)] [l] C kB hA.room rfl rfl rfl rfl rfl rfl (locs rfl) (by simp [hB, hl₀]) fun h₁ t₁ F sub₁ => ?_
  have hl1 : IsL h₁ l z.toArray n₀ := sub₁ _ _ hl₀
  -- heap.append(item)
  refine wpAny_execs_cons (wpAny_Expr (MethodCall_ (ldm F rfl (meth_append hl1 (callWith_method1 (args_cons (ldm F rfl (args_nil (appendL F hl1 hB (.inl (by simp)) (by omega) fun h₂ n₂ F₂ hl2 s₂ => ?_)))))))))
  -- _siftdown(heap, 0, len(heap) - 1)
  refine wpAny_execs_cons (wpAny_Expr (Call_ (ldg C F₂ (g_siftdown _) (callF C rfl rfl ?_))))
  refine args_cons (ldm F₂ rfl (args_cons (wpAny_Constant_int (args_cons ?_))))
  refine wpAny_BinOp (Call_ (ldb C F₂ rfl boot_len (callWith_builtin1 (args_cons (ldm F₂ rfl (args_nil ?_))))))
  refine lenL hl2 (by simp; omega) fun u2 t2 => wpAny_Constant_int (sub_int (args_nil ⟨F₂.base, ?_⟩))
  refine siftdown_ (s := St s h₂ _) C F₂.base (hA.deeper _) hl2 hB (fun u hu => (hit u hu).keepL F₂.kp hl₀) (hhp.appended v) (by simp) (by simp; omega) fun h₇ t₇ z₇ n₇ hl7 pm7 hp7 k7 => ?_
  exact wpAny_execs_nil (hQ h₇ _ z₇ n₇ hl7 pm7 hp7 (F₂.kp.trans k7))

theorem heappop_ {l : Addr} {z : List Value} {n₀ : Nat} {κ : Value → It} {Q : Value → Shared → Prop} (C : Cx w mg mb B) (kB : Sub B s.heap) (hA : Aok A 3)
    (hl₀ : IsL s.heap l z.toArray n₀) (hB : B.get? l = none) (hit : ∀ u ∈ z, ItemAt s.heap u (κ u)) (hhp : IsHp κ z) (hne : z ≠ []) (hz : z.length ≤ 900)
    (hQ : ∀ h' t' z' n', IsL h' l (List.toArray z') n' → z.Perm (z.getD 0 .none :: z') → IsHp κ z' → KeepM [l] s.heap h' → Q (z.getD 0 .none) (St s h' t')) :
    wpAny (model Pg w) A (call (.ref 64) [.ref l]) Q E s := by
  refine call_fn [("heap", .ref l)] [l] C kB hA.room rfl rfl rfl rfl rfl rfl (locs rfl) (by simp [hB, hl₀]) fun h₁ t₁ F sub₁ => ?_
  have hl1 : IsL h₁ l z.toArray n₀ := sub₁ _ _ hl₀
  obtain ⟨y, r, rfl⟩ : ∃ y r, z = r ++ [y] := ⟨z.getLast hne, z.dropLast, (List.dropLast_concat_getLast hne).symm⟩
  simp only [List.length_append, List.length_singleton] at hz
  -- lastelt = heap.pop()
  refine wpAny_execs_cons (wpAny_Assign_Name (MethodCall_ (ldm F rfl (meth_pop hl1 (callWith_method0 (popL F hl1 hB (.inl (by simp)) (by omega) fun h₂ n₂ F₂ hl2 s₂ => ?_))))))
  refine stm F₂ fun h₃ t₃ F₃ s₃ => ?_
  have hl3 := isL_same hl2 F₂.ns s₃
  -- if heap
  refine wpAny_execs_cons (wpAny_If (isTrue_plain (ldm F₃ rfl (truthL hl3 (by omega) fun t' => split_bool (fun hb => ?_) (fun hb => ?_)))))
  · have hr : r ≠ [] := by rintro rfl; simp at hb
    have hr0 : 0 < r.length := List.length_pos_iff.mpr hr
    have e0 : (r ++ [y]).getD 0 .none = r.getD 0 .none := by rw [List.getD_eq_getElem?_getD, List.getD_eq_getElem?_getD, List.getElem?_append_left hr0]
    -- returnitem = heap[0]
    refine wpAny_execs_cons (wpAny_Assign_Name (Subscript_ (ldm F₃ rfl (wpAny_Constant_int (itemL hl3 (i := 0) rfl (getD_of hr0) (by omega) (stm F₃ fun h₄ t₄ F₄ s₄ => ?_))))))
    have hl4 := isL_same hl3 F₃.ns s₄
    -- heap[0] = lastelt
    refine wpAny_execs_cons (wpAny_Assign_Subscript (ldm F₄ rfl (ldm F₄ rfl (wpAny_Constant_int (setItemL F₄ hl4 hB (.inl (by simp)) (i := 0) rfl hr0 (by omega) fun h₅ n₅ F₅ hl5 s₅ => ?_)))))
    have pm0 : (r ++ [y]).Perm (r.getD 0 .none :: r.set 0 y) := by
      cases r with
      | nil => cases hr rfl
      | cons a r' => simp
    have hit5 : ∀ u ∈ r.set 0 y, ItemAt h₅ u (κ u) := fun u hu => (hit u (pm0.symm.mem_iff.mp (List.mem_cons_of_mem _ hu))).keepL F₅.kp hl₀
    have su : SU κ (r.set 0 y) 0 := by
      have := hhp.rooted y (by simp; omega)
      simpa using this
    -- _siftup(heap, 0)
    refine wpAny_execs_cons (wpAny_Expr (Call_ (ldg C F₅ (g_siftup _) (callF C rfl rfl (args_cons (ldm F₅ rfl (args_cons (wpAny_Constant_int (args_nil ⟨F₅.base, ?_⟩)))))))))
    refine siftup_ (s := St s h₅ _) C F₅.base (hA.deeper _) hl5 hB hit5 su (by simp; omega) fun h₆ t₆ z₆ n₆ hl6 pm6 hp6 k6 => ?_
    have F₆ : FS B [l] s s.heap s.heap.objs.size h₆ _ := F₅.step k6 (by simpa using ns_ne_list F₅.ns hl5.isList) (by simpa using hB) (fun b hb => .inl hb) (by simp [hl6])
    -- return returnitem
    refine wpAny_execs_cons (wpAny_Return_some (ldm F₆ rfl ?_))
    show Q (r.getD 0 .none) _
    have hres := hQ h₆ t₆ z₆ n₆ hl6 (by rw [e0]; exact pm0.trans (List.Perm.cons _ pm6.symm)) hp6 F₆.kp
    rw [e0] at hres
    exact hres
  · have hr : r = [] := by simpa using hb
    subst hr
    refine wpAny_execs_nil ?_
    refine wpAny_execs_cons (wpAny_Return_some (ldm F₃ rfl ?_))
    exact hQ h₃ _ [] n₂ hl3 (by simp) (by intro c c0 cl; simp at cl) F₃.kp
end
end Mine
end
section
open PySem PySem.W PySem.Calls PyProof.Rows
set_option maxRecDepth 100000
set_option maxHeartbeats 4000000
namespace Mine
open Sre

noncomputable def reCode : Array Nat := #[14, 8, 1, 2, 4294967295, 1, 1, 46, 0, 16, 46, 24, 9, 1, 4294967295, 13, 4, 8, 0, 0, 1, 6, 5, 1]
/-- the machine at this pattern -/
noncomputable def mkM (T : Array Nat) (pc pos start handed : Nat) (om : Bool) (frames : List Sre.Frame) (w : Nat) (ans : Option Bool) (seen : Sre.Seen) : Sre.M :=
  { code := reCode, text := T, lim := T.size, start := start, lastStart := T.size, pc := pc, pos := pos, handed := handed, outermost := om, marks := #[], frames := frames, weight := w, answer := ans, seen := seen }

noncomputable def fStart (s : Nat) (om : Bool) : Sre.Frame := { wait := .nextStart, pc := 9, pos := s, outermost := om }
noncomputable def fBack (pos : Nat) (om : Bool) (c : Int) : Sre.Frame := { wait := .giveBack, pc := 11, pos := pos, outermost := om, count := c, kept := { lastmark := -1, lastindex := -1, whole := false, marks := #[] } }

variable {T : Array Nat} {s st hd : Nat} {om om' : Bool} {seen : Sre.Seen}

theorem re_lit_end (h : T.size ≤ s) : M.step (mkM T 9 s st hd om [fStart s om'] 1 none seen) = mkM T 9 s st hd om [fStart s om'] 1 (some false) (seen.add 16) := by
  simp [M.step, mkM, M.exec, M.word, reCode, ops, M.say, h]
theorem re_lit_no (h : s < T.size) (hc : T.getD s 0 ≠ 46) : M.step (mkM T 9 s st hd om [fStart s om'] 1 none seen) = mkM T 9 s st hd om [fStart s om'] 1 (some false) (seen.add 16) := by
  have h' : ¬ T.size ≤ s := by omega
  have hc' : (T[s] == 46) = false := by simpa [Array.getD, h] using hc
  simp [M.step, mkM, M.exec, M.word, reCode, ops, M.say, h', accepts, Array.getD, h, hc']
theorem re_lit_yes (h : s < T.size) (hc : T.getD s 0 = 46) : M.step (mkM T 9 s st hd om [fStart s om'] 1 none seen) = mkM T 11 (s + 1) st hd om [fStart s om'] 1 none (seen.add 16) := by
  have h' : ¬ T.size ≤ s := by omega
  have hc' : T[s] = 46 := by simpa [Array.getD, h] using hc
  simp [M.step, mkM, M.exec, M.word, reCode, ops, M.say, h', accepts, Array.getD, h, hc', itemWidth]
/-- no match from s: the next start -/
theorem re_next {pc pos : Nat} (h : s < T.size) : M.step (mkM T pc pos st hd om [fStart s om'] 1 (some false) seen) = mkM T 9 (s + 1) (s + 1) (s + 1) false [fStart (s + 1) false] 1 none seen := by
  simp [M.step, mkM, M.resume, fStart, h, M.attemptFrom, M.hasFirstSet, reCode, ops, M.attemptAt, M.attempt, M.putBack]
theorem re_stop (h : T.size ≤ s) : ∃ m, M.step (mkM T 9 s st hd om [fStart s om'] 1 (some false) seen) = m ∧ (M.step m).outcome = some .failed := by
  refine ⟨_, rfl, ?_⟩
  have h' : ¬ s < T.size := by omega
  simp [M.step, mkM, M.resume, fStart, h', M.say, M.putBack]

theorem re_digit_no {c : Nat} (h : isDigit c = false) : accepts reCode 15 c seen = .ok (false, ((seen.add 8).add 55).add 0) := by
  simp [accepts, reCode, ops, inSet, category, h, Except.map, bind, Except.bind, pure, Except.pure]
theorem re_digit_yes {c : Nat} (h : isDigit c = true) : accepts reCode 15 c seen = .ok (true, (seen.add 8).add 55) := by
  simp [accepts, reCode, ops, inSet, category, h, Except.map, bind, Except.bind, pure, Except.pure]
theorem re_run_no {n p f : Nat} (h : isDigit (T.getD p 0) = false) : Sre.run reCode T 15 (n + 1) p f seen = .ok (f, ((seen.add 8).add 55).add 0) := by
  simp only [Sre.run, re_digit_no h, bind, Except.bind, pure, Except.pure]; rfl
theorem re_run_yes {n p f : Nat} (h : isDigit (T.getD p 0) = true) : Sre.run reCode T 15 (n + 1) p f seen = Sre.run reCode T 15 n (p + 1) (f + 1) ((seen.add 8).add 55) := by
  simp only [Sre.run, re_digit_yes h, bind, Except.bind]; rfl
theorem re_word {m : Sre.M} (hm : m.code = reCode) (hp : m.pc = 11) : m.word 0 = 24 ∧ m.word 1 = 9 ∧ m.word 2 = 1 ∧ m.word 3 = 4294967295 ∧ m.word 4 = 13 := by
  simp [M.word, hm, hp, reCode]
/-- behind a dot: the end -/
theorem re_rep_end {s₀ : Nat} (h : T.size ≤ s) : M.step (mkM T 11 s st hd om [fStart s₀ om'] 1 none seen) = mkM T 11 s st hd om [fStart s₀ om'] 1 (some false) (seen.add 24) := by
  have h1 : (T.size : Int) - s < 1 := by omega
  simp [M.step, mkM, M.exec, M.word, reCode, ops, M.say, h1]
/-- behind a dot: what the run says -/
theorem re_rep {s₀ : Nat} (h : s < T.size) (n : Nat) (seen' : Sre.Seen) (hr : Sre.run reCode T 15 (T.size - s) s 0 ((seen.add 24).add 13) = .ok (n, seen')) (hT : T.size < 4294967295) :
    M.step (mkM T 11 s st hd om [fStart s₀ om'] 1 none seen) =
      if n < 1 then mkM T 11 s st hd om [fStart s₀ om'] 1 (some false) seen'
      else mkM T 21 (s + n) st (s + n) om [fBack (s + n) om n, fStart s₀ om'] 2 none seen' := by
  have h1 : ¬ (T.size : Int) - s < 1 := by omega
  have e1 : ((T.size : Int) - s).toNat = T.size - s := by omega
  have e2 : min 4294967295 (T.size - s) = T.size - s := by omega
  have e3 : Sre.run #[14, 8, 1, 2, 4294967295, 1, 1, 46, 0, 16, 46, 24, 9, 1, 4294967295, 13, 4, 8, 0, 0, 1, 6, 5, 1] T 15 (T.size - s) s 0 ((seen.add 24).add 13) = .ok (n, seen') := hr
  simp [M.step, mkM, M.exec, M.word, reCode, ops, M.say, h1, e1, e2, e3]
  split
  · rfl
  · simp [M.afterRun, M.attempt, M.frame, fBack, M.keep, M.word]
/-- at the end of the run -/
theorem re_at {p : Nat} {frames : List Sre.Frame} {w : Nat} (h10 : T.getD p 0 ≠ 10) : M.step (mkM T 21 p st hd om frames w none seen) =
    if p = T.size then mkM T 23 p st hd om frames w none ((seen.add 6).add 48) else mkM T 21 p st hd om frames w (some false) ((seen.add 6).add 48) := by
  have h11 : (T.getD p 0 == 10) = false := by simpa using h10
  by_cases h : p = T.size
  · subst h
    simp [M.step, mkM, M.exec, M.word, reCode, ops, M.say, M.isAt]
  · have h' : (p == T.size) = false := by simpa using h
    simp [M.step, mkM, M.exec, M.word, reCode, ops, M.say, M.isAt, h, h']
    exact fun _ => by simpa using h10
theorem re_back {s₀ p : Nat} {seen : Sre.Seen} : M.step (mkM T 21 p st hd om [fBack p om 1, fStart s₀ om'] 2 (some false) seen) = mkM T 11 p st hd om [fStart s₀ om'] 1 (some false) seen := by
  simp [M.step, mkM, M.resume, fBack, M.putBack, M.word, reCode, M.say]
theorem re_win {p : Nat} {c : Int} : (M.runFor 4 (mkM T 23 p st hd om [fBack p om c, fStart s om'] 2 none seen)).outcome = some .matched := by
  simp [M.runFor, M.step, mkM, M.exec, M.word, reCode, ops, M.say, M.resume, fBack, fStart, M.putBack]

theorem runFor_done : ∀ (n : Nat) (m : Sre.M), m.outcome.isSome = true → M.runFor n m = m
  | 0, _, _ => rfl
  | n + 1, m, h => by rw [M.runFor, if_pos h]
theorem runFor_add : ∀ (a b : Nat) (m : Sre.M), M.runFor (a + b) m = M.runFor b (M.runFor a m)
  | 0, b, m => by rw [Nat.zero_add]; rfl
  | a + 1, b, m => by
    rw [Nat.succ_add]
    by_cases h : m.outcome.isSome = true
    · rw [runFor_done _ m h, runFor_done (a + 1) m h, runFor_done b m h]
    · rw [M.runFor, M.runFor, if_neg h, if_neg h]; exact runFor_add a b m.step
theorem runFor_succ {m : Sre.M} (h : m.outcome = none) (n : Nat) : M.runFor (n + 1) m = M.runFor n m.step := by
  rw [M.runFor, if_neg (by rw [h]; simp)]

noncomputable def endsNum : List Nat → Bool
  | [] => false
  | c :: r => (c == 46 && (match r with | [d] => isDigit d | _ => false)) || endsNum r
noncomputable def okR : List Nat → Bool
  | [] => true
  | c :: r => (c != 10) && (!isDigit c || !isDigit (r.headD 0)) && okR r

theorem rf {T : Array Nat} {pc pos st hd : Nat} {om : Bool} {fr : List Sre.Frame} {w : Nat} {ans : Option Bool} {seen : Sre.Seen} (n : Nat) : M.runFor (n + 1) (mkM T pc pos st hd om fr w ans seen) = M.runFor n (M.step (mkM T pc pos st hd om fr w ans seen)) := runFor_succ rfl n

noncomputable def outOf (b : Bool) : Sre.Outcome := if b then .matched else .failed

theorem re_all (T : Array Nat) (hT : T.size < 4294967295) : ∀ (r pre : List Nat), T = (pre ++ r).toArray → okR r = true → ∀ (st hd : Nat) (om om' : Bool) (seen : Sre.Seen),
    ∃ n, n ≤ 8 * (r.length + 1) ∧ (M.runFor n (mkM T 9 pre.length st hd om [fStart pre.length om'] 1 none seen)).outcome = some (outOf (endsNum r)) := by
  intro r
  induction r with
  | nil =>
    intro pre e _ st hd om om' seen
    have hs : T.size ≤ pre.length := by simp [e]
    refine ⟨3, by simp, ?_⟩
    rw [rf, re_lit_end hs, rf]
    have h' : ¬ pre.length < T.size := by omega
    simp [M.runFor, M.step, mkM, M.resume, fStart, h', M.say, outOf, endsNum]
  | cons c r ih =>
    intro pre e hok st hd om om' seen
    have hsz : T.size = pre.length + (r.length + 1) := by simp [e]
    have hs : pre.length < T.size := by omega
    have hc : T.getD pre.length 0 = c := by simp [e, Array.getD]
    have e' : T = ((pre ++ [c]) ++ r).toArray := by simp [e]
    simp only [okR, Bool.and_eq_true, bne_iff_ne, ne_eq] at hok
    obtain ⟨⟨h10, hdd⟩, hokr⟩ := hok
    have next : ∀ (pc pos st hd : Nat) (om : Bool) (seen : Sre.Seen), ∃ n, n ≤ 8 * (r.length + 1) + 1 ∧ (M.runFor n (mkM T pc pos st hd om [fStart pre.length om'] 1 (some false) seen)).outcome = some (outOf (endsNum r)) := by
      intro pc pos st hd om seen
      obtain ⟨n, hn, ho⟩ := ih (pre ++ [c]) e' hokr (pre.length + 1) (pre.length + 1) false false seen
      refine ⟨n + 1, by omega, ?_⟩
      rw [rf, re_next hs]
      simpa using ho
    by_cases h46 : c = 46
    · subst h46
      cases r with
      | nil =>
        obtain ⟨n, hn, ho⟩ := next 11 (pre.length + 1) st hd om ((seen.add 16).add 24)
        refine ⟨n + 2, by simp at *; omega, ?_⟩
        rw [rf, re_lit_yes hs hc, rf, re_rep_end (s := pre.length + 1) (by simp at hsz; omega)]
        rw [show endsNum [46] = endsNum [] by simp [endsNum]]
        exact ho
      | cons d r' =>
        have hd1 : T.getD (pre.length + 1) 0 = d := by
          rw [e]; simp [Array.getD]
        have hs1 : pre.length + 1 < T.size := by simp at hsz; omega
        have hend : endsNum (46 :: d :: r') = ((isDigit d && r'.isEmpty) || endsNum (d :: r')) := by
          cases r' <;> simp [endsNum]
        by_cases hdig : isDigit d = true
        · -- one digit
          simp only [okR, Bool.and_eq_true] at hokr
          obtain ⟨⟨_, hnd⟩, hok'⟩ := hokr
          have hnd' : isDigit (r'.headD 0) = false := by simpa [hdig] using hnd
          have h2 : T.getD (pre.length + 2) 0 = r'.headD 0 := by
            rw [e]; cases r' <;> simp [Array.getD]
          have hrun : ∃ seen', Sre.run reCode T 15 (T.size - (pre.length + 1)) (pre.length + 1) 0 (((seen.add 16).add 24).add 13) = .ok (1, seen') := by
            have en : T.size - (pre.length + 1) = r'.length + 1 := by simp at hsz; omega
            rw [en, re_run_yes (by rw [hd1]; exact hdig)]
            cases r' with
            | nil => exact ⟨_, rfl⟩
            | cons x r'' => exact ⟨_, re_run_no (by rw [h2]; exact hnd')⟩
          obtain ⟨seen', hrun⟩ := hrun
          have hn10 : T.getD (pre.length + 1 + 1) 0 ≠ 10 := by
            show T.getD (pre.length + 2) 0 ≠ 10
            rw [h2]
            cases r' with
            | nil => simp
            | cons x r'' => simp only [okR, Bool.and_eq_true, bne_iff_ne, ne_eq] at hok'; exact hok'.1.1
          by_cases hr' : r' = []
          · subst hr'
            refine ⟨7, by simp, ?_⟩
            rw [rf, re_lit_yes hs hc, rf, re_rep hs1 1 seen' hrun hT, if_neg (by omega), rf, re_at hn10, if_pos (by simp at hsz; omega)]
            rw [re_win]
            simp [outOf, hend, hdig]
          · obtain ⟨n, hn, ho⟩ := next 11 (pre.length + 1 + 1) st (pre.length + 1 + 1) om ((seen'.add 6).add 48)
            have hne : ¬ pre.length + 1 + 1 = T.size := by
              have : r'.length ≠ 0 := fun q => hr' (List.length_eq_zero_iff.mp q)
              simp at hsz; omega
            refine ⟨n + 4, by simp at *; omega, ?_⟩
            rw [rf, re_lit_yes hs hc, rf, re_rep hs1 1 seen' hrun hT, if_neg (by omega), rf, re_at hn10, if_neg hne, rf]
            have := re_back (T := T) (s₀ := pre.length) (st := st) (hd := pre.length + 1 + 1) (om := om) (om' := om') (p := pre.length + 1 + 1) (seen := (seen'.add 6).add 48)
            rw [show ((1 : Nat) : Int) = 1 from rfl, this]
            rw [hend, show r'.isEmpty = false by cases r' <;> simp_all]
            simpa using ho
        · have hdig' : isDigit d = false := by simpa using hdig
          obtain ⟨n, hn, ho⟩ := next 11 (pre.length + 1) st hd om (((((seen.add 16).add 24).add 13).add 8).add 55 |>.add 0)
          refine ⟨n + 2, by simp at *; omega, ?_⟩
          have en : T.size - (pre.length + 1) = r'.length + 1 := by simp at hsz; omega
          rw [rf, re_lit_yes hs hc, rf, re_rep hs1 0 _ (by rw [en]; exact re_run_no (by rw [hd1]; exact hdig')) hT, if_pos (by omega)]
          rw [hend, hdig']
          simpa using ho
    · obtain ⟨n, hn, ho⟩ := next 9 pre.length st hd om (seen.add 16)
      refine ⟨n + 1, by simp at *; omega, ?_⟩
      rw [rf, re_lit_no hs (by rw [hc]; exact h46)]
      have : endsNum (c :: r) = endsNum r := by simp [endsNum, h46]
      rw [this]
      exact ho
end Mine
end
section
open PySem PySem.W PySem.Calls PyProof.Rows
set_option maxRecDepth 100000
set_option maxHeartbeats 4000000
namespace Mine
open Builtin.Re

theorem slot_search : Slot "re.Pattern" "search" "re.Pattern.search" :=
  .of (owner := "re.Pattern") (n := "search") (by rw [typeLookup_type, builtinLookup_eq_fast]; kernel_rfl) (by decide +kernel) (by decide +kernel) (by decide +kernel)
    (by first | exact .inl (by decide +kernel) | exact .inr (by decide +kernel)) (by rw [isSubtype_type]; kernel_rfl)
theorem entry_search : entryFor table "re.Pattern.search" = some Builtin.«re.Pattern.search» := entryFor_of_fast (by kernel_rfl)
theorem args_search (a b : Value) : argsOk "re.Pattern.search" ⟨[a, b], []⟩ := by unfold argsOk; kernel_rfl
theorem type_search : typeOf (.builtin "re.Pattern.search") = pure (.type "method_descriptor") := by kernel_rfl
theorem plainAttrs_pattern : PlainAttrs "re.Pattern" :=
  ⟨⟨"object.__getattribute__", by rw [typeLookup_type, builtinLookup_eq_fast]; kernel_rfl, by decide +kernel⟩, by rw [typeLookup_type, builtinLookup_eq_fast]; kernel_rfl⟩
theorem noBool_match : typeLookup (.type "re.Match") "__bool__" = pure none := by rw [typeLookup_type, builtinLookup_eq_fast]; kernel_rfl
theorem noLen_match : typeLookup (.type "re.Match") "__len__" = pure none := by rw [typeLookup_type, builtinLookup_eq_fast]; kernel_rfl

section
variable {w : World} {mg mb : Str → Option Value} {B : Heap} {A : Around} {E : Value → Shared → Prop} {s : Shared}
theorem truthy_match {l : Addr} {o : Obj} {Q : Bool → Shared → Prop} (ho : s.heap.get? l = some o) (hc : o.cls = .type "re.Match") (h : Q true s) : wpAny (model Pg w) A (truthy (.ref l)) Q E s := by
  unfold truthy
  have hT : s.TypeIs (.ref l) "re.Match" := ⟨_, ho, hc⟩
  refine wpAny_bind (wpAny_callSpecial?_none (name := Str.ofString "__bool__") hT noBool_match ?_)
  refine wpAny_bind (wpAny_specialOf (name := Str.ofString "__len__") hT noLen_match ?_)
  exact wpAny_pure h

theorem reDrive_ {M : Model} : ∀ (turns n : Nat) (m : Sre.M) {Q : Sre.M → Shared → Prop}, (Sre.M.runFor n m).outcome.isSome = true → n ≤ 4 * turns → 0 < turns → Q (Sre.M.runFor n m) s → wpAny M A (reDrive turns m) Q E s := by
  intro turns
  induction turns with
  | zero => intro n m Q _ _ h; omega
  | succ t ih =>
    intro n m Q ho hn _ h
    have e : reDrive (t + 1) m = if (Sre.M.runFor 4 m).outcome.isSome then pure (Sre.M.runFor 4 m) else (do rule "sre.turn"; reDrive t (Sre.M.runFor 4 m)) := rfl
    rw [e]
    by_cases hle : n ≤ 4
    · have e4 : Sre.M.runFor 4 m = Sre.M.runFor n m := by
        rw [show 4 = n + (4 - n) by omega, runFor_add, runFor_done _ _ ho]
      rw [e4, if_pos ho]
      exact wpAny_pure h
    · have en : Sre.M.runFor n m = Sre.M.runFor (n - 4) (Sre.M.runFor 4 m) := by
        rw [← runFor_add, show 4 + (n - 4) = n by omega]
      by_cases h4 : (Sre.M.runFor 4 m).outcome.isSome = true
      · rw [if_pos h4]
        rw [en, runFor_done _ _ h4] at h
        exact wpAny_pure h
      · rw [if_neg h4]
        refine wpAny_bind (wpAny_rule (ih (n - 4) _ (by rw [← en]; exact ho) (by omega) (by omega) (by rw [← en]; exact h)))

theorem reRunToEnd_ {M : Model} {n : Nat} {m : Sre.M} {b : Bool} {Q : Option Sre.M → Shared → Prop} (ho : (Sre.M.runFor n m).outcome = some (outOf b)) (hn : n ≤ 2 ^ 60)
    (h : Q (if b then some (Sre.M.runFor n m) else none) s) : wpAny M A (reRunToEnd m) Q E s := by
  unfold reRunToEnd
  refine wpAny_bind (reDrive_ _ n m (by rw [ho]; rfl) (by omega) (by omega) ?_)
  refine wpAny_bind (wpAny_forIn_list _ (fun _ _ s' => s' = s) _ ?_ ?_ _ _ rfl)
  · rintro i rest u s' rfl
    split
    · exact wpAny_bind (wpAny_rule (wpAny_pure rfl))
    · exact wpAny_pure rfl
  · rintro u s' rfl
    rw [ho]
    cases b with
    | true => exact wpAny_pure (by simpa using h)
    | false => exact wpAny_pure (by simpa using h)

end
end Mine
end
section
open PySem PySem.W PySem.Calls PyProof.Rows
set_option maxRecDepth 100000
set_option maxHeartbeats 4000000
namespace Mine
open Builtin.Re
section
variable {w : World} {mg mb : Str → Option Value} {B : Heap} {A : Around} {E : Value → Shared → Prop} {s : Shared}

theorem endsNum_short {l : List Nat} (h : l.length < 2) : endsNum l = false := by
  match l, h with
  | [], _ => rfl
  | [c], _ => simp [endsNum]
  | _ :: _ :: _, h => exact absurd h (by simp)

/-- what the search of the pattern finds -/
theorem re_search (T : Array Nat) (hT : T.size ≤ 1000) (hok : okR T.toList = true) : ∃ n, n ≤ 10000 ∧ (Sre.M.runFor n (Sre.forSearch reCode T 0 0 T.size false)).outcome = some (outOf (endsNum T.toList)) := by
  by_cases h2 : T.size < 2
  · refine ⟨1, by omega, ?_⟩
    rw [endsNum_short (by simpa using h2)]
    have : Sre.forSearch reCode T 0 0 T.size false = ({ code := reCode, text := T, lim := T.size, start := 0, pc := 9, pos := 0, handed := 0, marks := #[], seen := ({} : Sre.Seen).add 14 } : Sre.M).say false := by
      simp [Sre.forSearch, Sre.header, reCode, Sre.ops, h2]
      rfl
    rw [this]
    simp [Sre.M.runFor, Sre.M.step, Sre.M.say, outOf]
  · obtain ⟨n, hn, ho⟩ := re_all T (by omega) T.toList [] (by simp) hok 0 0 true true (({} : Sre.Seen).add 14)
    refine ⟨n, by simp at hn; omega, ?_⟩
    have : Sre.forSearch reCode T 0 0 T.size false = mkM T 9 0 0 0 true [fStart 0 true] 1 none (({} : Sre.Seen).add 14) := by
      simp [Sre.forSearch, Sre.header, reCode, Sre.ops, h2]
      rfl
    rw [this]
    exact ho

theorem search_tree {x : Str} {t : Tok} {R : Fin → Shared → Prop} (C : Cx w mg mb B) (kB : Sub B s.heap) (hx : okR x.cps.toList = true) (hlen : x.length ≤ 1000)
    (h1 : endsNum x.cps.toList = true → ∀ l h' o, Sub s.heap h' → h'.get? l = some o → o.cls = .type "re.Match" → R (.done (.ret (.ref l))) { s with heap := h' })
    (h2 : endsNum x.cps.toList = false → R (.done (.ret .none)) s) : wpAny (model Pg w) A (Builtin.«re.Pattern.search» ⟨[.ref 36, .str x t], []⟩) R E s := by
  have h36 := kB _ _ (C.K 36 _ rfl)
  have h35 := kB _ _ (C.K 35 _ rfl)
  unfold Builtin.«re.Pattern.search»
  refine wpAny_bind ?_
  unfold reTarget
  refine wpAny_bind (m := reNamed _ _ _ _ _ _) (wpAny_of_eq (a := [some (.str x t), none, none]) rfl ?_)
  refine wpAny_bind (wpAny_pure ?_)
  refine wpAny_bind (wpAny_pure ?_)
  refine wpAny_bind (wpAny_fieldsOf h36 rfl ?_)
  refine wpAny_bind (m := reTextOf _) (wpAny_of_eq (a := (x.cps, 0)) rfl ?_)
  dsimp only
  rw [if_neg (by decide), if_neg (by decide)]
  refine wpAny_bind (m := reNoCollectionInside _ _) (wpAny_of_eq (a := ()) rfl ?_)
  refine wpAny_bind (m := reRawItems _) ?_
  unfold reRawItems
  refine wpAny_bind (wpAny_seqItems h35 rfl (wpAny_pure (wpAny_pure ?_)))
  have hsz : x.cps.size ≤ 1000 := hlen
  have key : ∀ tt : ReTarget, tt = ⟨.ref 36, .str x t, reCode, x.cps, 0, 0, 0, x.cps.size⟩ → wpAny (model Pg w) A (reAnswer tt (Sre.forSearch tt.code tt.text tt.groups tt.pos tt.lim false)) R E s := by
    rintro tt rfl
    obtain ⟨n, hn, ho⟩ := re_search x.cps hsz hx
    unfold reAnswer
    refine wpAny_bind (reRunToEnd_ ho (by omega) ?_)
    cases hb : endsNum x.cps.toList with
    | true =>
      simp only [if_true]
      refine wpAny_bind ?_
      unfold reNewMatch
      simp only [List.range_zero, List.flatMap_nil, List.any_nil, Bool.false_eq_true, if_false]
      refine wpAny_bind (wpAny_newObj_type ?_ (by size_fits))
      refine wpAny_newObj_type ?_ (by size_fits)
      exact wpAny_pure (h1 hb _ _ _ (Sub.trans (Sub.push _ _) (Sub.push _ _)) (Heap.get?_push_size _ rfl) rfl)
    | false =>
      simp only [Bool.false_eq_true, if_false]
      exact wpAny_pure (h2 hb)
  refine key _ ?_
  have e1 : min ((2 : Int) ^ 63 - 1).toNat x.cps.size = x.cps.size := by omega
  rw [e1]
  simp [reCode, reRawOf, reRawNat]

theorem search_ {x : Str} {t : Tok} {Q : Value → Shared → Prop} (C : Cx w mg mb B) (kB : Sub B s.heap) (hx : okR x.cps.toList = true) (hlen : x.length ≤ 1000)
    (h1 : endsNum x.cps.toList = true → ∀ l h' o, Sub s.heap h' → h'.get? l = some o → o.cls = .type "re.Match" → Q (.ref l) { s with heap := h' })
    (h2 : endsNum x.cps.toList = false → Q .none s) : wpAny (model Pg w) A (call (.builtin "re.Pattern.search") [.ref 36, .str x t]) Q E s :=
  wpAny_call_entry slot_search ⟨_, kB _ _ (C.K 36 _ rfl), rfl⟩ entry_search (search_tree C kB hx hlen (fun hb l h' o a b c => ⟨_, rfl, h1 hb l h' o a b c⟩) (fun hb => ⟨_, rfl, h2 hb⟩)) (args_search _ _)
theorem meth_search {pl : Sem Bool} {Q : Value × List Value → Shared → Prop} (C : Cx w mg mb B) (kB : Sub B s.heap) (h : Q (.builtin "re.Pattern.search", [.ref 36]) s) : wpAny (model Pg w) A (getMethod (.ref 36) "search" pl) Q E s :=
  getMethod_builtin ⟨_, kB _ _ (C.K 36 _ rfl), rfl⟩ plainAttrs_pattern slot_search type_search (fun a e => by cases e; exact ⟨_, kB _ _ (C.K 36 _ rfl), rfl⟩) h
end
end Mine
end
section
open PySem PySem.W PySem.Calls PyProof.Rows
set_option maxRecDepth 100000
set_option maxHeartbeats 4000000
namespace Mine

noncomputable def hdnP (x : Str) : Bool := if endsNum x.cps.toList then false else if x == "" then false else !(Txt.item x 0 == "." || Txt.item x (-1) == ".")
noncomputable def reachP (x : Str) : Str :=
  if 0 ≤ Txt.find x "." then
    if hdnP x && (decide (0 ≤ Txt.find (Txt.slice x (some (Txt.find x "." + 1)) none) ".") || Txt.slice x (some (Txt.find x "." + 1)) none == "local") then "." ++ Txt.slice x (some (Txt.find x "." + 1)) none else x
  else x

section
variable {w : World} {mg mb : Str → Option Value} {B : Heap} {A : Around} {E : Value → Shared → Prop} {s : Shared}

theorem lit_false {k : Nat} {pos : Pos} {env : Env} {Q : Value → Shared → Prop} (h : Q (.bool false) s) : wpAny (model Pg w) A (eval (.Constant (.bool false) k pos) env) Q E s := fun _ _ _ => h
theorem lit_true {k : Nat} {pos : Pos} {env : Env} {Q : Value → Shared → Prop} (h : Q (.bool true) s) : wpAny (model Pg w) A (eval (.Constant (.bool true) k pos) env) Q E s := fun _ _ _ => h

theorem isHDN_ {x : Str} {t : Tok} {Q : Value → Shared → Prop} (C : Cx w mg mb B) (kB : Sub B s.heap) (hA : Aok A 1) (hx : okR x.cps.toList = true) (hlen : x.length ≤ 1000)
    (hQ : ∀ h' t', Sub s.heap h' → Q (.bool (hdnP x)) (St s h' t')) :
    wpAny (model Pg w) A (call (.ref 43) [.str x t]) Q E s := by
  refine call_fn [("text", .str x t)] [] C kB hA.room rfl rfl rfl rfl rfl rfl (locs rfl) (by simp) fun h₁ t₁ F sub₁ => ?_
  -- if IPV4_RE.search(text)
  refine wpAny_execs_cons (wpAny_If (isTrue_plain (MethodCall_ (ldg C F (g_IPV4 _) (meth_search C F.base (callWith_method1 ?_))))))
  refine args_cons (ldm F rfl (args_nil (search_ C F.base hx hlen ?_ ?_)))
  · intro hb l h' o sub' ho hc
    refine truthy_match ho hc ?_
    simp only [if_true]
    refine wpAny_execs_cons (wpAny_Return_some (lit_false ?_))
    rw [show hdnP x = false by simp [hdnP, hb]] at hQ
    exact hQ h' _ (Sub.trans sub₁ sub')
  · intro hb
    refine truthy_none ?_
    simp only [Bool.false_eq_true, if_false]
    refine wpAny_execs_nil ?_
    -- if text == ''
    refine wpAny_execs_cons (wpAny_If (wpAny_isTrue_Compare1 (ldm F rfl (Constant_str (eq_str (wpAny_truthy_bool (split_bool (fun he => ?_) (fun he => ?_))))))))
    · refine wpAny_execs_cons (wpAny_Return_some (lit_false ?_))
      rw [show hdnP x = false by simp [hdnP, hb, he]] at hQ
      exact hQ h₁ _ sub₁
    · refine wpAny_execs_nil ?_
      have hpos : 0 < x.length := by
        rcases Nat.eq_zero_or_pos x.length with q | q
        · have : x = "" := str_ext (by rw [List.eq_nil_of_length_eq_zero (l := x.cps.toList) (by rw [Array.length_toList]; exact q)]; decide)
          rw [this] at he; simp at he
        · exact q
      -- if text[0] == '.' or text[-1] == '.'
      refine wpAny_execs_cons (wpAny_If (isTrue_or (wpAny_isTrue_Compare1 (Subscript_ (ldm F rfl (wpAny_Constant_int (item_str (by decide) (by omega) (by omega) fun _ => Constant_str (eq_str (wpAny_truthy_bool (split_bool (fun e1 => ?_) (fun e1 => ?_))))))))))) 
      · simp only [if_true]
        refine wpAny_execs_cons (wpAny_Return_some (lit_false ?_))
        rw [show hdnP x = false by simp [hdnP, hb, he, e1]] at hQ
        exact hQ h₁ _ sub₁
      · refine isTrue_or (wpAny_isTrue_Compare1 (Subscript_ (ldm F rfl (UnaryOp_ (wpAny_Constant_int (neg_int (item_str (by decide) (by omega) (by omega) fun _ => Constant_str (eq_str (wpAny_truthy_bool (split_bool (fun e2 => ?_) (fun e2 => ?_))))))))))) 
        · simp only [if_true]
          refine wpAny_execs_cons (wpAny_Return_some (lit_false ?_))
          rw [show hdnP x = false by simp [hdnP, hb, he, e1, e2]] at hQ
          exact hQ h₁ _ sub₁
        · refine isTrue_or_nil ?_
          simp only [Bool.false_eq_true, if_false]
          refine wpAny_execs_nil (wpAny_execs_cons (wpAny_Return_some (lit_true ?_)))
          rw [show hdnP x = true by simp [hdnP, hb, he, e1, e2]] at hQ
          exact hQ h₁ _ sub₁

/-- x[i:] -/
theorem sliceFrom {M : List Addr} {s₀ : Shared} {L : Addr} {r h : Heap} {m : Str → Option Value} {value : PySem.Expr} {lo : PySem.Expr} {p : Pos} {x : Str} {t : Tok} {env : Env} {i : Int} {ui : Tok} {Q : Value → Shared → Prop} (F : FS B M s₀ r L h m) (hsz : x.length ≤ 1000)
    (hQ : ∀ h' t' t'', Sub h h' → FS B M s₀ r L h' m → Q (.str (Txt.slice x (some i) none) t') (St s₀ h' t''))
    (hst : s = St s₀ h s.toks := by rfl)
    (hs : ∀ a, subscripted (.Slice (some lo) none none p) false (.str x t) (.ref a) = operate [.ref a, .str x t] (getItem (.str x t) (.ref a)) := by intro _; with_unfolding_all rfl)
    (ht : ∀ r, letTemporaryGo value (.str x t) r = pure () := by intro _; with_unfolding_all rfl) :
    wpAny (model Pg w) A (evalPart none env) (fun u s₂ => wpAny (model Pg w) A (evalPart none env) (fun st s₃ =>
      wpAny (model Pg w) A (subscriptTail value (.Slice (some lo) none none p) (.str x t) (.ref s₃.heap.objs.size)) Q E
                  { heap := s₃.heap.push { cls := Value.type "slice", data := Data.fields #[.int i ui, u, st] },
                    gens := s₃.gens, drawn := s₃.drawn, toks := s₃.toks, os := s₃.os }) E s₂) E s := by
  obtain ⟨h1, g1, d1, t1, o1⟩ := s
  cases hst
  refine wpAny_evalPart_none (wpAny_evalPart_none ?_)
  exact tail_of_ItemOn (SBH.sliceItem_sn (s := St s₀ h t1) (P := fun h' => Sub h h') (fun h' ob k => Sub.trans k (Sub.push h' ob)) (Sub.refl h) (fun h' t' k sub => hQ h' t' k sub (F.grow sub)) (by rw [size_line]; omega)) (hs _) ht

theorem reach_ {x : Str} {t : Tok} {Q : Value → Shared → Prop} (C : Cx w mg mb B) (kB : Sub B s.heap) (hA : Aok A 2) (hx : okR x.cps.toList = true) (hlen : x.length ≤ 999)
    (hQ : ∀ h' t' t'', Sub s.heap h' → Q (.str (reachP x) t') (St s h' t'')) :
    wpAny (model Pg w) A (call (.ref 50) [.str x t]) Q E s := by
  refine call_fn [("h", .str x t)] [] C kB hA.room rfl rfl rfl rfl rfl rfl (locs rfl) (by simp) fun h₁ t₁ F sub₁ => ?_
  -- i = h.find('.')
  refine wpAny_execs_cons (wpAny_Assign_Name (MethodCall_ (ldm F rfl (GM.find (callWith_method1 (args_cons (Constant_str (args_nil (SC.find (stm F fun h₂ t₂ F₂ s₂ => ?_))))))))))
  have sub₂ : Sub s.heap h₂ := fun b o e => F₂.kp b o (by simp) e
  -- if i >= 0
  refine wpAny_execs_cons (wpAny_If (wpAny_isTrue_Compare1 (ldm F₂ rfl (wpAny_Constant_int (ge_int (wpAny_truthy_bool (split_dec (fun h0 => ?_) (fun h0 => ?_))))))))
  · -- b = h[i + 1:]
    refine wpAny_execs_cons (wpAny_Assign_Name (Subscript_ (ldm F₂ rfl (wpAny_Slice (wpAny_evalPart_some ?_)))))
    refine wpAny_BinOp (ldm F₂ rfl (wpAny_Constant_int (add_int (sliceFrom F₂ (by omega) fun h₃ u₃ t₃ sub₃ F₃ => stm F₃ fun h₄ t₄ F₄ s₄ => ?_))))
    have hl4 : (Txt.slice x (some (Txt.find x "." + 1)) none).length ≤ 999 := Nat.le_trans (Txt.slice_le x _ _) hlen
    generalize hy : Txt.slice x (some (Txt.find x (Str.ofString ".") + 1)) none = y at *
    -- i = b.find('.')
    refine wpAny_execs_cons (wpAny_Assign_Name (MethodCall_ (ldm F₄ rfl (GM.find (callWith_method1 (args_cons (Constant_str (args_nil (SC.find (stm F₄ fun h₅ t₅ F₅ s₅ => ?_))))))))))
    -- if is_HDN(h) and (i >= 0 or b == 'local')
    refine wpAny_execs_cons (wpAny_If (isTrue_and (isTrue_plain (Call_ (ldg C F₅ (g_isHDN _) (callF C rfl rfl (args_cons (ldm F₅ rfl (args_nil ⟨F₅.base, ?_⟩)))))))))
    refine isHDN_ (s := St s h₅ _) C F₅.base (hA.deeper _) hx (by omega) fun h₆ t₆ sub₆ => ?_
    have F₆ := F₅.grow sub₆
    have sub6 : Sub s.heap h₆ := fun b o e => F₆.kp b o (by simp) e
    refine wpAny_truthy_bool (split_bool (fun e1 => ?_) (fun e1 => ?_))
    · refine isTrue_and (isTrue_or (wpAny_isTrue_Compare1 (ldm F₆ rfl (wpAny_Constant_int (ge_int (wpAny_truthy_bool (split_dec (fun e2 => ?_) (fun e2 => ?_))))))))
      · refine isTrue_and_nil ?_
        refine wpAny_execs_cons (wpAny_Return_some (wpAny_BinOp (Constant_str (ldm F₆ rfl (add_str (fun u k => ?_) (by rw [size_line, show (Str.ofString ".").length = 1 by decide]; omega))))))
        have : reachP x = "." ++ y := by
          unfold reachP; rw [if_pos h0, hy, e1, if_pos (by simp; exact .inl e2)]
        rw [this] at hQ
        exact hQ h₆ _ _ sub6
      · refine isTrue_or (wpAny_isTrue_Compare1 (ldm F₆ rfl (Constant_str (eq_str (wpAny_truthy_bool (split_bool (fun e3 => ?_) (fun e3 => ?_)))))))
        · refine isTrue_and_nil ?_
          refine wpAny_execs_cons (wpAny_Return_some (wpAny_BinOp (Constant_str (ldm F₆ rfl (add_str (fun u k => ?_) (by rw [size_line, show (Str.ofString ".").length = 1 by decide]; omega))))))
          have : reachP x = "." ++ y := by
            unfold reachP; rw [if_pos h0, hy, e1, e3, if_pos (by simp)]
          rw [this] at hQ
          exact hQ h₆ _ _ sub6
        · refine isTrue_or_nil ?_
          simp only [Bool.false_eq_true, if_false]
          refine wpAny_execs_nil (wpAny_execs_nil (wpAny_execs_cons (wpAny_Return_some (ldm F₆ rfl ?_))))
          have : reachP x = x := by
            unfold reachP; rw [if_pos h0, hy, e1, e3, if_neg (by simp; omega)]
          rw [this] at hQ
          exact hQ h₆ _ _ sub6
    · refine wpAny_execs_nil (wpAny_execs_nil (wpAny_execs_cons (wpAny_Return_some (ldm F₆ rfl ?_))))
      have : reachP x = x := by
        unfold reachP; rw [if_pos h0, e1, if_neg (by simp)]
      rw [this] at hQ
      exact hQ h₆ _ _ sub6
  · refine wpAny_execs_nil (wpAny_execs_cons (wpAny_Return_some (ldm F₂ rfl ?_)))
    have : reachP x = x := by
      unfold reachP; rw [if_neg h0]
    rw [this] at hQ
    exact hQ h₂ _ _ sub₂
end
end Mine
end
section
open PySem PySem.W PySem.Calls PyProof.Rows
set_option maxRecDepth 100000
set_option maxHeartbeats 4000000
namespace Mine

/-- the five labels, by their places: a, b, local, 7 and the empty one -/
noncomputable def labC : Nat → List Nat
  | 0 => [97]
  | 1 => [98]
  | 2 => [108, 111, 99, 97, 108]
  | 3 => [55]
  | _ => []
noncomputable def lab (i : Nat) : Str := ⟨(labC i).toArray⟩
noncomputable def hostC : List Nat → List Nat
  | [] => []
  | [a] => labC a
  | a :: b :: r => labC a ++ 46 :: hostC (b :: r)
noncomputable def host (ls : List Nat) : Str := ⟨(hostC ls).toArray⟩
noncomputable def goesOn (ls : List Nat) : Bool := !(decide (ls.length < 2) || ls.headD 0 == 4 || ls.getLastD 0 == 4 || ls.getLastD 0 == 3) && (decide (2 < ls.length) || ls.getLastD 0 == 2)
/-- one to four labels -/
noncomputable def LsOk (ls : List Nat) : Prop := 1 ≤ ls.length ∧ ls.length ≤ 4 ∧ ∀ i ∈ ls, i < 5

theorem dot_str : (Str.ofString ".") = ⟨#[46]⟩ := by decide
theorem join_host : ∀ ls : List Nat, Txt.join "." (ls.map lab) = host ls := by
  intro ls
  show Builtin.Str.glued _ _ = _
  rw [StrLaws.glued_eq_join]
  induction ls with
  | nil => rfl
  | cons a r ih =>
    cases r with
    | nil => rfl
    | cons b r =>
      rw [List.map_cons, List.map_cons, Str.join]
      · rw [List.map_cons] at ih
        rw [ih]
        apply str_ext
        rw [dot_str]
        simp [Str.cps_append, host, hostC, lab]
      · simp

theorem lab_nodot (i : Nat) : 46 ∉ labC i := by
  unfold labC; split <;> decide
theorem okR_dot {r : List Nat} (a : Nat) (h : okR r = true) : okR (labC a ++ 46 :: r) = true := by
  unfold labC
  split <;> simp [okR, h, Sre.isDigit]
theorem okR_lab (a : Nat) : okR (labC a) = true := by
  unfold labC
  split <;> decide
theorem okR_host : ∀ ls : List Nat, okR (hostC ls) = true
  | [] => rfl
  | [a] => okR_lab a
  | a :: b :: r => okR_dot a (okR_host (b :: r))
theorem labC_len (a : Nat) : (labC a).length ≤ 5 := by unfold labC; split <;> decide
theorem host_len : ∀ ls : List Nat, (hostC ls).length ≤ 6 * ls.length
  | [] => by simp [hostC]
  | [a] => by have := labC_len a; simp [hostC]; omega
  | a :: b :: r => by
    have h1 := labC_len a
    have h2 := host_len (b :: r)
    simp [hostC] at *; omega

theorem endsNum_app (p q : List Nat) : endsNum (p ++ 46 :: q) = endsNum (46 :: q) := by
  induction p with
  | nil => rfl
  | cons c p ih =>
    cases p with
    | nil => cases q <;> simp [endsNum, Sre.isDigit]
    | cons d p =>
      have : endsNum (c :: d :: (p ++ 46 :: q)) = endsNum (d :: (p ++ 46 :: q)) := by
        cases p <;> simp [endsNum]
      simpa using this.trans ih

/-- the last label -/
theorem host_last : ∀ ls : List Nat, 2 ≤ ls.length → ∃ p, hostC ls = p ++ 46 :: labC (ls.getLastD 0)
  | [], h => by simp at h
  | [a], h => by simp at h
  | [a, b], _ => ⟨labC a, rfl⟩
  | a :: b :: c :: r, _ => by
    obtain ⟨p, hp⟩ := host_last (b :: c :: r) (by simp)
    refine ⟨labC a ++ 46 :: p, ?_⟩
    rw [hostC, hp]; simp

theorem subAt_dot {l : List Nat} {i : Nat} : Builtin.Str.subAt ⟨l.toArray⟩ ⟨#[46]⟩ i = true ↔ l[i]? = some 46 := by
  simp only [Builtin.Str.subAt, Str.length]
  rw [beq_iff_eq, ← Array.toList_inj]
  simp only [List.extract_toArray, List.size_toArray, List.length_cons, List.length_nil]
  rw [List.extract_eq_take_drop]
  by_cases h : i < l.length
  · rw [List.getElem?_eq_getElem h, List.drop_eq_getElem_cons h, show i + (0 + 1) - i = 1 by omega, List.take_succ_cons]
    simp
  · rw [List.getElem?_eq_none (by omega), List.drop_eq_nil_of_le (by omega)]
    simp
theorem find_none {p : List Nat} (h : 46 ∉ p) : Txt.find ⟨p.toArray⟩ (Str.ofString ".") = -1 := by
  rcases find_whole ⟨p.toArray⟩ (Str.ofString ".") with ⟨e, _⟩ | ⟨i, e, ⟨h1, h2⟩, _⟩
  · exact e
  · exfalso
    rw [dot_str] at h2
    rw [subAt_dot] at h2
    exact h (List.mem_of_getElem? h2)
theorem find_some {p q : List Nat} (h : 46 ∉ p) : Txt.find ⟨(p ++ 46 :: q).toArray⟩ (Str.ofString ".") = p.length := by
  have hat : StrLaws.At ⟨(p ++ 46 :: q).toArray⟩ (Str.ofString ".") (Str.length ⟨(p ++ 46 :: q).toArray⟩) p.length := by
    refine ⟨by rw [dot_str]; simp [Str.length], ?_⟩
    rw [dot_str, subAt_dot]; simp
  rcases find_whole ⟨(p ++ 46 :: q).toArray⟩ (Str.ofString ".") with ⟨_, hn⟩ | ⟨i, e, ⟨_, h2⟩, hn⟩
  · exact absurd hat (hn _)
  · rw [e]
    rw [dot_str, subAt_dot] at h2
    have h3 : ¬ i < p.length := fun q => by
      rw [List.getElem?_append_left q] at h2
      exact h (List.mem_of_getElem? h2)
    have h4 : ¬ p.length < i := fun q => hn _ q hat
    have : i = p.length := by omega
    rw [this]
theorem slice_some {p q : List Nat} : Txt.slice ⟨(p ++ 46 :: q).toArray⟩ (some ((p.length : Int) + 1)) none = ⟨q.toArray⟩ := by
  rw [slice_from_eq (b := ((p.length + (q.length + 1) : Nat) : Int)) (by omega) (by simp [Str.length]; omega) (by simp [Str.length])]
  have e1 : ((p.length : Int) + 1).toNat = p.length + 1 := by omega
  have e2 : (((p.length + (q.length + 1) : Nat) : Int) - ((p.length : Int) + 1)).toNat = q.length := by omega
  rw [e1, e2]
  have : (p ++ 46 :: q).drop (p.length + 1) = q := by
    rw [List.drop_append]; simp
  simp only [this]
  simp

theorem item0 {l : List Nat} (h : l ≠ []) : (Txt.item ⟨l.toArray⟩ 0 == Str.ofString ".") = (l.headD 0 == 46) := by
  cases l with
  | nil => cases h rfl
  | cons c r =>
    rw [dot_str]
    have : Txt.item ⟨(c :: r).toArray⟩ 0 = ⟨#[c]⟩ := by
      simp [Txt.item, Txt.charAt, seqIndex?, Str.length]
    rw [this]
    by_cases hc : c = 46
    · simp [hc]
    · have : ((⟨#[c]⟩ : Str) == ⟨#[46]⟩) = false := by
        rw [beq_eq_false_iff_ne]; intro e; injection e with e; simp at e; exact hc e
      rw [this]; simp [hc]
theorem itemL1 {l : List Nat} {c : Nat} : (Txt.item ⟨(l ++ [c]).toArray⟩ (-1) == Str.ofString ".") = (c == 46) := by
  rw [dot_str]
  have : Txt.item ⟨(l ++ [c]).toArray⟩ (-1) = ⟨#[c]⟩ := by
    have e : (-1 + ((l.length : Int) + 1)) = l.length := by omega
    have e2 : (l.length : Int) < (l.length : Int) + 1 := by omega
    simp [Txt.item, Txt.charAt, seqIndex?, Str.length, e, e2]
  rw [this]
  by_cases hc : c = 46
  · simp [hc]
  · have : ((⟨#[c]⟩ : Str) == ⟨#[46]⟩) = false := by
      rw [beq_eq_false_iff_ne]; intro e; injection e with e; simp at e; exact hc e
    rw [this]; simp [hc]

theorem local_str : Str.ofString "local" = ⟨(labC 2).toArray⟩ := by decide
theorem str_beq {a b : List Nat} : ((⟨a.toArray⟩ : Str) == ⟨b.toArray⟩) = (a == b) := by
  by_cases h : a = b
  · subst h; simp
  · have h1 : (a == b) = false := by simpa using h
    rw [h1, beq_eq_false_iff_ne]
    intro e
    injection e with e
    exact h (by simpa using e)

/-- what reach says of a host -/
theorem reach_host : ∀ ls : List Nat, (∀ i ∈ ls, i < 5) → reachP (host ls) = if goesOn ls then "." ++ host ls.tail else host ls
  | [], _ => by
    have h1 : Txt.find (host []) (Str.ofString ".") = -1 := find_none (by simp [hostC])
    unfold reachP
    rw [h1, if_neg (by omega)]
    simp [goesOn]
  | [a], _ => by
    have h1 : Txt.find (host [a]) (Str.ofString ".") = -1 := find_none (lab_nodot a)
    unfold reachP
    rw [h1, if_neg (by omega)]
    simp [goesOn]
  | a :: b :: r, hls => by
    obtain ⟨p, hp⟩ := host_last (a :: b :: r) (by simp)
    generalize hl : (a :: b :: r).getLastD 0 = l at hp
    have hl5 : l < 5 := by
      rw [← hl]; exact hls _ (by rw [List.getLastD_cons]; exact List.getLastD_mem_cons)
    have ha5 : a < 5 := hls a (by simp)
    have h1 : Txt.find (host (a :: b :: r)) (Str.ofString ".") = (labC a).length := find_some (lab_nodot a)
    have h2 : Txt.slice (host (a :: b :: r)) (some (((labC a).length : Int) + 1)) none = host (b :: r) := slice_some
    have hdn : hdnP (host (a :: b :: r)) = !(a == 4 || l == 4 || l == 3) := by
      have e1 : endsNum (host (a :: b :: r)).cps.toList = (l == 3) := by
        show endsNum (hostC (a :: b :: r)) = _
        rw [hp, endsNum_app]
        rcases (by omega : l = 0 ∨ l = 1 ∨ l = 2 ∨ l = 3 ∨ l = 4) with rfl | rfl | rfl | rfl | rfl <;> decide
      have hne : hostC (a :: b :: r) ≠ [] := by rw [hp]; simp
      have e2 : (host (a :: b :: r) == Str.ofString "") = false := by
        rw [show Str.ofString "" = ⟨([] : List Nat).toArray⟩ by decide, host, str_beq]
        simpa using hne
      have e3 : (Txt.item (host (a :: b :: r)) 0 == Str.ofString ".") = (a == 4) := by
        rw [host, item0 hne, hostC]
        rcases (by omega : a = 0 ∨ a = 1 ∨ a = 2 ∨ a = 3 ∨ a = 4) with rfl | rfl | rfl | rfl | rfl <;> simp [labC]
      have e4 : (Txt.item (host (a :: b :: r)) (-1) == Str.ofString ".") = (l == 4) := by
        rw [host, hp]
        rcases (by omega : l = 0 ∨ l = 1 ∨ l = 2 ∨ l = 3 ∨ l = 4) with rfl | rfl | rfl | rfl | rfl
        · exact itemL1 (l := p ++ [46]) (c := 97) |> fun h => by simpa [labC] using h
        · exact itemL1 (l := p ++ [46]) (c := 98) |> fun h => by simpa [labC] using h
        · exact itemL1 (l := p ++ [46, 108, 111, 99, 97]) (c := 108) |> fun h => by simpa [labC] using h
        · exact itemL1 (l := p ++ [46]) (c := 55) |> fun h => by simpa [labC] using h
        · exact itemL1 (l := p) (c := 46) |> fun h => by simpa [labC] using h
      unfold hdnP
      rw [e1, e2, e3, e4]
      cases (l == 3) <;> simp
    have h3 : (decide (0 ≤ Txt.find (host (b :: r)) (Str.ofString ".")) || host (b :: r) == Str.ofString "local") = (decide (2 < (a :: b :: r).length) || l == 2) := by
      cases r with
      | nil =>
        have hb : l = b := by simpa using hl.symm
        subst hb
        rw [show Txt.find (host [l]) (Str.ofString ".") = -1 from find_none (lab_nodot l), local_str, host, str_beq]
        rcases (by omega : l = 0 ∨ l = 1 ∨ l = 2 ∨ l = 3 ∨ l = 4) with rfl | rfl | rfl | rfl | rfl <;> simp [hostC, labC]
      | cons c r =>
        rw [show Txt.find (host (b :: c :: r)) (Str.ofString ".") = (labC b).length from find_some (lab_nodot b)]
        have : (0 : Int) ≤ ((labC b).length : Int) := by omega
        simp [this]
    unfold reachP
    rw [h1, if_pos (by omega), h2, hdn, h3]
    have : goesOn (a :: b :: r) = (!(a == 4 || l == 4 || l == 3) && (decide (2 < (a :: b :: r).length) || l == 2)) := by
      have e : decide ((a :: b :: r).length < 2) = false := by simp
      simp only [goesOn, hl, e]; simp
    rw [this]
    rfl

theorem up_slice (y : Str) : Txt.slice ("." ++ y) (some 1) none = y := by
  obtain ⟨⟨l⟩⟩ := y
  have e : (Str.ofString "." ++ (⟨⟨l⟩⟩ : Str)) = ⟨([] ++ 46 :: l).toArray⟩ := by
    apply str_ext; rw [Str.cps_append, dot_str]; simp
  rw [e]
  exact slice_some (p := []) (q := l)
theorem up_ne {ls : List Nat} (h5 : ∀ i ∈ ls, i < 5) (h : goesOn ls = true) : ((Str.ofString "." ++ host ls.tail) != host ls) = true := by
  match ls, h5, h with
  | [], _, h => simp [goesOn] at h
  | [a], _, h => simp [goesOn] at h
  | a :: b :: r, h5, h =>
    have ha : a ≠ 4 := by
      rintro rfl; simp [goesOn] at h
    have ha5 : a < 5 := h5 a (by simp)
    rw [bne_iff_ne]
    intro e
    have e2 := congrArg (fun x => x.cps.toList.headD 0) e
    rw [dot_str] at e2
    simp [Str.cps_append, host, hostC] at e2
    rcases (by omega : a = 0 ∨ a = 1 ∨ a = 2 ∨ a = 3) with rfl | rfl | rfl | rfl <;> simp [labC] at e2

theorem labC_inj {a b : Nat} (ha : a < 5) (hb : b < 5) (h : labC a = labC b) : a = b := by
  rcases (by omega : a = 0 ∨ a = 1 ∨ a = 2 ∨ a = 3 ∨ a = 4) with rfl | rfl | rfl | rfl | rfl <;> rcases (by omega : b = 0 ∨ b = 1 ∨ b = 2 ∨ b = 3 ∨ b = 4) with rfl | rfl | rfl | rfl | rfl <;> first | rfl | (simp [labC] at h)
theorem tw_app {p q : List Nat} (h : 46 ∉ p) : (p ++ 46 :: q).takeWhile (· != 46) = p ∧ (p ++ 46 :: q).dropWhile (· != 46) = 46 :: q := by
  induction p with
  | nil => simp
  | cons c p ih =>
    have hc : c ≠ 46 := fun e => h (by simp [e])
    have := ih (fun e => h (by simp [e]))
    simp [hc, this]
theorem hostC_inj : ∀ ls ls' : List Nat, ls ≠ [] → ls' ≠ [] → (∀ i ∈ ls, i < 5) → (∀ i ∈ ls', i < 5) → hostC ls = hostC ls' → ls = ls'
  | [], _, h, _, _, _, _ => absurd rfl h
  | _, [], _, h, _, _, _ => absurd rfl h
  | [a], [b], _, _, ha, hb, e => by rw [labC_inj (ha a (by simp)) (hb b (by simp)) e]
  | [a], b :: c :: r, _, _, _, _, e => by
    have : 46 ∈ hostC [a] := by rw [e]; simp [hostC]
    exact absurd this (lab_nodot a)
  | a :: c :: r, [b], _, _, _, _, e => by
    have : 46 ∈ hostC [b] := by rw [← e]; simp [hostC]
    exact absurd this (lab_nodot b)
  | a :: c :: r, b :: d :: q, _, _, ha, hb, e => by
    simp only [hostC] at e
    have t1 := tw_app (p := labC a) (q := hostC (c :: r)) (lab_nodot a)
    have t2 := tw_app (p := labC b) (q := hostC (d :: q)) (lab_nodot b)
    rw [e] at t1
    have e1 : labC a = labC b := t1.1.symm.trans t2.1
    have e2 : hostC (c :: r) = hostC (d :: q) := by
      have := t1.2.symm.trans t2.2
      simpa using this
    rw [labC_inj (ha a (by simp)) (hb b (by simp)) e1, hostC_inj (c :: r) (d :: q) (by simp) (by simp) (fun i hi => ha i (by simp at hi ⊢; exact .inr hi)) (fun i hi => hb i (by simp at hi ⊢; exact .inr hi)) e2]
theorem host_inj {ls ls' : List Nat} (h : LsOk ls) (h' : LsOk ls') (e : host ls = host ls') : ls = ls' := by
  refine hostC_inj ls ls' (fun q => ?_) (fun q => ?_) h.2.2 h'.2.2 ?_
  · rw [q] at h; exact absurd h.1 (by simp)
  · rw [q] at h'; exact absurd h'.1 (by simp)
  · injection e with e; simpa using e
theorem LsOk.tail {ls : List Nat} (h : LsOk ls) (g : goesOn ls = true) : LsOk ls.tail := by
  have h2 : 2 ≤ ls.length := by
    simp [goesOn] at g; omega
  refine ⟨by simp; omega, by simp; have := h.2.1; omega, fun i hi => h.2.2 i (List.mem_of_mem_tail hi)⟩
end Mine
end
section
open PySem PySem.W PySem.Calls PyProof.Rows
set_option maxRecDepth 100000
set_option maxHeartbeats 4000000
namespace Mine

/-- all but the iterators and their like are kept -/
noncomputable def KeepD (h h' : Heap) : Prop := ∀ b o, (∀ vs, o.data ≠ .fields vs) → h.get? b = some o → h'.get? b = some o
theorem KeepD.trans {h₁ h₂ h₃ : Heap} (x : KeepD h₁ h₂) (y : KeepD h₂ h₃) : KeepD h₁ h₃ := fun b o hb e => y b o hb (x b o hb e)
theorem KeepD.of_sub {h h' : Heap} (k : Sub h h') : KeepD h h' := fun b o _ e => k b o e
theorem KeepD.of_ext {a : Addr} {h h' : Heap} {o : Obj} {vs : Array Value} (ho : h.get? a = some o) (hd : o.data = .fields vs) (k : Heap.ExtBut a h h') : KeepD h h' := fun b o' hb e =>
  k b o' (fun q => by rw [q, ho] at e; cases e; exact hb vs hd) e
theorem KeepM.of_ext {a : Addr} {h h' : Heap} (k : Heap.ExtBut a h h') : KeepM [a] h h' := fun b o hb e => k b o (fun q => hb (by simp [q])) e
theorem IsL.keepD {h h' : Heap} {l : Addr} {its : Array Value} {n : Nat} (x : IsL h l its n) (k : KeepD h h') : IsL h' l its n := k _ _ (fun vs q => by cases q) x
theorem tup_keepD {h h' : Heap} {a : Addr} {vs : List Value} (x : h.get? a = some (tupO vs)) (k : KeepD h h') : h'.get? a = some (tupO vs) := k _ _ (fun vs q => by cases q) x
theorem ItemAt.keepD {h h' : Heap} {v : Value} {x : It} (i : ItemAt h v x) (k : KeepD h h') : ItemAt h' v x :=
  let ⟨a, t1, t2, t3, e, g⟩ := i; ⟨a, t1, t2, t3, e, tup_keepD g k⟩

/-- an iterator: its own objects fp, its source's src; N items -/
structure Itr (w : World) (A : Around) (target : Expr) (it : Value) (fp src : List Addr) (N : Nat) (P : Nat → Value → Heap → Prop) (I : Nat → Heap → Prop) : Prop where
  frame : ∀ i h h', I i h → (∀ b ∈ fp ++ src, ∀ o, h.get? b = some o → h'.get? b = some o) → I i h'
  item : ∀ i (s : Shared) (Q : Value → Shared → Prop) (E : Value → Shared → Prop), i < N → I i s.heap →
    (∀ v h' t', P i v h' → I (i + 1) h' → KeepM fp s.heap h' → KeepD s.heap h' → Q v { s with heap := h', toks := t' }) →
    wpAny (model Pg w) A (pyNext it) (fun r s₁ => match r with | none => False | some v => wpAny (model Pg w) A (letOwnedTupleGo target it v) (fun _ s₂ => Q v s₂) E s₁) E s
  done : ∀ (s : Shared) (Q : Option Value → Shared → Prop) (E : Value → Shared → Prop), I N s.heap →
    (∀ h', KeepM fp s.heap h' → KeepD s.heap h' → Q none { s with heap := h' }) → wpAny (model Pg w) A (pyNext it) Q E s

section
variable {w : World} {B : Heap} {A : Around} {M : List Addr} {s₀ : Shared} {h₀ h₁ : Heap} {L : Addr} {m₁ : Str → Option Value} {target : Expr} {it : Value} {fp src : List Addr} {N : Nat} {P : Nat → Value → Heap → Prop} {I : Nat → Heap → Prop}
  {body orelse : List Stmt} {env : Env} {R : Result → Shared → Prop}

theorem for_ {s : Shared} (T : Itr w A target it fp src N P I) (F : FS B M s₀ h₀ L h₁ m₁) (hI : I 0 h₁) (hfp : ∀ b ∈ fp, h₀.get? b = none ∧ B.get? b = none ∧ b ∉ M ∧ b ≠ L) (hsrc : ∀ b ∈ src, b ∉ M ∧ b ≠ L)
    (J : Nat → Heap → (Str → Option Value) → Prop) (hJ : ∀ i h h' m, KeepD h h' → J i h m → J i h' m) (h0 : J 0 h₁ m₁)
    (turn : ∀ i v h m t, i < N → P i v h → FS B M s₀ h₀ L h m → J i h m → FS B M s₀ h L h m →
      wpAny (model Pg w) A (assign target env v) (fun _ s₂ => wpAny (model Pg w) A (execs body env) (fun f s₃ => match f with
          | .next | .cont => ∃ h' m' t', s₃ = St s₀ h' t' ∧ FS B M s₀ h L h' m' ∧ J (i + 1) h' m'
          | .brk => R (.ok .next) s₃
          | .ret v => R (.ok (.ret v)) s₃) (notedBy (model Pg w) A env fun e s' => R (.error e) s') s₂) (notedBy (model Pg w) A env fun e s' => R (.error e) s') (St s₀ h t))
    (fin : ∀ h m t, FS B M s₀ h₀ L h m → J N h m → wpAny (model Pg w) A (execs orelse env) (fun f s₃ => R (.ok f) s₃) (notedBy (model Pg w) A env fun e s' => R (.error e) s') (St s₀ h t)) (hst : s = St s₀ h₁ s.toks := by rfl) :
    codeAny (model Pg w) A (.forLoop target it body orelse env) R s := by
  obtain ⟨h9, g9, d9, t₁, o9⟩ := s
  cases hst
  refine codeAny_forLoop_any (fun k s' => ∃ h m t i, s' = St s₀ h t ∧ k = N - i ∧ i ≤ N ∧ FS B M s₀ h₀ L h m ∧ I i h ∧ J i h m) ?_ N ⟨h₁, m₁, t₁, 0, rfl, rfl, Nat.zero_le _, F, hI, h0⟩
  rintro k s' ⟨h, m, t, i, rfl, rfl, hi, F, hI, hj⟩
  have hBfp : ∀ b ∈ fp, B.get? b = none := fun b hb => (hfp b hb).2.1
  have hLfp : L ∉ fp := fun q => (hfp L q).2.2.2 rfl
  have hex : ∀ h : Heap, ∀ b ∈ fp, b ∈ M → (h.get? b).isSome = true := fun h b hb hm => absurd hm (hfp b hb).2.2.1
  have hMfp : ∀ b ∈ fp, b ∈ M ∨ h₀.get? b = none := fun b hb => .inr (hfp b hb).1
  rcases Nat.lt_or_ge i N with hlt | hge
  · refine wpAny_mono (T.item i (St s₀ h t) (fun v s₂ => ∃ h' t', s₂ = St s₀ h' t' ∧ P i v h' ∧ I (i + 1) h' ∧ FS B M s₀ h₀ L h' m ∧ J i h' m) _ hlt hI ?_) (fun r s₁ hr => ?_) (fun _ _ e => e)
    · intro v h' t' hP hI' hk hkd
      exact ⟨h', t', rfl, hP, hI', F.step hk hLfp hBfp hMfp (hex _), hJ _ _ _ _ hkd hj⟩
    · cases r with
      | none => exact hr.elim
      | some v =>
        refine wpAny_mono hr (fun _ s₂ h₂ => ?_) (fun _ _ e => e)
        obtain ⟨h', t', rfl, hP, hI', F', hj'⟩ := h₂
        have G : FS B M s₀ h' L h' m := F'.rebase (fun b hb => ⟨F'.bm b hb, F'.mex b hb⟩)
        refine wpAny_mono (turn i v h' m t' hlt hP F' hj' G) (fun _ s₃ h₃ => wpAny_mono h₃ (fun f s₄ h₄ => ?_) (fun _ _ e => e)) (fun _ _ e => e)
        have key : ∀ s₄, (∃ h'' m' t'', s₄ = St s₀ h'' t'' ∧ FS B M s₀ h' L h'' m' ∧ J (i + 1) h'' m') → ∃ m_1, m_1 < N - i ∧ ∃ h m t i, s₄ = St s₀ h t ∧ m_1 = N - i ∧ i ≤ N ∧ FS B M s₀ h₀ L h m ∧ I i h ∧ J i h m := by
          rintro s₄ ⟨h'', m', t'', rfl, G', hj''⟩
          refine ⟨N - (i + 1), by omega, h'', m', t'', i + 1, rfl, rfl, by omega, F'.back G' (fun b hb => .inl hb), ?_, hj''⟩
          refine T.frame _ _ _ hI' (fun b hb o e => G'.keep b o ?_ ?_ e)
          · rcases List.mem_append.mp hb with hb | hb
            · exact (hfp b hb).2.2.1
            · exact (hsrc b hb).1
          · rcases List.mem_append.mp hb with hb | hb
            · exact (hfp b hb).2.2.2
            · exact (hsrc b hb).2
        cases f with
        | next => exact key _ h₄
        | cont => exact key _ h₄
        | brk => exact h₄
        | ret v => exact h₄
  · have hN : i = N := by omega
    subst hN
    refine T.done (St s₀ h t) _ _ hI (fun h' hk hkd => ?_)
    exact fin h' m t (F.step hk hLfp hBfp hMfp (hex _)) (hJ _ _ _ _ hkd hj)

theorem FS.newIt {h : Heap} {b : Addr} (F : FS B M s₀ h₀ L h m₁) (hb : h.get? b = none) : h.get? b = none ∧ B.get? b = none ∧ b ∉ M ∧ b ≠ L := ⟨hb, (F.fresh hb).2.1, F.notM hb, (F.fresh hb).2.2⟩

end
end Mine
end
section
open PySem PySem.W PySem.Calls PyProof.Rows
set_option maxRecDepth 100000
set_option maxHeartbeats 4000000
namespace Mine
section
variable {w : World} {A : Around} {target : Expr}

theorem Itr.list (hh : A.handled = none) (it l : Addr) (hne : l ≠ it) (vs : List Value) :
    Itr w A target (.ref it) [it] [l] vs.length (fun i v _ => vs[i]? = some v) (fun i h => h.IsListIter it l i ∧ h.IsList l vs.toArray) where
  frame := fun i h h' st hk => ⟨st.1.at fun o e => hk it (by simp) o e, st.2.at fun o e => hk l (by simp) o e⟩
  item := fun i s Q E hi st hQ => by
    obtain ⟨o, ho, hc, hd⟩ := st.1
    refine wpAny_pyNext_list_item st.1 st.2 (x := vs[i]) (by simp [hi]) fun h' hit' hs' => ?_
    exact letGo_listiter hit' (hQ _ h' s.toks (by simp [hi]) ⟨hit', st.2.extBut hs'.extBut hne⟩ (KeepM.of_same hs') (KeepD.of_ext ho hd hs'.extBut))
  done := fun s Q E st hQ => by
    obtain ⟨o, ho, hc, hd⟩ := st.1
    refine wpAny_pyNext_list_end hh st.1 st.2 (by simp) fun h' he' => ?_
    exact hQ h' (KeepM.of_ext he') (KeepD.of_ext ho hd he')

theorem Itr.tuple (hh : A.handled = none) (it t : Addr) (hne : t ≠ it) (vs : List Value) :
    Itr w A target (.ref it) [it] [t] vs.length (fun i v _ => vs[i]? = some v) (fun i h => h.IsTupleIter it t i ∧ h.IsTuple t vs.toArray) where
  frame := fun i h h' st hk => by
    obtain ⟨⟨o, ho, r⟩, ⟨o', ho', r'⟩⟩ := st
    exact ⟨⟨o, hk it (by simp) o ho, r⟩, ⟨o', hk t (by simp) o' ho', r'⟩⟩
  item := fun i s Q E hi st hQ => by
    obtain ⟨o, ho, hc, hd⟩ := st.1
    refine wpAny_pyNext_tuple_item st.1 st.2 (x := vs[i]) (by simp [hi]) fun h' hit' hs' => ?_
    exact letGo_tupleiter hit' (hQ _ h' s.toks (by simp [hi]) ⟨hit', st.2.extBut hs'.extBut hne⟩ (KeepM.of_same hs') (KeepD.of_ext ho hd hs'.extBut))
  done := fun s Q E st hQ => by
    obtain ⟨o, ho, hc, hd⟩ := st.1
    refine wpAny_pyNext_tuple_end hh st.1 st.2 (by simp) fun h' he' => ?_
    exact hQ h' (KeepM.of_ext he') (KeepD.of_ext ho hd he')

/-- a range's iterator lets nothing go -/
theorem letGo_range {I : Addr} {v : Value} {a b c : Int} {E : Value → Shared → Prop} {s : Shared} {Q : Unit → Shared → Prop} (hit : IsRangeIter s.heap I a b c) (h : Q () s) : wpAny (model Pg w) A (letOwnedTupleGo target (.ref I) v) Q E s := by
  have k : ∀ n, wpAny (model Pg w) A (letOwnedTupleGo target (.ref I) (.ref n)) Q E s := fun n => by
    unfold letOwnedTupleGo
    split
    · exact wpAny_bind (wpAny_load hit (wpAny_pure h))
    · exact wpAny_bind (wpAny_load hit (wpAny_pure h))
    · exact wpAny_pure h
  cases v with
  | ref n => exact k n
  | _ => unfold letOwnedTupleGo; split <;> exact wpAny_pure h
theorem Itr.range (hh : A.handled = none) (it : Addr) (n : Nat) :
    Itr w A target (.ref it) [it] [] n (fun i v _ => ∃ t, v = .int i t) (fun i h => IsRangeIter h it i ((n : Int) - i) 1) where
  frame := fun i h h' st hk => hk it (by simp) _ st
  item := fun i s Q E hi st hQ => by
    refine wpAny_pyNext_range_item st (by omega) fun h' hit' hs' => ?_
    have e1 : ((i : Int) + 1) = ((i + 1 : Nat) : Int) := by omega
    have e2 : ((n : Int) - i - 1) = (n : Int) - ((i + 1 : Nat) : Int) := by omega
    rw [e1, e2] at hit'
    exact letGo_range hit' (hQ _ h' _ ⟨_, rfl⟩ hit' (KeepM.of_same hs') (KeepD.of_ext st rfl hs'.extBut))
  done := fun s Q E st hQ => by
    refine wpAny_pyNext_range_end hh st (by omega) fun h' he' => ?_
    exact hQ h' (KeepM.of_ext he') (KeepD.of_ext st rfl he')
end
end Mine
end
section
open PySem PySem.W PySem.Calls PyProof.Rows
set_option maxRecDepth 100000
set_option maxHeartbeats 4000000
namespace Mine
open AutoSeq1 (wpAny_loadPart')
section
variable {prog : Program} {w : World} {A : Around} {E : Value → Shared → Prop} {s : Shared} {target : Expr}
/-- one draw from a tuple's iterator: the next of its things, or StopIteration -/
theorem next_tuple {it t : Addr} {i : Nat} {xs : Array Value} {Q : Value → Shared → Prop} (hh : A.handled = none) (hit : s.heap.IsTupleIter it t i) (ht : s.heap.IsTuple t xs)
    (more : ∀ x h', xs[i]? = some x → h'.IsTupleIter it t (i + 1) → Heap.SameBut it s.heap h' → Q x { s with heap := h' })
    (over : ∀ h' e, xs[i]? = none → Heap.ExtBut it s.heap h' → (∃ o, h'.get? e = some o ∧ o.cls = .type "StopIteration") → E (.ref e) { s with heap := h' }) :
    wpAny (model prog w) A (Builtin.SmallTypes.nextOf (.ref it)) Q E s := by
  have T := hit.typeIs
  obtain ⟨o, ho, hc, hd⟩ := hit
  obtain ⟨p, hp, -, k, hk⟩ := ht
  refine wpAny_bind (wpAny_callSpecial?_slot (name := Str.ofString "__next__") T F.slot_tuple_iterator_next (wpAny_call_entry F.slot_tuple_iterator_next T F.entry_tuple_iterator_next ?_ (F.args_tuple_iterator_next_1 _)))
  wp_walk using wpAny_field ho hd (i := 0) (x := .ref t) rfl, wpAny_field ho hd (i := 1) (x := .int i 0) rfl, wpAny_seqItems hp hk
  rw [Int.toNat_natCast]
  cases hx : xs[i]? with
  | some x =>
    wp_walk using wpAny_setField ho hd (by simp)
    refine ⟨x, rfl, wpAny_pure (more x _ hx ⟨_, Heap.get?_update_self _ ho (Obj.isFreed_of_fields (Obj.data_mapFields hd _)), (Obj.cls_mapFields ..).trans hc, ?_⟩ (Heap.SameBut.update ..))⟩
    simp [Obj.data_mapFields hd, rawInt]
  | none =>
    have hh1 : A.in1.handled = none := hh
    wp_walk using wpAny_setField ho hd (by simp)
    unfold raiseNew
    wp_walk
    exact over _ _ hx (fun b o' hb g => ((Heap.SameBut.update ..).extBut.push _).push _ b o' hb g) ⟨_, Heap.get?_push_size _ rfl, rfl⟩

theorem draws_tup (hh : A.handled = none) (it t : Addr) (ne : t ≠ it) (xs : Array Value) : Draws prog w A it [it, t] xs.size (fun i v => xs[i]? = some v) (fun i h => h.IsTupleIter it t i ∧ h.IsTuple t xs) where
  live := fun _ _ ⟨⟨o, ho, _⟩, _⟩ => ⟨o, ho⟩
  frame := fun _ _ _ ⟨⟨o, ho, r⟩, ⟨p, hp, q⟩⟩ k => ⟨⟨o, k it (by simp) o ho, r⟩, ⟨p, k t (by simp) p hp, q⟩⟩
  item := fun i s Q E lt ⟨a, b⟩ hQ => next_tuple hh a b (fun x h' hx a' sb => hQ x h' s.toks hx ⟨a', b.extBut sb.extBut ne⟩ sb) (fun _ _ hx => by simp at hx; omega)
  done := fun s Q E ⟨a, b⟩ hE => next_tuple hh a b (fun _ _ hx => by simp at hx) (fun h' e _ k o => hE h' e k o)

theorem Itr.enumT (hh : A.handled = none) (e it t : Addr) (hei : e ≠ it) (het : e ≠ t) (hne : t ≠ it) (vs : List Value) {elts : List Expr} {k : Nat} {pos : Pos} :
    Itr w A (.Tuple elts k pos) (.ref e) [e, it] [t] vs.length (fun i v h => ∃ T tk x, v = .ref T ∧ vs[i]? = some x ∧ h.get? T = some (tupO [.int i tk, x]))
      (fun i h => (∃ old, IsEnum h e it i old) ∧ h.IsTupleIter it t i ∧ h.IsTuple t vs.toArray) where
  frame := fun i h h' st hk => by
    obtain ⟨⟨old, he⟩, ⟨o, ho, r⟩, ⟨o', ho', r'⟩⟩ := st
    exact ⟨⟨old, hk e (by simp) _ he⟩, ⟨o, hk it (by simp) o ho, r⟩, ⟨o', hk t (by simp) o' ho', r'⟩⟩
  item := fun i s Q E hi st hQ => by
    obtain ⟨⟨old, he⟩, st2⟩ := st
    have D := draws_tup (prog := Pg) (w := w) (A := A.in1) hh it t hne vs.toArray
    have hsz : vs.toArray.size = vs.length := by simp
    refine wpAny_pyNext_enum_itemD D he st2 (by rw [hsz]; exact hi) hei (by simp [hei, het]) fun x h' tk hx ho' st' hT hsz' hkeep => ?_
    refine wpAny_letOwnedTupleGo_enum ho' fun h'' he'' hs'' => ?_
    have hTe : s.heap.objs.size ≠ e := Nat.ne_of_gt (Heap.lt_size he)
    have hkM : KeepM [e, it] s.heap h'' := fun b o hb g => by
      simp only [List.mem_cons, List.not_mem_nil, or_false, not_or] at hb
      exact (hs''.2 b hb.1).trans (hkeep b o hb.1 hb.2 g)
    obtain ⟨oi, hoi, _, hdi⟩ := id st2.1
    have hkD : KeepD s.heap h'' := fun b o hb g => by
      refine hkM b o ?_ g
      simp only [List.mem_cons, List.not_mem_nil, or_false, not_or]
      refine ⟨fun q => ?_, fun q => ?_⟩
      · rw [q, he] at g; cases g; exact hb _ rfl
      · rw [q, hoi] at g; cases g; exact hb _ hdi
    have e1 : ((i : Int) + 1) = ((i + 1 : Nat) : Int) := by omega
    rw [e1] at he''
    refine hQ (.ref s.heap.objs.size) h'' _ ⟨_, tk, x, rfl, by simpa using hx, (hs''.2 _ hTe).trans hT⟩ ⟨⟨_, he''⟩, ?_⟩ hkM hkD
    exact D.frame _ _ _ st' (fun b hb o y => (hs''.2 b (fun q => by rw [q] at hb; simp [hei, het] at hb)).trans y)
  done := fun s Q E st hQ => by
    obtain ⟨⟨old, he⟩, st2⟩ := st
    have D := draws_tup (prog := Pg) (w := w) (A := A.in1) hh it t hne vs.toArray
    obtain ⟨oi, hoi, _, hdi⟩ := id st2.1
    refine wpAny_pyNext_enum_endD D he (by simpa using st2) fun h' he' => ?_
    exact hQ h' (fun b o hb g => he' b o (fun q => hb (by simp [q])) g) (KeepD.of_ext hoi hdi he')

/-- the two objects of enumerate over a tuple -/
noncomputable def tupIt (l : Addr) : Obj := { cls := .type "tuple_iterator", data := .fields #[.ref l, .int 0 0] }
noncomputable def enumOf (it : Addr) : Obj := { cls := .type "enumerate", data := .fields #[.none, .bool false, .ref it, rawInt 0, .none, .none] }
theorem newEnum (l : Addr) (xs : Array Value) : Meets (Builtin.«enumerate.__new__» ⟨[.type "enumerate", .ref l], []⟩) (fun _ R s => s.heap.IsTuple l xs ∧
      R (.ok (.ret (.ref (s.heap.push (tupIt l)).objs.size))) { s with heap := (s.heap.push (tupIt l)).push (enumOf s.heap.objs.size) }) :=
  .of_wp fun prog w A R s hs => by
    obtain ⟨_, _, _, _, _⟩ := s
    obtain ⟨ht, hR⟩ := hs
    obtain ⟨⟨c, dc, dt, sl⟩, hl, hc, n, hd⟩ := id ht
    cases hc
    cases hd
    have := sub_enumerate
    wp_walk using wpAny_loadPart' hl
    refine wpAny_stack_any fun _ => wpAny_pure ?_
    split <;> try (rename_i c _ _ _ _ _; cases c == Value.type "enumerate")
    all_goals
      wp_walk using wpAny_loadPart' hl, wpAny_pyIter_tuple ht
      exact ⟨_, rfl, hR⟩
theorem call_enumT {l : Addr} {xs : Array Value} {Q : Value → Shared → Prop} (hl : s.heap.IsTuple l xs)
    (h : ∀ h', IsEnum h' (s.heap.objs.size + 1) s.heap.objs.size 0 .none → h'.IsTupleIter s.heap.objs.size l 0 → Sub s.heap h' → Q (.ref (s.heap.objs.size + 1)) { s with heap := h' }) :
    wpAny (model prog w) A (call (.type "enumerate") [.ref l]) Q E s := by
  have z : (s.heap.push (tupIt l)).objs.size = s.heap.objs.size + 1 := Heap.size_push ..
  have e := Heap.get?_push_size (s.heap.push (tupIt l)) (o := enumOf s.heap.objs.size) rfl
  refine callType_new F.called_enumerate (by decide) (F.typeCall_enumerate_1 _) (F.newCall_enumerate_1 _) (fun obj => F.args_object_init_2 obj _) F.entry_enumerate_new (newEnum l xs) ⟨hl, ⟨_, e, rfl⟩, ?_⟩
  rw [z] at e ⊢
  exact h _ e ⟨_, Heap.get?_push_of_some _ (Heap.get?_push_size _ rfl), rfl, rfl⟩ ((Sub.push _ _).trans (Sub.push _ _))
end
end Mine
end
section
open PySem PySem.W PySem.Calls PyProof.Rows
set_option maxRecDepth 100000
set_option maxHeartbeats 4000000
namespace Mine
section
variable {w : World} {B : Heap} {A : Around} {E : Value → Shared → Prop} {s : Shared} {M : List Addr} {s₀ : Shared} {r h h' : Heap} {L : Addr} {m : Str → Option Value} {name : Str} {scope : Scope} {a : Addr} {cd : Value}

theorem isL_ext {l : Addr} {its : Array Value} {n : Nat} (hl : IsL h l its n) (hn : h.Ns L m) (hs : Heap.ExtBut L h h') : IsL h' l its n :=
  hs l _ (fun e => ns_ne_list hn hl.isList e.symm) hl
theorem ns_ne_tup {T : Addr} {vs : List Value} (hn : h.Ns L m) (hT : h.get? T = some (tupO vs)) : T ≠ L := by
  rintro rfl
  obtain ⟨o, es, ep, e, d, _⟩ := hn
  rw [hT] at e; cases e; cases d
theorem tup_ext {T : Addr} {vs : List Value} (hT : h.get? T = some (tupO vs)) (hn : h.Ns L m) (hs : Heap.ExtBut L h h') : h'.get? T = some (tupO vs) := hs T _ (ns_ne_tup hn hT) hT
theorem ItemAt.ext {v : Value} {x : It} (i : ItemAt h v x) (hn : h.Ns L m) (hs : Heap.ExtBut L h h') : ItemAt h' v x :=
  let ⟨a, t1, t2, t3, e, g⟩ := i; ⟨a, t1, t2, t3, e, tup_ext g hn hs⟩
theorem ext_sub (k : Sub h h') : Heap.ExtBut L h h' := fun b o _ e => k b o e

/-- x, y = a pair -/
theorem unp2 {x y : Str} {px py pos : Pos} {k : Nat} {T : Addr} {v u : Value} {Q : Unit → Shared → Prop} (hA : A.handled = none) (F : FS B M s₀ r L h m) (hT : h.get? T = some (tupO [v, u]))
    (hQ : ∀ h' t', FS B M s₀ r L h' (fun z => if z = y then some u else if z = x then some v else m z) → Heap.ExtBut L h h' → Q () (St s₀ h' t'))
    (hst : s = St s₀ h s.toks := by rfl)
    (hk : scope.kind = .function := by rfl) (hx : (envOf name scope L a cd).kindOf x = some .local := by rfl) (hy : (envOf name scope L a cd).kindOf y = some .local := by rfl) :
    wpAny (model Pg w) A (assign (.Tuple [.Name x px, .Name y py] k pos) (envOf name scope L a cd) (.ref T)) Q E s := by
  obtain ⟨h1, g1, d1, t1, o1⟩ := s
  cases hst
  refine wpAny_assign_Tuple (items := #[v, u]) hA ⟨_, hT, rfl, 0, rfl⟩ rfl rfl fun h₁ e₁ => ?_
  have sub₁ : Sub h h₁ := fun b o e => e₁ b o (Nat.ne_of_lt (Heap.lt_size e)) e
  have F₁ := F.grow sub₁
  refine assignInOrder_cons (wpAny_assign_Name (stm F₁ (fun h₂ t₂ F₂ s₂ => ?_) rfl hk hx))
  refine assignInOrder_cons (wpAny_assign_Name (stm F₂ (fun h₃ t₃ F₃ s₃ => ?_) rfl hk hy))
  refine assignInOrder_nil (hQ h₃ t₃ F₃ (fun b o hb e => ?_))
  exact s₃.extBut b o hb (s₂.extBut b o hb (sub₁ b o e))

/-- x, y, z = a triple -/
theorem unp3 {x y z : Str} {px py pz pos : Pos} {k : Nat} {T : Addr} {v u q : Value} {Q : Unit → Shared → Prop} (hA : A.handled = none) (F : FS B M s₀ r L h m) (hT : h.get? T = some (tupO [v, u, q]))
    (hQ : ∀ h' t', FS B M s₀ r L h' (fun n => if n = z then some q else if n = y then some u else if n = x then some v else m n) → Heap.ExtBut L h h' → Q () (St s₀ h' t'))
    (hst : s = St s₀ h s.toks := by rfl)
    (hk : scope.kind = .function := by rfl) (hx : (envOf name scope L a cd).kindOf x = some .local := by rfl) (hy : (envOf name scope L a cd).kindOf y = some .local := by rfl) (hz : (envOf name scope L a cd).kindOf z = some .local := by rfl) :
    wpAny (model Pg w) A (assign (.Tuple [.Name x px, .Name y py, .Name z pz] k pos) (envOf name scope L a cd) (.ref T)) Q E s := by
  obtain ⟨h1, g1, d1, t1, o1⟩ := s
  cases hst
  refine wpAny_assign_Tuple (items := #[v, u, q]) hA ⟨_, hT, rfl, 0, rfl⟩ rfl rfl fun h₁ e₁ => ?_
  have sub₁ : Sub h h₁ := fun b o e => e₁ b o (Nat.ne_of_lt (Heap.lt_size e)) e
  have F₁ := F.grow sub₁
  refine assignInOrder_cons (wpAny_assign_Name (stm F₁ (fun h₂ t₂ F₂ s₂ => ?_) rfl hk hx))
  refine assignInOrder_cons (wpAny_assign_Name (stm F₂ (fun h₃ t₃ F₃ s₃ => ?_) rfl hk hy))
  refine assignInOrder_cons (wpAny_assign_Name (stm F₃ (fun h₄ t₄ F₄ s₄ => ?_) rfl hk hz))
  refine assignInOrder_nil (hQ h₄ t₄ F₄ (fun b o hb e => ?_))
  exact s₄.extBut b o hb (s₃.extBut b o hb (s₂.extBut b o hb (sub₁ b o e)))
end
end Mine
end
section
open PySem PySem.W PySem.Calls PyProof.Rows
set_option maxRecDepth 100000
set_option maxHeartbeats 4000000
namespace Mine

/-- a table of stat: pairs of a bit and a sign -/
noncomputable def PairAt (h : Heap) (v : Value) (p : Int × Str) : Prop := ∃ a t u, v = .ref a ∧ h.get? a = some (tupO [.int p.1 t, .str p.2 u])
noncomputable def TabAt (h : Heap) (a : Addr) (l : List (Int × Str)) : Prop := ∃ vs : List Value, h.get? a = some (tupO vs) ∧ vs.length = l.length ∧ ∀ i, i < l.length → ∃ v p, vs[i]? = some v ∧ l[i]? = some p ∧ PairAt h v p
theorem PairAt.sub {h h' : Heap} {v : Value} {p : Int × Str} (x : PairAt h v p) (k : Sub h h') : PairAt h' v p := let ⟨a, t, u, e, g⟩ := x; ⟨a, t, u, e, k _ _ g⟩

noncomputable def tst (i : Nat) (mode bit : Int) : Bool := if i = 0 then Builtin.bitAnd mode 61440 == bit else Builtin.bitAnd mode bit == bit
noncomputable def signOf (i : Nat) (mode : Int) (l : List (Int × Str)) : Str := match l.find? (fun p => tst i mode p.1) with
  | some p => p.2
  | none => if i = 0 then "?" else "-"
noncomputable def tabs : List (List (Int × Str)) := [
  [(40960, "l"), (49152, "s"), (32768, "-"), (24576, "b"), (16384, "d"), (8192, "c"), (4096, "p")],
  [(256, "r")], [(128, "w")], [(2112, "s"), (2048, "S"), (64, "x")],
  [(32, "r")], [(16, "w")], [(1032, "s"), (1024, "S"), (8, "x")],
  [(4, "r")], [(2, "w")], [(513, "t"), (512, "T"), (1, "x")]]
noncomputable def tabA : List Addr := [93, 95, 97, 101, 103, 105, 109, 111, 113, 117]
noncomputable def signs10 (mode : Int) : List Str := (List.range 10).map fun i => signOf i mode (tabs.getD i [])
noncomputable def fmodeP (mode : Int) : Str := Txt.join "" (signs10 mode)

section
variable {w : World} {mg mb : Str → Option Value} {B : Heap} {A : Around} {E : Value → Shared → Prop} {s : Shared}

theorem tabs_at (C : Cx w mg mb B) : ∀ i, i < 10 → ∃ a, tabA[i]? = some a ∧ TabAt B a (tabs.getD i []) := by
  intro i hi
  have one : ∀ (a b : Addr) (x : Int) (y : Str) (t u : Tok), B.get? a = some (tupO [.ref b]) → B.get? b = some (tupO [.int x t, .str y u]) → TabAt B a [(x, y)] := by
    intro a b x y t u h1 h2
    refine ⟨_, h1, rfl, fun j hj => ?_⟩
    simp at hj; subst hj
    exact ⟨_, _, rfl, rfl, _, _, _, rfl, h2⟩
  have three : ∀ (a b c d : Addr) (x x' x'' : Int) (y y' y'' : Str) (t u t' u' t'' u'' : Tok), B.get? a = some (tupO [.ref b, .ref c, .ref d]) → B.get? b = some (tupO [.int x t, .str y u]) → B.get? c = some (tupO [.int x' t', .str y' u']) → B.get? d = some (tupO [.int x'' t'', .str y'' u'']) → TabAt B a [(x, y), (x', y'), (x'', y'')] := by
    intro a b c d x x' x'' y y' y'' t u t' u' t'' u'' h1 h2 h3 h4
    refine ⟨_, h1, rfl, fun j hj => ?_⟩
    simp at hj
    rcases (by omega : j = 0 ∨ j = 1 ∨ j = 2) with rfl | rfl | rfl
    · exact ⟨_, _, rfl, rfl, _, _, _, rfl, h2⟩
    · exact ⟨_, _, rfl, rfl, _, _, _, rfl, h3⟩
    · exact ⟨_, _, rfl, rfl, _, _, _, rfl, h4⟩
  rcases (by omega : i = 0 ∨ i = 1 ∨ i = 2 ∨ i = 3 ∨ i = 4 ∨ i = 5 ∨ i = 6 ∨ i = 7 ∨ i = 8 ∨ i = 9) with rfl | rfl | rfl | rfl | rfl | rfl | rfl | rfl | rfl | rfl
  · refine ⟨93, rfl, _, C.K 93 _ rfl, rfl, fun j hj => ?_⟩
    have hj' : j < 7 := hj
    rcases (by omega : j = 0 ∨ j = 1 ∨ j = 2 ∨ j = 3 ∨ j = 4 ∨ j = 5 ∨ j = 6) with rfl | rfl | rfl | rfl | rfl | rfl | rfl
    · exact ⟨_, _, rfl, rfl, _, _, _, rfl, C.K 86 _ rfl⟩
    · exact ⟨_, _, rfl, rfl, _, _, _, rfl, C.K 87 _ rfl⟩
    · exact ⟨_, _, rfl, rfl, _, _, _, rfl, C.K 88 _ rfl⟩
    · exact ⟨_, _, rfl, rfl, _, _, _, rfl, C.K 89 _ rfl⟩
    · exact ⟨_, _, rfl, rfl, _, _, _, rfl, C.K 90 _ rfl⟩
    · exact ⟨_, _, rfl, rfl, _, _, _, rfl, C.K 91 _ rfl⟩
    · exact ⟨_, _, rfl, rfl, _, _, _, rfl, C.K 92 _ rfl⟩
  · exact ⟨95, rfl, one _ _ _ _ _ _ (C.K 95 _ rfl) (C.K 94 _ rfl)⟩
  · exact ⟨97, rfl, one _ _ _ _ _ _ (C.K 97 _ rfl) (C.K 96 _ rfl)⟩
  · exact ⟨101, rfl, three _ _ _ _ _ _ _ _ _ _ _ _ _ _ _ _ (C.K 101 _ rfl) (C.K 98 _ rfl) (C.K 99 _ rfl) (C.K 100 _ rfl)⟩
  · exact ⟨103, rfl, one _ _ _ _ _ _ (C.K 103 _ rfl) (C.K 102 _ rfl)⟩
  · exact ⟨105, rfl, one _ _ _ _ _ _ (C.K 105 _ rfl) (C.K 104 _ rfl)⟩
  · exact ⟨109, rfl, three _ _ _ _ _ _ _ _ _ _ _ _ _ _ _ _ (C.K 109 _ rfl) (C.K 106 _ rfl) (C.K 107 _ rfl) (C.K 108 _ rfl)⟩
  · exact ⟨111, rfl, one _ _ _ _ _ _ (C.K 111 _ rfl) (C.K 110 _ rfl)⟩
  · exact ⟨113, rfl, one _ _ _ _ _ _ (C.K 113 _ rfl) (C.K 112 _ rfl)⟩
  · exact ⟨117, rfl, three _ _ _ _ _ _ _ _ _ _ _ _ _ _ _ _ (C.K 117 _ rfl) (C.K 114 _ rfl) (C.K 115 _ rfl) (C.K 116 _ rfl)⟩

theorem sifmt_ {mode : Int} {t : Tok} {Q : Value → Shared → Prop} (C : Cx w mg mb B) (kB : Sub B s.heap) (hA : Aok A 1)
    (hQ : ∀ h' t' t'', Sub s.heap h' → Q (.int (Builtin.bitAnd mode 61440) t') (St s h' t'')) :
    wpAny (model Pg w) A (call (.ref 85) [.int mode t]) Q E s := by
  refine call_fn [("mode", .int mode t)] [] C kB hA.room rfl rfl rfl rfl rfl rfl (locs rfl) (by simp) fun h₁ t₁ F sub₁ => ?_
  exact wpAny_execs_cons (wpAny_Return_some (wpAny_BinOp (ldm F rfl (wpAny_Constant_int (and_int (hQ h₁ _ _ sub₁))))))
end
end Mine
end
section
open PySem PySem.W PySem.Calls PyProof.Rows
set_option maxRecDepth 100000
set_option maxHeartbeats 4000000
namespace Mine
section
variable {w : World} {mg mb : Str → Option Value} {B : Heap} {A : Around} {E : Value → Shared → Prop} {s : Shared}

theorem StrsAre.snoc {vs : List Value} {ys : List Str} (h : StrsAre vs ys) (y : Str) (t : Tok) : StrsAre (vs ++ [.str y t]) (ys ++ [y]) := by
  induction h with
  | nil => exact .cons y t .nil
  | cons z u _ ih => exact .cons z u ih
theorem StrsAre.len {vs : List Value} {ys : List Str} (h : StrsAre vs ys) : vs.length = ys.length := by
  induction h with
  | nil => rfl
  | cons z u _ ih => simp [ih]

theorem find_none_of {i : Nat} {mode : Int} {l : List (Int × Str)} (h : ∀ (j : Nat) (p : Int × Str), l[j]? = some p → tst i mode p.1 = false) : signOf i mode l = if i = 0 then Str.ofString "?" else Str.ofString "-" := by
  unfold signOf
  rw [List.find?_eq_none.mpr]
  intro p hp
  obtain ⟨j, hj, e⟩ := List.getElem_of_mem hp
  have := h j p (by rw [List.getElem?_eq_getElem hj, e])
  simp [this]
theorem find_at {i k : Nat} {mode : Int} {l : List (Int × Str)} {p : Int × Str} (hk : l[k]? = some p) (ht : tst i mode p.1 = true) (h : ∀ j q, j < k → l[j]? = some q → tst i mode q.1 = false) : signOf i mode l = p.2 := by
  unfold signOf
  have hkl : k < l.length := by
    rcases Nat.lt_or_ge k l.length with q | q
    · exact q
    · rw [List.getElem?_eq_none q] at hk; cases hk
  have : l.find? (fun p => tst i mode p.1) = some p := by
    rw [List.find?_eq_some_iff_getElem]
    refine ⟨ht, k, hkl, ?_, fun j hj => ?_⟩
    · rw [List.getElem?_eq_getElem hkl] at hk; exact Option.some.inj hk
    · have := h j _ hj (List.getElem?_eq_getElem (by omega))
      simp [this]
  rw [this]

theorem sign_len (i : Nat) (mode : Int) (l : List (Int × Str)) (h : ∀ p ∈ l, p.2.length = 1) : (signOf i mode l).length = 1 := by
  unfold signOf
  cases e : l.find? (fun p => tst i mode p.1) with
  | none =>
    show Str.length (if i = 0 then Str.ofString "?" else Str.ofString "-") = 1
    split <;> decide
  | some p => exact h p (List.mem_of_find?_eq_some e)
theorem signs_sum (mode : Int) : ((signs10 mode).map (·.length)).sum ≤ 10 := by
  have h : ∀ i, i < 10 → (signOf i mode (tabs.getD i [])).length = 1 := by
    intro i hi
    refine sign_len i mode _ ?_
    have : ∀ i, i < 10 → ∀ p ∈ tabs.getD i [], p.2.length = 1 := by decide +kernel
    exact this i hi
  have e : (signs10 mode).map (·.length) = (List.range 10).map fun _ => 1 := by
    rw [signs10, List.map_map]
    apply List.map_congr_left
    intro i hi
    exact h i (List.mem_range.mp hi)
  rw [e]; decide

theorem filemode_ {mode : Int} {t : Tok} {Q : Value → Shared → Prop} (C : Cx w mg mb B) (kB : Sub B s.heap) (hA : Aok A 2)
    (hQ : ∀ h' t' t'', Sub s.heap h' → Q (.str (fmodeP mode) t') (St s h' t'')) :
    wpAny (model Pg w) A (call (.ref 125) [.int mode t]) Q E s := by
  refine call_fn [("mode", .int mode t)] [] C kB hA.room rfl rfl rfl rfl rfl rfl (locs rfl) (by simp) fun h₁ t₁ F sub₁ => ?_
  have hA' := hA.deeper (envOf (Str.ofString "filemode") default s.heap.objs.size 125 (.ref 124))
  -- perm = []
  refine wpAny_execs_cons (wpAny_Assign_Name (List_ (args_nil (newL F (by simp) fun p h₂ F₂ hp₂ sub₂ hpn hpB hpr hpL => stm F₂ fun h₃ t₃ F₃ s₃ => ?_))))
  have hp₃ := isL_same hp₂ F₂.ns s₃
  have kt : ∀ h, Sub B h → h.IsTuple 118 (tabA.map Value.ref).toArray := fun h k => ⟨_, k _ _ (C.K 118 _ rfl), rfl, 0, rfl⟩
  -- for index, table in enumerate(_filemode_table)
  refine wpAny_execs_cons (wpAny_For (Call_ (ldb C F₃ (g_no_enumerate _) boot_enumerate (callWith_type1 (args_cons (ldg C F₃ (g_filemode_table _) (args_nil (call_enumT (kt _ F₃.base) fun h₄ he hit sub₄ => wpAny_pyIter_enum he ?_))))))))
  have F₄ := F₃.grow sub₄
  have hp₄ : IsL h₄ p _ _ := sub₄ _ _ hp₃
  have hLs : s.heap.objs.size < h₃.objs.size := F₃.ns.lt
  have hn1 : h₃.get? h₃.objs.size = none := Heap.get?_none_of_le (Nat.le_refl _)
  have hn2 : h₃.get? (h₃.objs.size + 1) = none := Heap.get?_none_of_le (Nat.le_succ _)
  have hpne : ∀ b, h₃.get? b = none → b ∉ [p] := fun b hb q => by rw [List.mem_singleton.mp q, hp₃] at hb; cases hb
  have ht118 : h₃.get? 118 ≠ none := fun q => by
    obtain ⟨o, ho, _⟩ := kt _ F₃.base
    rw [ho] at q; cases q
  have h118p : (118 : Addr) ≠ p := fun q => by rw [← q] at hpB; rw [C.K 118 _ rfl] at hpB; cases hpB
  have h118L : (118 : Addr) ≠ s.heap.objs.size := fun q => by
    have := F.bl; rw [← q, C.K 118 _ rfl] at this; cases this
  have G₄ : FS B [p] s h₃ s.heap.objs.size h₄ _ := (F₃.rebase (M' := [p]) (by simp [hpB, hp₃])).grow sub₄
  have T := fun (A : Around) (hh : A.handled = none) (elts : List Expr) (k : Nat) (pos : Pos) => Itr.enumT (w := w) (elts := elts) (k := k) (pos := pos) hh (h₃.objs.size + 1) h₃.objs.size 118 (by simp) (fun q => ht118 (q ▸ hn2)) (fun q => ht118 (q ▸ hn1)) (tabA.map Value.ref)
  refine for_ (T _ (hA.deeper _).hd _ _ _) G₄ ⟨⟨_, he⟩, hit, kt _ F₄.base⟩
    (fun b hb => ?_) (by simp [h118p, h118L]) (fun i h m => m "perm" = some (.ref p) ∧ m "mode" = some (.int mode t) ∧ ∃ n vs, IsL h p (List.toArray vs) n ∧ StrsAre vs ((signs10 mode).take i)) ?_ ?_ ?_ ?_
  · simp only [List.mem_cons, List.not_mem_nil, or_false] at hb
    rcases hb with rfl | rfl
    · exact ⟨hn2, (F₃.fresh hn2).2.1, hpne _ hn2, (F₃.fresh hn2).2.2⟩
    · exact ⟨hn1, (F₃.fresh hn1).2.1, hpne _ hn1, (F₃.fresh hn1).2.2⟩
  · rintro i h h' m k ⟨m1, m2, n, vs, hl, hs⟩
    exact ⟨m1, m2, n, vs, IsL.keepD hl k, hs⟩
  · exact ⟨rfl, rfl, _, [], hp₄, .nil⟩
  · -- a turn
    rintro i v h m tt hi ⟨T, tk, x, rfl, hx, hT⟩ F ⟨m1, m2, n, vs, hl, hs⟩ G
    obtain ⟨a, ha, ws, hws, hwl, hw⟩ := tabs_at C i hi
    have hxa : x = .ref a := by
      rw [List.getElem?_map, ha] at hx; exact (Option.some.inj hx).symm
    subst hxa
    generalize hlt : tabs.getD i [] = l at *
    refine unp2 (hA.deeper _).hd G hT fun h₁ t₁ G₁ e₁ => ?_
    have hl1 := isL_ext hl G.ns e₁
    have hvl : vs.length ≤ 10 := by
      rw [StrsAre.len hs]; simp [signs10]; omega
    have fin : ∀ h' m' t' n' y ty, FS B [p] s h₁ s.heap.objs.size h' m' → m' "perm" = some (.ref p) → m' "mode" = some (.int mode t) → IsL h' p (List.toArray (vs ++ [.str y ty])) n' → y = signOf i mode l →
        ∃ h'' m'' t'', St s h' t' = St s h'' t'' ∧ FS B [p] s h s.heap.objs.size h'' m'' ∧ m'' "perm" = some (.ref p) ∧ m'' "mode" = some (.int mode t) ∧ ∃ n vs, IsL h'' p (List.toArray vs) n ∧ StrsAre vs ((signs10 mode).take (i + 1)) := by
      intro h' m' t' n' y ty F' m1' m2' hl' hy
      refine ⟨h', m', t', rfl, G₁.back F' (fun b hb => .inl hb), m1', m2', n', _, hl', ?_⟩
      have : (signs10 mode).take (i + 1) = (signs10 mode).take i ++ [y] := by
        rw [List.take_add_one]
        congr 1
        have hi' : i < 10 := hi
        rw [hy, ← hlt]
        simp [signs10, hi']
      rw [this]
      exact StrsAre.snoc hs y ty
    -- for bit, char in table
    have kta : ∀ h : Heap, Sub B h → h.IsTuple a ws.toArray := fun h k => ⟨_, k _ _ hws, rfl, 0, rfl⟩
    refine wpAny_execs_cons (wpAny_For (ldm G₁ rfl (wpAny_pyIter_tuple (kta _ G₁.base) ?_)))
    have hn1 : h₁.get? h₁.objs.size = none := Heap.get?_none_of_le (Nat.le_refl _)
    have hane : a ≠ h₁.objs.size := fun q => by have := G₁.base _ _ hws; rw [q, hn1] at this; cases this
    have hap : a ≠ p := fun q => by rw [← q, hws] at hpB; cases hpB
    have haL : a ≠ s.heap.objs.size := fun q => by have := G.bl; rw [← q, hws] at this; cases this
    have G₂ : FS B [p] s h₁ s.heap.objs.size (h₁.push { cls := .type "tuple_iterator", data := .fields #[.ref a, .int 0 0] }) _ := (G₁.rebase (M' := [p]) (fun b hb => ⟨G₁.bm b hb, G₁.mex b hb⟩)).push _
    refine for_ (Itr.tuple (hA.deeper _).hd h₁.objs.size a hane ws) G₂ ⟨⟨_, Heap.get?_push_size _ rfl, rfl, rfl⟩, kta _ G₂.base⟩ (fun b hb => ?_) (by simp [hap, haL])
      (fun j h m => m "perm" = some (.ref p) ∧ m "mode" = some (.int mode t) ∧ m "index" = some (.int i tk) ∧ IsL h p (List.toArray vs) n ∧ ∀ q pq, q < j → l[q]? = some pq → tst i mode pq.1 = false) ?_ ?_ ?_ ?_
    · rw [List.mem_singleton.mp hb]
      exact G₁.newIt hn1
    · rintro j h h' m k ⟨m1, m2, m3, hl, hno⟩
      exact ⟨m1, m2, m3, IsL.keepD hl k, hno⟩
    · exact ⟨m1, m2, rfl, hl1.push _, fun q pq hq => by omega⟩
    · -- a turn within
      rintro j v h m t' hj hv F₂ ⟨m1, m2, m3, hl, hno⟩ G
      obtain ⟨v', pq, hv', hpq, b, tb, uc, rfl, hb⟩ := hw j (by omega)
      rw [hv] at hv'
      cases hv'
      refine unp2 (hA.deeper _).hd G (F₂.base _ _ hb) fun h₃ t₃ G₃ e₃ => ?_
      have hl3 := isL_ext hl G.ns e₃
      -- if index == 0
      refine wpAny_execs_cons (wpAny_If (wpAny_isTrue_Compare1 (ldm G₃ m3 (wpAny_Constant_int (eq_int (wpAny_truthy_bool (split_bool (fun e0 => ?_) (fun e0 => ?_))))))))
      · have hi0 : i = 0 := by have : (i : Int) = 0 := by simpa using e0
                               omega
        refine wpAny_execs_cons (wpAny_If (wpAny_isTrue_Compare1 (Call_ (ldg C G₃ (g_S_IFMT _) (callF C rfl rfl (args_cons (ldm G₃ m2 (args_nil ⟨G₃.base, ?_⟩))))))))
        refine sifmt_ (s := St s h₃ _) C G₃.base (hA.deeper _) fun h₄ u₄ t₄ sub₄ => ?_
        have G₄ := G₃.grow sub₄
        have hl4 : IsL h₄ p _ _ := sub₄ _ _ hl3
        refine ldm G₄ rfl (eq_int (wpAny_truthy_bool (split_bool (fun e1 => ?_) (fun e1 => ?_))))
        · refine wpAny_execs_cons (wpAny_Expr (MethodCall_ (ldm G₄ m1 (meth_append hl4 (callWith_method1 (args_cons (ldm G₄ rfl (args_nil (appendL G₄ hl4 hpB (.inl (by simp)) (by omega) fun h₅ n₅ G₅ hl5 s₅ => ?_)))))))))
          refine wpAny_execs_cons (wpAny_Break (wpAny_execs_nil (fin h₅ _ _ _ _ _ (F₂.back G₅ (fun b hb => .inl hb)) m1 m2 hl5 ?_)))
          exact (find_at hpq (by simp [tst, hi0]; simpa using e1) hno).symm
        · refine wpAny_execs_nil (wpAny_execs_nil (wpAny_execs_nil ⟨h₄, _, _, rfl, G₄, m1, m2, m3, hl4, fun q pq' hq hpq' => ?_⟩))
          rcases Nat.lt_or_ge q j with c | c
          · exact hno q pq' c hpq'
          · have : q = j := by omega
            subst this
            rw [hpq] at hpq'; cases hpq'
            simp [tst, hi0]; simpa using e1
      · have hi0 : i ≠ 0 := by rintro rfl; simp at e0
        refine wpAny_execs_cons (wpAny_If (wpAny_isTrue_Compare1 (wpAny_BinOp (ldm G₃ m2 (ldm G₃ rfl (and_int (ldm G₃ rfl (eq_int (wpAny_truthy_bool (split_bool (fun e1 => ?_) (fun e1 => ?_)))))))))))
        · refine wpAny_execs_cons (wpAny_Expr (MethodCall_ (ldm G₃ m1 (meth_append hl3 (callWith_method1 (args_cons (ldm G₃ rfl (args_nil (appendL G₃ hl3 hpB (.inl (by simp)) (by omega) fun h₅ n₅ G₅ hl5 s₅ => ?_)))))))))
          refine wpAny_execs_cons (wpAny_Break (wpAny_execs_nil (fin h₅ _ _ _ _ _ (F₂.back G₅ (fun b hb => .inl hb)) m1 m2 hl5 ?_)))
          exact (find_at hpq (by simp [tst, hi0]; simpa using e1) hno).symm
        · refine wpAny_execs_nil (wpAny_execs_nil (wpAny_execs_nil ⟨h₃, _, _, rfl, G₃, m1, m2, m3, hl3, fun q pq' hq hpq' => ?_⟩))
          rcases Nat.lt_or_ge q j with c | c
          · exact hno q pq' c hpq'
          · have : q = j := by omega
            subst this
            rw [hpq] at hpq'; cases hpq'
            simp [tst, hi0]; simpa using e1
    · -- else
      rintro h m t' F₂ ⟨m1, m2, m3, hl, hno⟩
      have hnone : signOf i mode l = if i = 0 then Str.ofString "?" else Str.ofString "-" := find_none_of (fun j pq hjq => hno j pq (by
        rcases Nat.lt_or_ge j l.length with q | q
        · rw [hwl]; exact q
        · rw [List.getElem?_eq_none q] at hjq; cases hjq) hjq)
      refine wpAny_execs_cons (wpAny_If (wpAny_isTrue_Compare1 (ldm F₂ m3 (wpAny_Constant_int (eq_int (wpAny_truthy_bool (split_bool (fun e0 => ?_) (fun e0 => ?_))))))))
      · have hi0 : i = 0 := by have : (i : Int) = 0 := by simpa using e0
                               omega
        refine wpAny_execs_cons (wpAny_Expr (MethodCall_ (ldm F₂ m1 (meth_append hl (callWith_method1 (args_cons (Constant_str (args_nil (appendL F₂ hl hpB (.inl (by simp)) (by omega) fun h₅ n₅ G₅ hl5 s₅ => ?_)))))))))
        exact wpAny_execs_nil (wpAny_execs_nil (wpAny_execs_nil (fin h₅ _ _ _ _ _ G₅ m1 m2 hl5 (by rw [hnone, if_pos hi0]))))
      · have hi0 : i ≠ 0 := by rintro rfl; simp at e0
        refine wpAny_execs_cons (wpAny_Expr (MethodCall_ (ldm F₂ m1 (meth_append hl (callWith_method1 (args_cons (Constant_str (args_nil (appendL F₂ hl hpB (.inl (by simp)) (by omega) fun h₅ n₅ G₅ hl5 s₅ => ?_)))))))))
        exact wpAny_execs_nil (wpAny_execs_nil (wpAny_execs_nil (fin h₅ _ _ _ _ _ G₅ m1 m2 hl5 (by rw [hnone, if_neg hi0]))))
  · -- return ''.join(perm)
    rintro h m tt G ⟨m1, m2, n, vs, hl, hs⟩
    refine wpAny_execs_nil ?_
    have hs' : StrsAre (List.toArray vs).toList (signs10 mode) := by
      have : (signs10 mode).take (tabA.map Value.ref).length = signs10 mode := rfl
      rw [this] at hs; exact hs
    have F₅ := F₃.back G (fun b hb => .inr (by rw [List.mem_singleton.mp hb]; exact hpr))
    refine wpAny_execs_cons (wpAny_Return_some (MethodCall_ (Constant_str (GM.join (callWith_method1 (args_cons (ldm F₅ m1 (args_nil ?_))))))))
    refine join_listW hl.isList hs' (by decide) ?_ (fun t' k => hQ h t' k (fun b o e => F₅.kp b o (by simp) e))
    have : (signs10 mode).length = 10 := by simp [signs10]
    have hsum : ((signs10 mode).map (·.length)).sum ≤ 10 := signs_sum mode
    omega
end
end Mine
end
section
open PySem PySem.W PySem.Calls PyProof.Rows
set_option maxRecDepth 100000
set_option maxHeartbeats 4000000
namespace Mine

/-- a list of labels -/
noncomputable def LabAt (h : Heap) (a : Addr) (ls : List Nat) : Prop := ∃ vs n, IsL h a (List.toArray vs) n ∧ StrsAre vs (ls.map lab)
theorem LabAt.keepD {h h' : Heap} {a : Addr} {ls : List Nat} (x : LabAt h a ls) (k : KeepD h h') : LabAt h' a ls := let ⟨vs, n, hl, hs⟩ := x; ⟨vs, n, IsL.keepD hl k, hs⟩
theorem LabAt.sub {h h' : Heap} {a : Addr} {ls : List Nat} (x : LabAt h a ls) (k : Sub h h') : LabAt h' a ls := let ⟨vs, n, hl, hs⟩ := x; ⟨vs, n, k _ _ hl, hs⟩
theorem LabAt.ext {h h' : Heap} {L a : Addr} {m : Str → Option Value} {ls : List Nat} (x : LabAt h a ls) (hn : h.Ns L m) (k : Heap.ExtBut L h h') : LabAt h' a ls := let ⟨vs, n, hl, hs⟩ := x; ⟨vs, n, isL_ext hl hn k, hs⟩

theorem StrsAre.get {vs : List Value} {ys : List Str} (h : StrsAre vs ys) : ∀ (i : Nat) (y : Str), ys[i]? = some y → ∃ t, vs[i]? = some (Value.str y t) := by
  induction h with
  | nil => intro i y hy; simp at hy
  | cons z u _ ih =>
    intro i y hy
    cases i with
    | zero => simp at hy; subst hy; exact ⟨u, rfl⟩
    | succ i => simpa using ih i y (by simpa using hy)

theorem lab_empty {i : Nat} (h : i < 5) : (lab i == Str.ofString "") = (i == 4) := by
  rcases (by omega : i = 0 ∨ i = 1 ∨ i = 2 ∨ i = 3 ∨ i = 4) with rfl | rfl | rfl | rfl | rfl <;> decide
theorem lab_seven {i : Nat} (h : i < 5) : (lab i == Str.ofString "7") = (i == 3) := by
  rcases (by omega : i = 0 ∨ i = 1 ∨ i = 2 ∨ i = 3 ∨ i = 4) with rfl | rfl | rfl | rfl | rfl <;> decide
theorem lab_empty' {i : Nat} (h : i < 5) : (Str.ofString "" == lab i) = (i == 4) := by
  rcases (by omega : i = 0 ∨ i = 1 ∨ i = 2 ∨ i = 3 ∨ i = 4) with rfl | rfl | rfl | rfl | rfl <;> decide
theorem lab_seven' {i : Nat} (h : i < 5) : (Str.ofString "7" == lab i) = (i == 3) := by
  rcases (by omega : i = 0 ∨ i = 1 ∨ i = 2 ∨ i = 3 ∨ i = 4) with rfl | rfl | rfl | rfl | rfl <;> decide
theorem lab_local {i : Nat} (h : i < 5) : (lab i == Str.ofString "local") = (i == 2) := by
  rcases (by omega : i = 0 ∨ i = 1 ∨ i = 2 ∨ i = 3 ∨ i = 4) with rfl | rfl | rfl | rfl | rfl <;> decide

section
variable {w : World} {mg mb : Str → Option Value} {B : Heap} {A : Around} {E : Value → Shared → Prop} {s : Shared}

/-- xs[-1] -/
theorem itemLast {value slice : PySem.Expr} {l : Addr} {z : List Value} {n : Nat} {t : Tok} {x : Value} {Q : Value → Shared → Prop} (hl : IsL s.heap l z.toArray n) (hx : z[z.length - 1]? = some x) (hz : z.length ≤ 1000)
    (h : Q x s) (hs : subscripted slice false (.ref l) (.int (-1) t) = operate [.ref l, .int (-1) t] (getItem (.ref l) (.int (-1) t)) := by with_unfolding_all rfl) :
    wpAny (model Pg w) A (subscriptTail value slice (.ref l) (.int (-1) t)) Q E s := by
  have hi : z.length - 1 < z.length := by
    rcases Nat.lt_or_ge (z.length - 1) z.length with q | q
    · exact q
    · rw [List.getElem?_eq_none q] at hx; cases hx
  have e : ((-1 : Int) + (z.toArray.size : Int)).toNat = z.length - 1 := by simp; omega
  exact subscriptTail_builtinR hl.isList.typeIs slot_list_getitem.lookup (wpAny_getItem_list_neg (Q := fun r s' => r = x ∧ Q r s') hl.isList (by omega) (by simp; omega) (by omega) (by rw [e]; simpa using hx) ⟨rfl, h⟩) hs

theorem goesOn_ {a : Addr} {ls : List Nat} {Q : Value → Shared → Prop} (C : Cx w mg mb B) (kB : Sub B s.heap) (hA : Aok A 1) (hlab : LabAt s.heap a ls) (hok : LsOk ls)
    (hQ : ∀ h' t', Sub s.heap h' → Q (.bool (goesOn ls)) (St s h' t')) :
    wpAny (model Pg w) A (call (.ref 139) [.ref a]) Q E s := by
  obtain ⟨vs, n, hl₀, hs⟩ := hlab
  have hlen : vs.length = ls.length := by rw [StrsAre.len hs]; simp
  have h4 := hok.2.1
  refine call_fn [("labels", .ref a)] [] C kB hA.room rfl rfl rfl rfl rfl rfl (locs rfl) (by simp) fun h₁ t₁ F sub₁ => ?_
  have hl : IsL h₁ a vs.toArray n := sub₁ _ _ hl₀
  -- len(labels) < 2
  refine wpAny_execs_cons (wpAny_If (isTrue_or (wpAny_isTrue_Compare1 (Call_ (ldb C F rfl boot_len (callWith_builtin1 (args_cons (ldm F rfl (args_nil (lenL hl (by omega) fun u2 t2 => ?_))))))))))
  refine wpAny_Constant_int (lt_int (wpAny_truthy_bool (split_dec (fun e1 => ?_) (fun e1 => ?_))))
  · simp only [if_true]
    refine wpAny_execs_cons (wpAny_Return_some (lit_false ?_))
    have : goesOn ls = false := by
      have : ls.length < 2 := by omega
      simp [goesOn, this]
    rw [this] at hQ
    exact hQ h₁ _ sub₁
  · have hl2 : 2 ≤ ls.length := by omega
    obtain ⟨f, hf⟩ : ∃ f, ls[0]? = some f := ⟨ls[0], List.getElem?_eq_getElem (by omega)⟩
    obtain ⟨g, hg⟩ : ∃ g, ls[ls.length - 1]? = some g := ⟨ls[ls.length - 1], List.getElem?_eq_getElem (by omega)⟩
    have hf5 : f < 5 := hok.2.2 f (List.mem_of_getElem? hf)
    have hg5 : g < 5 := hok.2.2 g (List.mem_of_getElem? hg)
    have hhead : ls.headD 0 = f := by
      cases ls with
      | nil => simp at hf
      | cons x r => simpa using hf
    have hlast : ls.getLastD 0 = g := by
      rw [List.getLastD_eq_getLast?, List.getLast?_eq_getElem?, hg]; rfl
    have hlt2 : decide (ls.length < 2) = false := by simp; omega
    have hgo : goesOn ls = (!(f == 4 || g == 4 || g == 3) && (decide (2 < ls.length) || g == 2)) := by
      simp only [goesOn, hhead, hlast, hlt2, Bool.false_or]
    obtain ⟨tf, hvf⟩ := StrsAre.get hs 0 (lab f) (by rw [List.getElem?_map, hf]; rfl)
    obtain ⟨tg, hvg⟩ := StrsAre.get hs (ls.length - 1) (lab g) (by rw [List.getElem?_map, hg]; rfl)
    rw [← hlen] at hvg
    -- labels[0] == ''
    refine isTrue_or (wpAny_isTrue_Compare1 (Subscript_ (ldm F rfl (wpAny_Constant_int (itemL hl (i := 0) rfl hvf (by omega) (Constant_str (eq_str (wpAny_truthy_bool (split_bool (fun e2 => ?_) (fun e2 => ?_))))))))))
    · simp only [if_true]
      refine wpAny_execs_cons (wpAny_Return_some (lit_false ?_))
      rw [lab_empty hf5] at e2
      have : goesOn ls = false := by rw [hgo, e2]; simp
      rw [this] at hQ
      exact hQ h₁ _ sub₁
    · rw [lab_empty hf5] at e2
      -- labels[-1] in ['', '7']
      refine isTrue_or (wpAny_isTrue_Compare1 (Subscript_ (ldm F rfl (UnaryOp_ (wpAny_Constant_int (neg_int (itemLast hl hvg (by omega) ?_)))))))
      refine List_ (args_cons (Constant_str (args_cons (Constant_str (args_nil (newL F (by simp) fun l₂ h₂ F₂ hl₂ sub₂ _ _ _ _ => ?_))))))
      refine PySem.SeqRoads2.in_list (fun y => match y with | .str z _ => z == lab g | _ => false) ?_ hl₂ (wpAny_truthy_bool ?_)
      · intro y hy
        simp at hy
        rcases hy with rfl | rfl
        · exact eqGives_str _ _ _ _
        · exact eqGives_str _ _ _ _
      · have hany : ∀ u u' : Tok, (Array.any (List.toArray [Value.str (Str.ofString "") u, Value.str (Str.ofString "7") u']) fun y => match y with | .str z _ => z == lab g | _ => false) = (g == 4 || g == 3) := by
          intro u u'
          simp [lab_empty' hg5, lab_seven' hg5]
        rw [hany]
        have sub2 : Sub s.heap h₂ := fun b o e => F₂.kp b o (by simp) e
        refine split_bool (fun e3 => ?_) (fun e3 => ?_)
        · simp only [if_true]
          refine wpAny_execs_cons (wpAny_Return_some (lit_false ?_))
          have : goesOn ls = false := by rw [hgo]; simp only [Bool.or_assoc, e3]; simp
          rw [this] at hQ
          exact hQ h₂ _ sub2
        · refine isTrue_or_nil ?_
          simp only [Bool.false_eq_true, if_false]
          refine wpAny_execs_nil ?_
          have hgo' : goesOn ls = (decide (2 < ls.length) || g == 2) := by
            rw [hgo]; simp only [Bool.or_assoc, e2, e3]; simp
          rw [hgo'] at hQ
          have hl2 : IsL h₂ a vs.toArray n := sub₂ _ _ hl
          -- return len(labels) > 2 or labels[-1] == 'local'
          refine wpAny_execs_cons (wpAny_Return_some (BoolOp_or (wpAny_Compare1 (Call_ (ldb C F₂ rfl boot_len (callWith_builtin1 (args_cons (ldm F₂ rfl (args_nil (lenL hl2 (by omega) fun u3 t3 => ?_))))))))))
          refine wpAny_Constant_int (gt_int (wpAny_truthy_bool (split_dec (fun e4 => ?_) (fun e4 => ?_))))
          · have : decide (2 < ls.length) = true := by simp; omega
            rw [this] at hQ
            have e5 : decide ((2 : Int) < (vs.length : Int)) = true := by simp; omega
            rw [e5]
            exact hQ h₂ _ sub2
          · have : decide (2 < ls.length) = false := by simp; omega
            rw [this, ← lab_local hg5] at hQ
            refine BoolOp_one (wpAny_Compare1 (Subscript_ (ldm F₂ rfl (UnaryOp_ (wpAny_Constant_int (neg_int (itemLast hl2 hvg (by omega) (Constant_str (eq_str ?_)))))))))
            exact hQ h₂ _ sub2
end
end Mine
end
section
open PySem PySem.W PySem.Calls PyProof.Rows
set_option maxRecDepth 100000
set_option maxHeartbeats 4000000
namespace Mine

noncomputable abbrev Row := List Nat × Int
noncomputable def RowAt (h : Heap) (v : Value) (r : Row) : Prop := ∃ T la t, v = .ref T ∧ h.get? T = some (tupO [.ref la, .int r.2 t]) ∧ LabAt h la r.1 ∧ LsOk r.1
/-- a list of values that are so and so -/
noncomputable def ListAt {α : Type} (P : Heap → Value → α → Prop) (h : Heap) (a : Addr) (xs : List α) : Prop := ∃ vs n, IsL h a (List.toArray vs) n ∧ vs.length = xs.length ∧ ∀ (i : Nat) v x, vs[i]? = some v → xs[i]? = some x → P h v x
theorem RowAt.keepD {h h' : Heap} {v : Value} {r : Row} (x : RowAt h v r) (k : KeepD h h') : RowAt h' v r := let ⟨T, la, t, e, hT, hl, ok⟩ := x; ⟨T, la, t, e, tup_keepD hT k, hl.keepD k, ok⟩
theorem ListAt.keepD {α : Type} {P : Heap → Value → α → Prop} {h h' : Heap} {a : Addr} {xs : List α} (hP : ∀ v x, P h v x → P h' v x) (x : ListAt P h a xs) (k : KeepD h h') : ListAt P h' a xs :=
  let ⟨vs, n, hl, hlen, hv⟩ := x; ⟨vs, n, IsL.keepD hl k, hlen, fun i v x h1 h2 => hP v x (hv i v x h1 h2)⟩

noncomputable def labelsOf (x : Int) : List Nat := (List.range (x.fmod 4 + 1).toNat).map fun k => (((x.fdiv 4).fdiv (5 ^ k)).fmod 5).toNat
noncomputable def modeOf (x : Int) : Int := (x * 40503 + 16877).fmod 65536
noncomputable def rowOf (x : Int) : Row := (labelsOf x, modeOf x)
noncomputable def rows3 : List Row := [([0, 1, 2], 16877), ([1, 1, 2], 17896), ([0, 1, 3], 35273)]
noncomputable def rowsP (ns : List Int) : List Row := rows3 ++ (ns.take 8).map rowOf

theorem fmod_bounds (x : Int) {k : Int} (hk : 0 < k) : 0 ≤ x.fmod k ∧ x.fmod k < k := ⟨Int.fmod_nonneg_of_pos x hk, Int.fmod_lt_of_pos x hk⟩
theorem labelsOf_ok (x : Int) : LsOk (labelsOf x) := by
  have h := fmod_bounds x (k := 4) (by omega)
  refine ⟨by simp [labelsOf]; omega, by simp [labelsOf]; omega, fun i hi => ?_⟩
  simp only [labelsOf, List.mem_map] at hi
  obtain ⟨k, _, rfl⟩ := hi
  have := fmod_bounds ((x.fdiv 4).fdiv (5 ^ k)) (k := 5) (by omega)
  omega

theorem IntsAre.at' {vs : List Value} {ns : List Int} (h : IntsAre vs ns) {i : Nat} {v : Value} (hv : vs[i]? = some v) : ∃ n t, v = .int n t ∧ ns[i]? = some n := by
  induction h generalizing i with
  | nil => simp at hv
  | cons n t _ ih =>
    cases i with
    | zero => simp at hv; exact ⟨n, t, hv.symm, rfl⟩
    | succ i => simpa using ih (by simpa using hv)

section
variable {w : World} {mg mb : Str → Option Value} {B : Heap} {A : Around} {E : Value → Shared → Prop} {s : Shared}
variable {M : List Addr} {s₀ : Shared} {r h h' : Heap} {L : Addr} {m : Str → Option Value} {name : Str} {scope : Scope} {a : Addr} {cd : Value}

/-- xs[:k] -/
theorem sliceUpto {value : PySem.Expr} {hi : PySem.Expr} {p : Pos} {l : Addr} {vs : List Value} {env : Env} {k : Nat} {uk : Tok} {Q : Value → Shared → Prop} (F : FS B M s₀ r L h m) (hl : h.IsList l vs.toArray) (hsz : vs.length ≤ 1000)
    (hQ : ∀ b h', FS B M s₀ r L h' m → IsL h' b (List.toArray (vs.take k)) 0 → Sub h h' → h.get? b = none → Q (.ref b) (St s₀ h' s.toks))
    (hst : s = St s₀ h s.toks := by rfl)
    (hs : ∀ a, subscripted (.Slice none (some hi) none p) false (.ref l) (.ref a) = operate [.ref a, .ref l] (getItem (.ref l) (.ref a)) := by intro _; with_unfolding_all rfl)
    (ht : ∀ r, letTemporaryGo value (.ref l) r = pure () := by intro _; with_unfolding_all rfl) :
    wpAny (model Pg w) A (evalPart none env) (fun st s₃ =>
      wpAny (model Pg w) A (subscriptTail value (.Slice none (some hi) none p) (.ref l) (.ref s₃.heap.objs.size)) Q E
                  { heap := s₃.heap.push { cls := Value.type "slice", data := Data.fields #[.none, .int k uk, st] },
                    gens := s₃.gens, drawn := s₃.drawn, toks := s₃.toks, os := s₃.os }) E s := by
  obtain ⟨h1, g1, d1, t1, o1⟩ := s
  cases hst
  refine wpAny_evalPart_none ?_
  refine subscriptTail_ops (Heap.IsList.typeIs (s := St s₀ (h.push { cls := Value.type "slice", data := Data.fields #[.none, .int k uk, .none] }) t1) (hl.push _)) list_getitem_lookup
    (wpAny_getItem_list_slice (hl.push _) (Heap.IsSliceOf.new ..) .none (.int _ _) .none (by simp) ?_ (by rw [size_line]; simp; omega)) (hs _) ht
  rw [slicePick_upto']
  refine hQ _ _ ((F.push _).push _) (Heap.get?_push_size _ rfl) (Sub.trans (Sub.push _ _) (Sub.push _ _)) (Heap.get?_none_of_le (by show h.objs.size ≤ (h.push _).objs.size; rw [Heap.size_push]; omega))

theorem forRange {target : PySem.Expr} {body orelse : List Stmt} {env : Env} {n : Int} {t : Tok} {N : Nat} {R : Result → Shared → Prop} {pos : Pos} (hA : A.handled = none) (F : FS B M s₀ h L h m) (hn : n = N) (hN : N ≤ 1000)
    (J : Nat → Heap → (Str → Option Value) → Prop) (hJ : ∀ i h h' m, KeepD h h' → J i h m → J i h' m) (h0 : J 0 h m)
    (turn : ∀ i v h' m' t, i < N → (∃ t, v = .int i t) → FS B M s₀ h L h' m' → J i h' m' → FS B M s₀ h' L h' m' →
      wpAny (model Pg w) A (assign target env v) (fun _ s₂ => wpAny (model Pg w) A (execs body env) (fun f s₃ => match f with
          | .next | .cont => ∃ h'' m'' t', s₃ = St s₀ h'' t' ∧ FS B M s₀ h' L h'' m'' ∧ J (i + 1) h'' m''
          | .brk => R (.ok .next) s₃
          | .ret v => R (.ok (.ret v)) s₃) (notedBy (model Pg w) A env fun e s' => R (.error e) s') s₂) (notedBy (model Pg w) A env fun e s' => R (.error e) s') (St s₀ h' t))
    (fin : ∀ h' m' t, FS B M s₀ h L h' m' → J N h' m' → wpAny (model Pg w) A (execs orelse env) (fun f s₃ => R (.ok f) s₃) (notedBy (model Pg w) A env fun e s' => R (.error e) s') (St s₀ h' t)) (hst : s = St s₀ h s.toks := by rfl) :
    wpAny (model Pg w) A (call (.type "range") [.int n t]) (fun x s₁ => wpAny (model Pg w) A (pyIter x) (fun it s₂ => codeAny (model Pg w) A (.forLoop target it body orelse env) R s₂) E s₁) E s := by
  obtain ⟨h1, g1, d1, t1, o1⟩ := s
  cases hst
  subst hn
  refine call_range_1 (wpAny_pyIter_range (IsRange.new ..) ?_ ?_)
  · exact small_one (by omega) (by omega) (by omega) (by omega)
  · have e : Builtin.Range.rangeSize 0 (N : Int) 1 = N := by
      rw [rangeSize_one]; split <;> omega
    rw [e]
    have hz : (h.push { cls := .type "range", data := .fields #[.int 0 t1, .int N t, .int 1 (t1 + 1)] }).objs.size = h.objs.size + 1 := Heap.size_push ..
    have hn : h.get? (h.objs.size + 1) = none := Heap.get?_none_of_le (Nat.le_succ _)
    have F' : FS B M s₀ h L ((h.push { cls := .type "range", data := .fields #[.int 0 t1, .int N t, .int 1 (t1 + 1)] }).push { cls := .type "range_iterator", data := .fields #[rawInt 0, rawInt N, rawInt 1] }) m := (F.push _).push _
    have hI := Heap.get?_push_size (h.push { cls := .type "range", data := .fields #[.int 0 t1, .int N t, .int 1 (t1 + 1)] }) (o := { cls := .type "range_iterator", data := .fields #[rawInt 0, rawInt N, rawInt 1] }) rfl
    rw [hz] at hI
    show codeAny _ _ (.forLoop target (.ref ((h.push _).objs.size)) body orelse env) R _
    rw [hz]
    exact for_ (Itr.range hA (h.objs.size + 1) N) F' (by simpa using hI) (fun b hb => by rw [List.mem_singleton.mp hb]; exact F.newIt hn) (by simp) J hJ (hJ _ _ _ _ (KeepD.of_sub (Sub.trans (Sub.push _ _) (Sub.push _ _))) h0) turn fin
end
end Mine
end
section
open PySem PySem.W PySem.Calls PyProof.Rows
set_option maxRecDepth 100000
set_option maxHeartbeats 4000000
set_option linter.unusedVariables false
namespace Mine
section
variable {w : World} {B : Heap} {A : Around} {E : Value → Shared → Prop} {s : Shared} {M : List Addr} {s₀ : Shared} {r h h' : Heap} {L : Addr} {m : Str → Option Value} {Q : Value → Shared → Prop}

/-- forget how many marks were given out -/
theorem flat {α : Type} {tree : Sem α} {Q : α → Shared → Prop} (F : FS B M s₀ r L h m) (hQ : ∀ t', wpAny (model Pg w) A tree Q E (St s₀ h t')) (hst : s = St s₀ h s.toks := by rfl) : wpAny (model Pg w) A tree Q E s := by
  rw [hst]; exact hQ _
theorem litS {x : Str} {k : Nat} {pos : Pos} {env : Env} (F : FS B M s₀ r L h m) (hQ : ∀ u t', Q (.str x u) (St s₀ h t')) (hst : s = St s₀ h s.toks := by rfl) : wpAny (model Pg w) A (eval (.Constant (.str x) k pos) env) Q E s := by
  obtain ⟨h1, g1, d1, t1, o1⟩ := s
  cases hst
  exact Constant_str (hQ _ _)
theorem litI {i : Int} {k : Nat} {pos : Pos} {env : Env} (F : FS B M s₀ r L h m) (hQ : ∀ u t', Q (.int i u) (St s₀ h t')) (hst : s = St s₀ h s.toks := by rfl) : wpAny (model Pg w) A (eval (.Constant (.int i) k pos) env) Q E s := by
  obtain ⟨h1, g1, d1, t1, o1⟩ := s
  cases hst
  exact wpAny_Constant_int (hQ _ _)
theorem newLf {vs : List Value} (F : FS B M s₀ r L h m) (hz : vs.length ≤ 1000)
    (hQ : ∀ l h' t', FS B M s₀ r L h' m → IsL h' l vs.toArray 0 → Sub h h' → h.get? l = none → Q (.ref l) (St s₀ h' t')) (hst : s = St s₀ h s.toks := by rfl) : wpAny (model Pg w) A (newList vs) Q E s :=
  newL F hz (fun l h' F' l' k n _ _ _ => hQ l h' _ F' l' k n) hst
theorem newTf {vs : List Value} (F : FS B M s₀ r L h m) (hz : vs.length ≤ 1000)
    (hQ : ∀ l h' t', FS B M s₀ r L h' m → h'.get? l = some (tupO vs) → Sub h h' → h.get? l = none → Q (.ref l) (St s₀ h' t')) (hst : s = St s₀ h s.toks := by rfl) : wpAny (model Pg w) A (newTuple vs) Q E s :=
  newT F hz (fun l h' F' l' k n => hQ l h' _ F' l' k n) hst
theorem appendLf {l : Addr} {z : List Value} {n : Nat} {v : Value} (F : FS B M s₀ r L h m) (hl : IsL h l z.toArray n) (hB : B.get? l = none) (hM : l ∈ M ∨ r.get? l = none) (hz : z.length ≤ 1000)
    (hQ : ∀ h' n' t', FS B M s₀ r L h' m → IsL h' l (List.toArray (z ++ [v])) n' → Heap.SameBut l h h' → Q .none (St s₀ h' t')) (hst : s = St s₀ h s.toks := by rfl) :
    wpAny (model Pg w) A (call (.builtin "list.append") [.ref l, v]) Q E s :=
  appendL F hl hB hM hz (fun h' n' F' hl' hs => hQ h' n' _ F' hl' hs) hst
variable {a b : Int} {t u : Tok}
theorem addI (F : FS B M s₀ r L h m) (hQ : ∀ u t', Q (.int (a + b) u) (St s₀ h t')) (hst : s = St s₀ h s.toks := by rfl) : wpAny (model Pg w) A (binaryOp .Add (.int a t) (.int b u)) Q E s := by
  obtain ⟨h1, g1, d1, t1, o1⟩ := s
  cases hst
  exact add_int (hQ _ _)
theorem mulI (F : FS B M s₀ r L h m) (hb : Builtin.Int.intBits b ≤ 64 ∨ Builtin.Int.intBits a ≤ 64) (hQ : ∀ u t', Q (.int (a * b) u) (St s₀ h t')) (hst : s = St s₀ h s.toks := by rfl) : wpAny (model Pg w) A (binaryOp .Mult (.int a t) (.int b u)) Q E s := by
  obtain ⟨h1, g1, d1, t1, o1⟩ := s
  cases hst
  exact PyProof.Rows.mul_int (hQ _ _) (hb.elim IntMulOk.of_right IntMulOk.of_left)
theorem modI (F : FS B M s₀ r L h m) (hb : b ≠ 0) (hQ : ∀ u t', Q (.int (a.fmod b) u) (St s₀ h t')) (hst : s = St s₀ h s.toks := by rfl) : wpAny (model Pg w) A (binaryOp .Mod (.int a t) (.int b u)) Q E s := by
  obtain ⟨h1, g1, d1, t1, o1⟩ := s
  cases hst
  exact mod_int' hb (hQ _ _)
theorem fdivI (F : FS B M s₀ r L h m) (hb : b ≠ 0) (hp : Builtin.divisionGoesByPylong a b = false) (hQ : ∀ u t', Q (.int (a.fdiv b) u) (St s₀ h t')) (hst : s = St s₀ h s.toks := by rfl) : wpAny (model Pg w) A (binaryOp .FloorDiv (.int a t) (.int b u)) Q E s := by
  obtain ⟨h1, g1, d1, t1, o1⟩ := s
  cases hst
  exact floordiv_int hb (hQ _ _) (.inl hp)
theorem andI (F : FS B M s₀ r L h m) (hQ : ∀ u t', Q (.int (Builtin.bitAnd a b) u) (St s₀ h t')) (hst : s = St s₀ h s.toks := by rfl) : wpAny (model Pg w) A (binaryOp .BitAnd (.int a t) (.int b u)) Q E s := by
  obtain ⟨h1, g1, d1, t1, o1⟩ := s
  cases hst
  exact and_int (hQ _ _)
theorem powI (F : FS B M s₀ r L h m) (hn : 0 ≤ b) (hsz : (Builtin.Int.intBits a : Int) * b ≤ 2 ^ 27) (hQ : ∀ u t', Q (.int (a ^ b.toNat) u) (St s₀ h t')) (hst : s = St s₀ h s.toks := by rfl) : wpAny (model Pg w) A (binaryOp .Pow (.int a t) (.int b u)) Q E s := by
  obtain ⟨h1, g1, d1, t1, o1⟩ := s
  cases hst
  exact pow_int hn hsz (hQ _ _)
theorem negI (F : FS B M s₀ r L h m) (hQ : ∀ u t', Q (.int (-a) u) (St s₀ h t')) (hst : s = St s₀ h s.toks := by rfl) : wpAny (model Pg w) A (unaryOp .USub (.int a t)) Q E s := by
  obtain ⟨h1, g1, d1, t1, o1⟩ := s
  cases hst
  exact neg_int (hQ _ _)
end
end Mine
end
section
open PySem PySem.W PySem.Calls PyProof.Rows
set_option maxRecDepth 100000
set_option maxHeartbeats 4000000
namespace Mine

/-- all lists and tuples but M are kept -/
noncomputable def KV (M : List Addr) (h h' : Heap) : Prop := ∀ b o vs n, b ∉ M → o.data = .seq vs n → h.get? b = some o → h'.get? b = some o
section
variable {M : List Addr} {h h' h₁ h₂ h₃ : Heap} {L l : Addr} {m : Str → Option Value}
theorem KV.refl : KV M h h := fun _ _ _ _ _ _ e => e
theorem KV.trans (x : KV M h₁ h₂) (y : KV M h₂ h₃) : KV M h₁ h₃ := fun b o vs n hb hd e => y b o vs n hb hd (x b o vs n hb hd e)
theorem KV.of_sub (k : Sub h h') : KV M h h' := fun b o _ _ _ _ e => k b o e
theorem KV.of_D (k : KeepD h h') : KV M h h' := fun b o vs n _ hd e => k b o (fun ws q => by rw [hd] at q; cases q) e
theorem KV.of_M (k : KeepM M h h') : KV M h h' := fun b o _ _ hb _ e => k b o hb e
theorem KV.of_ns (hn : h.Ns L m) (k : Heap.ExtBut L h h') : KV M h h' := fun b o vs n _ hd e => k b o (fun q => by
  obtain ⟨o', es, ep, e', d, _⟩ := hn
  rw [q, e'] at e; cases e; rw [hd] at d; cases d) e
theorem KV.of_same (hn : h.Ns L m) (k : Heap.SameBut L h h') : KV M h h' := KV.of_ns hn k.extBut
theorem KV.weak (x : KV [] h h') : KV M h h' := fun b o vs n _ hd e => x b o vs n (by simp) hd e
theorem FS.kv {B r : Heap} {s₀ : Shared} {m' : Str → Option Value} (F : FS B M s₀ r L h m) (hn : r.Ns L m') : KV M r h := fun b o vs n hb hd e => F.keep b o hb (fun q => by
  obtain ⟨o', es, ep, e', d, _⟩ := hn
  rw [q, e'] at e; cases e; rw [hd] at d; cases d) e

/-- a list of references -/
noncomputable def RL (h : Heap) (l : Addr) : Prop := ∃ vs n, IsL h l (List.toArray vs) n ∧ ∀ v ∈ vs, ∃ a, v = .ref a
theorem isL_kv {its : Array Value} {n : Nat} (hl : IsL h l its n) (k : KV M h h') (hM : l ∉ M) : IsL h' l its n := k _ _ _ _ hM rfl hl
theorem isL_kv0 {its : Array Value} {n : Nat} (hl : IsL h l its n) (k : KV [] h h') : IsL h' l its n := k _ _ _ _ (by simp) rfl hl
theorem tup_kv {T : Addr} {vs : List Value} (hT : h.get? T = some (tupO vs)) (k : KV M h h') (hM : ∀ b ∈ M, RL h b) : h'.get? T = some (tupO vs) := k _ _ _ _ (fun q => by
  obtain ⟨ws, n, hl, _⟩ := hM T q
  have e := congrArg (fun o => o.map (·.cls)) (hl.symm.trans hT)
  simp at e) rfl hT
theorem LabAt.ne {a : Addr} {ls : List Nat} (x : LabAt h a ls) (y : RL h l) (ok : LsOk ls) : a ≠ l := by
  rintro rfl
  obtain ⟨vs, n, hl, hs⟩ := x
  obtain ⟨ws, k, hl', hr⟩ := y
  have e := hl.symm.trans hl'
  have e' : vs = ws := by injection e with e; injection e with _ _ e; injection e with e; simpa using congrArg Array.toList e
  subst e'
  cases hs' : ls with
  | nil => have := ok.1; rw [hs'] at this; simp at this
  | cons c r =>
    rw [hs'] at hs
    cases hs with
    | cons z t _ =>
      obtain ⟨a, ha⟩ := hr _ (List.mem_cons_self ..)
      cases ha
theorem LabAt.kv {a : Addr} {ls : List Nat} (x : LabAt h a ls) (k : KV M h h') (hM : ∀ b ∈ M, RL h b) (ok : LsOk ls) : LabAt h' a ls := by
  have hn : a ∉ M := fun q => x.ne (hM a q) ok rfl
  obtain ⟨vs, n, hl, hs⟩ := x
  exact ⟨vs, n, isL_kv hl k hn, hs⟩
theorem LabAt.kv0 {a : Addr} {ls : List Nat} (x : LabAt h a ls) (k : KV [] h h') : LabAt h' a ls := by
  obtain ⟨vs, n, hl, hs⟩ := x
  exact ⟨vs, n, isL_kv0 hl k, hs⟩
theorem ItemAt.kv {v : Value} {x : It} (i : ItemAt h v x) (k : KV M h h') (hM : ∀ b ∈ M, RL h b) : ItemAt h' v x :=
  let ⟨a, t1, t2, t3, e, g⟩ := i; ⟨a, t1, t2, t3, e, tup_kv g k hM⟩
theorem RowAt.kv {v : Value} {r : Row} (i : RowAt h v r) (k : KV M h h') (hM : ∀ b ∈ M, RL h b) : RowAt h' v r :=
  let ⟨T, la, t, e, hT, hl, ok⟩ := i; ⟨T, la, t, e, tup_kv hT k hM, hl.kv k hM ok, ok⟩
theorem ListAt.kv {α : Type} {P : Heap → Value → α → Prop} {a : Addr} {xs : List α} (hP : ∀ v x, P h v x → P h' v x) (x : ListAt P h a xs) (k : KV M h h') (ha : a ∉ M) : ListAt P h' a xs :=
  let ⟨vs, n, hl, hlen, hv⟩ := x; ⟨vs, n, isL_kv hl k ha, hlen, fun i v x h1 h2 => hP v x (hv i v x h1 h2)⟩
theorem ListAt.rl {α : Type} {P : Heap → Value → α → Prop} {a : Addr} {xs : List α} (hP : ∀ v x, P h v x → ∃ b, v = .ref b) (x : ListAt P h a xs) : RL h a := by
  obtain ⟨vs, n, hl, hlen, hv⟩ := x
  refine ⟨vs, n, hl, fun v hm => ?_⟩
  obtain ⟨i, hi⟩ := List.getElem?_of_mem hm
  have hi' : i < vs.length := by
    rcases Nat.lt_or_ge i vs.length with q | q
    · exact q
    · rw [List.getElem?_eq_none q] at hi; cases hi
  exact hP v (xs[i]'(by omega)) (hv i v _ hi (by simp [← hlen, hi']))
theorem RowAt.ref {v : Value} {r : Row} (i : RowAt h v r) : ∃ b, v = .ref b := let ⟨T, _, _, e, _⟩ := i; ⟨T, e⟩
theorem ItemAt.ref {v : Value} {r : It} (i : ItemAt h v r) : ∃ b, v = .ref b := let ⟨T, _, _, _, e, _⟩ := i; ⟨T, e⟩

theorem ListAt.snoc {α : Type} {P : Heap → Value → α → Prop} {h h' : Heap} {a : Addr} {xs : List α} {vs : List Value} {n' : Nat} {v : Value} {x : α} (hlen : vs.length = xs.length) (hv : ∀ (i : Nat) v x, vs[i]? = some v → xs[i]? = some x → P h v x)
    (hP : ∀ v x, P h v x → P h' v x) (hl' : IsL h' a (List.toArray (vs ++ [v])) n') (hx : P h' v x) : ListAt P h' a (xs ++ [x]) := by
  refine ⟨_, n', hl', by simp [hlen], fun i u y h1 h2 => ?_⟩
  rcases Nat.lt_or_ge i vs.length with q | q
  · rw [List.getElem?_append_left q] at h1
    rw [List.getElem?_append_left (by omega)] at h2
    exact hP _ _ (hv i u y h1 h2)
  · have hi : i = vs.length := by
      have : i < (vs ++ [v]).length := by
        rcases Nat.lt_or_ge i (vs ++ [v]).length with c | c
        · exact c
        · rw [List.getElem?_eq_none c] at h1; cases h1
      simp at this; omega
    subst hi
    rw [List.getElem?_append_right (Nat.le_refl _)] at h1
    rw [hlen, List.getElem?_append_right (Nat.le_refl _)] at h2
    simp at h1 h2
    subst h1 h2
    exact hx
end

section
variable {w : World} {mg mb : Str → Option Value} {B : Heap} {A : Around} {E : Value → Shared → Prop} {s : Shared}
variable {M : List Addr} {s₀ : Shared} {h : Heap} {L l : Addr} {m : Str → Option Value} {vs : List Value}
/-- for .. in a list -/
theorem forList {target : PySem.Expr} {body orelse : List Stmt} {env : Env} {R : Result → Shared → Prop} (hA : A.handled = none) (F : FS B M s₀ h L h m) (hl : h.IsList l vs.toArray) (hlM : l ∉ M)
    (J : Nat → Heap → (Str → Option Value) → Prop) (hJ : ∀ i h h' m, KeepD h h' → J i h m → J i h' m) (h0 : J 0 h m)
    (turn : ∀ i v h' m' t, i < vs.length → vs[i]? = some v → FS B M s₀ h L h' m' → J i h' m' → FS B M s₀ h' L h' m' →
      wpAny (model Pg w) A (assign target env v) (fun _ s₂ => wpAny (model Pg w) A (execs body env) (fun f s₃ => match f with
          | .next | .cont => ∃ h'' m'' t', s₃ = St s₀ h'' t' ∧ FS B M s₀ h' L h'' m'' ∧ J (i + 1) h'' m''
          | .brk => R (.ok .next) s₃
          | .ret v => R (.ok (.ret v)) s₃) (notedBy (model Pg w) A env fun e s' => R (.error e) s') s₂) (notedBy (model Pg w) A env fun e s' => R (.error e) s') (St s₀ h' t))
    (fin : ∀ h' m' t, FS B M s₀ h L h' m' → J vs.length h' m' → wpAny (model Pg w) A (execs orelse env) (fun f s₃ => R (.ok f) s₃) (notedBy (model Pg w) A env fun e s' => R (.error e) s') (St s₀ h' t)) (hst : s = St s₀ h s.toks := by rfl) :
    wpAny (model Pg w) A (pyIter (.ref l)) (fun it s₂ => codeAny (model Pg w) A (.forLoop target it body orelse env) R s₂) E s := by
  obtain ⟨h1, g1, d1, t1, o1⟩ := s
  cases hst
  refine wpAny_pyIter_list hl ?_
  have hn : h.get? h.objs.size = none := Heap.get?_none_of_le (Nat.le_refl _)
  have hne : l ≠ h.objs.size := fun q => by obtain ⟨o, ho, _⟩ := hl; rw [q, hn] at ho; cases ho
  have hL : l ≠ L := fun q => ns_ne_list F.ns hl q.symm
  exact for_ (Itr.list hA h.objs.size l hne vs) (F.push _) ⟨⟨_, Heap.get?_push_size _ rfl, rfl, rfl⟩, hl.push _⟩ (fun b hb => by rw [List.mem_singleton.mp hb]; exact F.newIt hn) (by simp [hlM, hL]) J hJ (hJ _ _ _ _ (KeepD.of_sub (Sub.push _ _)) h0) turn fin
end
end Mine
end
section
open PySem PySem.W PySem.Calls PyProof.Rows
set_option maxRecDepth 100000
set_option maxHeartbeats 4000000
namespace Mine

theorem tab5 {i : Nat} (hi : i < 5) (t0 t1 t2 t3 t4 : Tok) : ∃ t, [Value.str (Str.ofString "a") t0, Value.str (Str.ofString "b") t1, Value.str (Str.ofString "local") t2, Value.str (Str.ofString "7") t3, Value.str (Str.ofString "") t4][i]? = some (.str (lab i) t) := by
  rcases (by omega : i = 0 ∨ i = 1 ∨ i = 2 ∨ i = 3 ∨ i = 4) with rfl | rfl | rfl | rfl | rfl
  · exact ⟨t0, by rw [show lab 0 = Str.ofString "a" by decide]; rfl⟩
  · exact ⟨t1, by rw [show lab 1 = Str.ofString "b" by decide]; rfl⟩
  · exact ⟨t2, by rw [show lab 2 = Str.ofString "local" by decide]; rfl⟩
  · exact ⟨t3, by rw [show lab 3 = Str.ofString "7" by decide]; rfl⟩
  · exact ⟨t4, by rw [show lab 4 = Str.ofString "" by decide]; rfl⟩

section
variable {w : World} {mg mb : Str → Option Value} {B : Heap} {A : Around} {E : Value → Shared → Prop} {s : Shared}

theorem lab3 {x y z : Nat} {h : Heap} {a : Addr} {t1 t2 t3 : Tok} {n : Nat} {p q r : Str} (hp : p = lab x) (hq : q = lab y) (hr : r = lab z) (hl : IsL h a (List.toArray [.str p t1, .str q t2, .str r t3]) n) : LabAt h a [x, y, z] :=
  ⟨_, n, hl, by subst hp hq hr; exact .cons _ _ (.cons _ _ (.cons _ _ .nil))⟩


theorem rowE {s₀ : Shared} {r h : Heap} {L : Addr} {m : Str → Option Value} {M : List Addr} {env : Env} {p q z : Str} {n : Int} {k1 k2 k3 k4 k5 : Nat} {o1 o2 o3 o4 o5 o6 : Pos} {x y v : Nat} {Q : Value → Shared → Prop} (F : FS B M s₀ r L h m)
    (hp : p = lab x) (hq : q = lab y) (hr : z = lab v) (hok : LsOk [x, y, v])
    (hQ : ∀ a h' t', FS B M s₀ r L h' m → RowAt h' (.ref a) ([x, y, v], n) → Sub h h' → Q (.ref a) (St s₀ h' t')) (hst : s = St s₀ h s.toks := by rfl) :
    wpAny (model Pg w) A (eval (.Tuple [.List [.Constant (.str p) k1 o1, .Constant (.str q) k2 o2, .Constant (.str z) k3 o3] o4, .Constant (.int n) k4 o5] k5 o6) env) Q E s := by
  obtain ⟨g1, g2, g3, g4, g5⟩ := s
  cases hst
  refine Tuple_ (args_cons (List_ (args_cons (litS F fun v1 t1 => ?_))))
  refine args_cons (litS F fun v2 _ => args_cons (litS F fun v3 _ => args_nil (newLf F (by simp) fun a1 h2 _ F2 l1 k2 _ => ?_)))
  refine args_cons (litI F2 fun v4 _ => args_nil (newTf F2 (by simp) fun p1 h3 _ F3 u1 k3 _ => ?_))
  exact hQ _ _ _ F3 ⟨_, _, _, rfl, u1, lab3 hp hq hr (k3 _ _ l1), hok⟩ (k2.trans k3)


end
end Mine
end
section
open PySem PySem.W PySem.Calls PyProof.Rows
set_option maxRecDepth 100000
set_option maxHeartbeats 4000000
namespace Mine
section
variable {w : World} {mg mb : Str → Option Value} {B : Heap} {A : Around} {E : Value → Shared → Prop} {s : Shared}
theorem IntsAre.len {vs : List Value} {ns : List Int} (h : IntsAre vs ns) : vs.length = ns.length := by
  induction h with
  | nil => rfl
  | cons n t _ ih => simpa using ih
theorem swList (v : List PySem.Expr) (p q : Pos) (x : Str) (l : Nat) (env : Env) : swapsWith (Expr.List v p) (some (.Name x q)) l env = pure false := rfl
theorem seTup (v : List PySem.Expr) (k : Nat) (p : Pos) (rest : List PySem.Expr) (env : Env) : starEach (Expr.Tuple v k p :: rest) env = (false, eval (Expr.Tuple v k p) env) :: starEach rest env := rfl
theorem rows_ {l : Addr} {vs : List Value} {ns : List Int} {Q : Value → Shared → Prop} (C : Cx w mg mb B) (kB : Sub B s.heap) (hA : Aok A 1) (hl₀ : s.heap.IsList l vs.toArray) (hi : IntsAre vs ns) (hlen : vs.length ≤ 63)
    (hQ : ∀ b h' t', Sub s.heap h' → ListAt RowAt h' b (rowsP ns) → s.heap.get? b = none → Q (.ref b) (St s h' t')) :
    wpAny (model Pg w) A (call (.ref 132) [.ref l]) Q E s := by
  refine call_fn [("script", .ref l)] [] C kB hA.room rfl rfl rfl rfl rfl rfl (locs rfl) (by simp) fun h₁ t₁ F sub₁ => ?_
  refine wpAny_execs_cons ?_
  refine wpAny_Assign_Name ?_ ?hs
  case hs => exact swList _ _ _ _ _ _
  refine List_ ?_
  refine args_cons ?_ ?he
  case he => exact seTup _ _ _ _ _
  refine rowE (x := 0) (y := 1) (v := 2) F (by decide) (by decide) (by decide) ⟨by decide, by decide, by decide⟩ ?_ ?hst
  case hst => rfl
  intro p1 h3 _ F3 u1 k3
  refine args_cons ?_ ?he
  case he => exact seTup _ _ _ _ _
  refine rowE (x := 1) (y := 1) (v := 2) F3 (by decide) (by decide) (by decide) ⟨by decide, by decide, by decide⟩ ?_ ?hst
  case hst => rfl
  intro p2 h4 _ F4 u2 k4
  refine args_cons ?_ ?he
  case he => exact seTup _ _ _ _ _
  refine rowE (x := 0) (y := 1) (v := 3) F4 (by decide) (by decide) (by decide) ⟨by decide, by decide, by decide⟩ ?_ ?hst
  case hst => rfl
  intro p3 h5 _ F5 u3 k5
  refine args_nil ?_
  refine newLf F5 (by simp) ?_ ?hst
  case hst => rfl
  intro rw h6 _ F6 l6 k6 rn
  refine stm F6 ?_
  intro h7 t7 F7 s7
  have hn : h₁.get? rw = none ∧ s.heap.get? rw = none := by
    have e1 := (F5.fresh rn)
    refine ⟨?_, e1.1⟩
    cases q : h₁.get? rw with
    | none => rfl
    | some o => rw [k5 _ _ (k4 _ _ (k3 _ _ q))] at rn; cases rn
  have hrow0 : ListAt RowAt h7 rw rows3 := by
    have k67 : KV [] h6 h7 := KV.of_same F6.ns s7
    refine ⟨_, 0, isL_kv0 l6 k67, rfl, fun i v x h1 h2 => ?_⟩
    have K : ∀ b ∈ ([] : List Addr), RL h6 b := by simp
    rcases (by
      have : i < 3 := by
        rcases Nat.lt_or_ge i 3 with q | q
        · exact q
        · rw [List.getElem?_eq_none (by simpa using q)] at h1; cases h1
      omega : i = 0 ∨ i = 1 ∨ i = 2) with rfl | rfl | rfl
    · cases h1; cases h2
      exact (u1.keepD (KeepD.of_sub (k4.trans (k5.trans k6)))).kv k67 K
    · cases h1; cases h2
      exact (u2.keepD (KeepD.of_sub (k5.trans k6))).kv k67 K
    · cases h1; cases h2
      exact (u3.keepD (KeepD.of_sub k6)).kv k67 K
  have hrB : B.get? rw = none := (F5.fresh rn).2.1
  have hl7 : h7.IsList l vs.toArray := by
    obtain ⟨o, ho, r⟩ := hl₀
    exact ⟨o, F7.keep _ _ (by simp) (Nat.ne_of_lt (Heap.lt_size ho)) ho, r⟩
  clear u1 u2 u3 F3 F4 F5 F6 l6 k3 k4 k5 k6 s7 rn F
  -- for x in script[:8]
  refine wpAny_execs_cons ?_
  refine wpAny_For ?_ ?hs
  case hs => intro _; rfl
  refine Subscript_ ?_
  refine ldm F7 rfl ?_
  refine wpAny_Slice ?_
  refine wpAny_evalPart_none ?_
  refine wpAny_evalPart_some ?_
  refine litI F7 ?_ ?hst
  case hst => rfl
  intro u8 t8
  refine sliceUpto (k := 8) F7 hl7 (by omega) ?_
  intro sl h8 F8 l8 k8 sn
  have hrow8 := hrow0.kv (fun v x p => p.kv (KV.of_sub (M := []) k8) (by simp)) (KV.of_sub (M := []) k8) (by simp)
  have hrex : ∃ o, h7.get? rw = some o := let ⟨_, _, q, _⟩ := hrow0; ⟨_, q⟩
  have hslr : sl ≠ rw := fun q => by obtain ⟨o, ho⟩ := hrex; rw [← q, sn] at ho; cases ho
  have G8 : FS B [rw] s h8 s.heap.objs.size h8 _ := F8.rebase (M' := [rw]) (fun b hb => by
    rw [List.mem_singleton.mp hb]
    obtain ⟨_, _, q, _⟩ := hrow8
    exact ⟨hrB, by rw [q]; rfl⟩)
  refine forList (hA.deeper _).hd G8 l8.isList (by simpa using hslr) (fun i h m => m "rows" = some (.ref rw) ∧ ListAt RowAt h rw (rows3 ++ ((ns.take 8).take i).map rowOf)) ?_ ?_ ?_ ?_
  · rintro i h h' m k ⟨m1, hr⟩
    exact ⟨m1, hr.keepD (fun v x p => p.keepD k) k⟩
  · exact ⟨rfl, by simpa using hrow8⟩
  · rintro i v h m t hlt hv F ⟨m1, hr⟩ G
    obtain ⟨x, tx, rfl, hx⟩ := IntsAre.at' hi (i := i) (v := v) (by rw [List.getElem?_take] at hv; split at hv; exact hv; cases hv)
    have hi8 : i < 8 := by simp at hlt; omega
    refine wpAny_assign_Name ?_
    have G0 : FS B [] s h s.heap.objs.size h m := G.rebase (M' := []) (by simp)
    refine stm G0 ?_
    intro h1 t1 G1 s1
    refine wpAny_execs_cons ?_
    refine wpAny_Assign_Name ?_ ?hs
    case hs => exact swList _ _ _ _ _ _
    refine List_ ?_
    refine args_nil ?_
    refine newLf G1 (by simp) ?_ ?hst
    case hst => rfl
    intro lb h2 _ G2 l2 k2 n2
    refine stm G2 ?_
    intro h3 t3 G3 s3
    have hlb : h.get? lb = none := (G1.fresh n2).1
    have hlB : B.get? lb = none := (G1.fresh n2).2.1
    have l3 : IsL h3 lb (List.toArray []) 0 := isL_same l2 G2.ns s3
    refine wpAny_execs_cons ?_
    refine wpAny_For ?_ ?hs
    case hs => intro _; rfl
    refine Call_ ?_
    refine ldb C G3 (g_no_range _) boot_range ?_
    refine PyProof.Rows.callWith_type1 ?_
    refine args_cons ?_
    refine wpAny_BinOp ?_
    refine wpAny_BinOp ?_
    refine ldm G3 rfl ?_
    refine litI G3 ?_ ?hst
    case hst => rfl
    intro u4 t4
    refine modI G3 (by decide) ?_ ?hst
    case hst => rfl
    intro u5 t5
    refine litI G3 ?_ ?hst
    case hst => rfl
    intro u6 t6
    refine addI G3 ?_ ?hst
    case hst => rfl
    intro u7 t7
    refine args_nil ?_
    have hx4 := fmod_bounds x (k := 4) (by omega)
    have hll : (labelsOf x).length = (x.fmod 4 + 1).toNat := by simp [labelsOf]
    have G4 : FS B [lb] s h3 s.heap.objs.size h3 _ := G3.rebase (M' := [lb]) (fun b hb => by rw [List.mem_singleton.mp hb]; exact ⟨hlB, by rw [l3]; rfl⟩)
    refine forRange (N := (labelsOf x).length) (pos := default) (hA.deeper _).hd G4 (by rw [hll]; omega) (by rw [hll]; omega) (fun j h m => m "x" = some (.int x tx) ∧ m "labels" = some (.ref lb) ∧ m "rows" = some (.ref rw) ∧ LabAt h lb ((labelsOf x).take j)) ?_ ?_ ?_ ?_ ?hst
    case hst => rfl
    · rintro j h h' m k ⟨m1, m2, m3, hl⟩
      exact ⟨m1, m2, m3, hl.keepD k⟩
    · exact ⟨rfl, rfl, m1, [], 0, l3, .nil⟩
    · -- a turn within
      rintro j v h5 m5 t5 hj ⟨tk, rfl⟩ _ ⟨m1, m2, m3, va, na, hl, hs⟩ G5
      refine wpAny_assign_Name ?_
      refine stm G5 ?_
      intro h6 t6 G6 s6
      have hl6 : IsL h6 lb (List.toArray va) na := isL_same hl G5.ns s6
      have hvl : va.length ≤ 1000 := by rw [StrsAre.len hs]; simp; omega
      refine wpAny_execs_cons ?_
      refine wpAny_Expr ?_
      refine MethodCall_ ?_
      refine ldm G6 m2 ?_
      refine meth_append hl6 ?_
      refine callWith_method1 ?_
      refine args_cons ?_
      refine Subscript_ ?_
      refine List_ ?_
      refine args_cons ?_
      refine litS G6 ?_ ?hst
      case hst => rfl
      intro w0 _
      refine args_cons ?_
      refine litS G6 ?_ ?hst
      case hst => rfl
      intro w1 _
      refine args_cons ?_
      refine litS G6 ?_ ?hst
      case hst => rfl
      intro w2 _
      refine args_cons ?_
      refine litS G6 ?_ ?hst
      case hst => rfl
      intro w3 _
      refine args_cons ?_
      refine litS G6 ?_ ?hst
      case hst => rfl
      intro w4 _
      refine args_nil ?_
      refine newLf G6 (by simp) ?_ ?hst
      case hst => rfl
      intro tb h7 _ G7 l7 k7 n7
      refine wpAny_BinOp ?_
      refine wpAny_BinOp ?_
      refine wpAny_BinOp ?_
      refine ldm G7 m1 ?_
      refine litI G7 ?_ ?hst
      case hst => rfl
      intro _ _
      refine fdivI G7 (by decide) (PyProof.noPylong_small (by decide)) ?_ ?hst
      case hst => rfl
      intro _ _
      refine wpAny_BinOp ?_
      refine litI G7 ?_ ?hst
      case hst => rfl
      intro _ _
      refine ldm G7 rfl ?_
      have hj4 : j < 4 := by rw [hll] at hj; omega
      refine powI G7 (by omega) ?_ ?_ ?hst
      case hst => rfl
      · have e5 : (Builtin.Int.intBits 5 : Int) = 3 := by decide
        rw [e5]; omega
      intro _ _
      have hp5 : (5 : Int) ^ (j : Int).toNat = 5 ^ j := by simp
      have hb5 : (1 : Int) ≤ 5 ^ j ∧ (5 : Int) ^ j ≤ 125 := by
        rcases (by omega : j = 0 ∨ j = 1 ∨ j = 2 ∨ j = 3) with rfl | rfl | rfl | rfl <;> decide
      rw [hp5]
      refine fdivI G7 (by omega) (PyProof.noPylong_small (by omega)) ?_ ?hst
      case hst => rfl
      intro _ _
      refine litI G7 ?_ ?hst
      case hst => rfl
      intro _ _
      refine modI G7 (by decide) ?_ ?hst
      case hst => rfl
      intro _ _
      have hq := fmod_bounds ((x.fdiv 4).fdiv (5 ^ j)) (k := 5) (by omega)
      obtain ⟨ty, hy⟩ := tab5 (i := (((x.fdiv 4).fdiv (5 ^ j)).fmod 5).toNat) (by omega) w0 w1 w2 w3 w4
      refine itemL (s := St _ h7 _) l7 (by omega) hy (by simp) ?_
      refine args_nil ?_
      refine appendLf G7 (k7 _ _ hl6) hlB (.inl (by simp)) hvl ?_ ?hst
      case hst => rfl
      intro h8 n8 t8 G8 l8 s8
      refine wpAny_execs_nil ⟨h8, _, t8, rfl, G8, m1, m2, m3, _, n8, l8, ?_⟩
      have hg : (labelsOf x)[j]? = some (((x.fdiv 4).fdiv (5 ^ j)).fmod 5).toNat := by
        rw [hll] at hj
        simp [labelsOf, hj]
      rw [List.take_add_one, hg]
      simp only [Option.toList_some, List.map_append, List.map_cons, List.map_nil]
      exact StrsAre.snoc hs _ _
    · -- rows.append
      rintro h5 m5 t5 G5 ⟨m1, m2, m3, hl⟩
      refine wpAny_execs_nil ?_
      have G6 : FS B [] s h s.heap.objs.size h5 m5 := G3.back G5 (fun b hb => by rw [List.mem_singleton.mp hb]; exact .inr hlb)
      have kv := G6.kv G.ns
      have hr5 := hr.kv (fun v x p => p.kv kv (by simp)) kv (by simp)
      have G7 : FS B [rw] s h s.heap.objs.size h5 m5 := G.back G6 (by simp)
      rw [List.take_length] at hl
      obtain ⟨va, na, lv, hvlen, hva⟩ := id hr5
      refine wpAny_execs_cons ?_
      refine wpAny_Expr ?_
      refine MethodCall_ ?_
      refine ldm G7 m3 ?_
      refine meth_append lv ?_
      refine callWith_method1 ?_
      refine args_cons ?_
      refine Tuple_ ?_
      refine args_cons ?_
      refine ldm G7 m2 ?_
      refine args_cons ?_
      refine wpAny_BinOp ?_
      refine wpAny_BinOp ?_
      refine wpAny_BinOp ?_
      refine ldm G7 m1 ?_
      refine litI G7 ?_ ?hst
      case hst => rfl
      intro _ _
      refine mulI G7 (.inl (by decide)) ?_ ?hst
      case hst => rfl
      intro _ _
      refine litI G7 ?_ ?hst
      case hst => rfl
      intro _ _
      refine addI G7 ?_ ?hst
      case hst => rfl
      intro _ _
      refine litI G7 ?_ ?hst
      case hst => rfl
      intro _ _
      refine modI G7 (by decide) ?_ ?hst
      case hst => rfl
      intro um _
      refine args_nil ?_
      refine newTf G7 (by simp) ?_ ?hst
      case hst => rfl
      intro T h6 _ G8 hT k6 _
      refine args_nil ?_
      have hlen3 : va.length ≤ 1000 := by rw [hvlen]; simp [rows3]; omega
      refine appendLf G8 (k6 _ _ lv) hrB (.inl (by simp)) hlen3 ?_ ?hst
      case hst => rfl
      intro h7 n7 t7 G9 l7 s7
      have hM : ∀ b ∈ [rw], RL h6 b := fun b hb => by
        rw [List.mem_singleton.mp hb]
        exact (hr5.keepD (fun v x p => p.keepD (KeepD.of_sub k6)) (KeepD.of_sub k6)).rl (fun v x p => p.ref)
      have kv7 : KV [rw] h6 h7 := KV.of_M (KeepM.of_same s7)
      refine wpAny_execs_nil ⟨h7, _, t7, rfl, G9, m3, ?_⟩
      have hg : ((ns.take 8).take (i + 1)).map rowOf = ((ns.take 8).take i).map rowOf ++ [rowOf x] := by
        rw [List.take_add_one, List.getElem?_take, if_pos hi8, hx]
        simp
      rw [hg, ← List.append_assoc]
      refine ListAt.snoc hvlen hva (fun v x p => (p.keepD (KeepD.of_sub k6)).kv kv7 hM) l7 ?_
      exact RowAt.kv ⟨T, lb, um, rfl, hT, hl.keepD (KeepD.of_sub k6), labelsOf_ok x⟩ kv7 hM
  · rintro h m t F ⟨m1, hr⟩
    refine wpAny_execs_nil ?_
    refine wpAny_execs_cons ?_
    refine wpAny_Return_some ?_
    refine ldm F m1 ?_
    have F9 := F8.back F (fun b hb => by rw [List.mem_singleton.mp hb]; exact .inr hn.2)
    refine hQ rw h t (fun b o e => F9.kp b o (by simp) e) ?_ hn.2
    have hL : ((ns.take 8).take (vs.take 8).length) = ns.take 8 := by
      have : vs.length = ns.length := IntsAre.len hi
      apply List.take_of_length_le
      simp [this]
    rw [hL] at hr
    exact hr
end
end Mine
end
section
open PySem PySem.W PySem.Calls PyProof.Rows
set_option maxRecDepth 100000
set_option maxHeartbeats 4000000
namespace Mine
section
variable {w : World} {mg mb : Str → Option Value} {B : Heap} {A : Around} {E : Value → Shared → Prop} {s : Shared}
variable {M : List Addr} {s₀ : Shared} {r h : Heap} {L ax : Addr} {m : Str → Option Value} {vs : List Value} {env : Env}

theorem IntsAre.snoc {vs : List Value} {ys : List Int} (h : IntsAre vs ys) (y : Int) (t : Tok) : IntsAre (vs ++ [.int y t]) (ys ++ [y]) := by
  induction h with
  | nil => exact .cons y t .nil
  | cons z u _ ih => exact .cons z u ih

theorem appendI {l : Addr} {z : List Value} {n : Nat} {v : Value} {Q : Value → Shared → Prop} (hl : IsL s.heap l z.toArray n) (hz : z.length ≤ 1000)
    (hQ : ∀ h' n', IsL h' l (List.toArray (z ++ [v])) n' → Heap.SameBut l s.heap h' → Q .none { s with heap := h' }) :
    wpAny (model Pg w) A (call (.builtin "list.append") [.ref l, v]) Q E s := by
  have e : z.toArray.push v = List.toArray (z ++ [v]) := by simp
  have g := IsL.update hl (fun a => a.push v)
  rw [e] at g
  exact call_meets PySem.F.slot_list_append ⟨_, hl, rfl⟩ PySem.F.entry_list_append (PySem.F.args_list_append_2 _ _) (list_append l z.toArray n v (by rw [size_line]; simp; omega)) ⟨hl, hQ _ _ g (Heap.SameBut.update ..)⟩

/-- [an int for .. in a list if ..] -/
theorem compL {target elt c iter : PySem.Expr} {scope : Scope} {cl : List (Str × Addr)} {pos : Pos} {Q : Value → Shared → Prop} (hA : A.handled = none) (F : FS B M s₀ r L h m) (hl : h.IsList ax vs.toArray) (hlen : vs.length ≤ 1000)
    (hiter : wpAny (model Pg w) A (eval iter env) (fun xv s₁ => xv = .ref ax ∧ ∃ t, s₁ = St s₀ h t) E s)
    (hclos : closureFor scope env = pure cl) (f : Nat → Option Int)
    (turn : ∀ C i v h' m' t E', vs[i]? = some v → h'.Ns C m' → Sub h h' → h.get? C = none →
      wpAny (model Pg w) A (assign target (compEnvC scope cl C env) v) (fun _ s₂ => wpAny (model Pg w) A (isTrue c (compEnvC scope cl C env) (eval c (compEnvC scope cl C env))) (fun ok s₃ =>
        ok = (f i).isSome ∧ (∃ h'' m'' t'', s₃ = St s₀ h'' t'' ∧ h''.Ns C m'' ∧ Heap.ExtBut C h' h'') ∧ ∀ x, f i = some x → wpAny (model Pg w) A (eval elt (compEnvC scope cl C env)) (fun y s₄ => (∃ u, y = .int x u) ∧ ∃ h'' m'' t'', s₄ = St s₀ h'' t'' ∧ h''.Ns C m'' ∧ Heap.ExtBut C h' h'') E' s₃) E' s₂) E' (St s₀ h' t))
    (hQ : ∀ D h' ys n t', FS B M s₀ r L h' m → IsL h' D (List.toArray ys) n → IntsAre ys ((List.range vs.length).filterMap f) → Sub h h' → h.get? D = none → Q (.ref D) (St s₀ h' t'))
    (hs : ∀ x, foldedSetIterable iter env x = pure x := by intro _; rfl)
    (hcell : ∀ y ∈ scope.names, y.2 ≠ .cell := by decide) (hkind : scope.kind = .function := by rfl)
    (hnames : ∀ y ∈ scope.names, y.2 = .local → scope.names.lookup y.1 = some .local := by decide) :
    wpAny (model Pg w) A (eval (.ListComp elt [⟨target, iter, [c], 0⟩] scope pos) env) Q E s := by
  rw [eval_ListComp]
  refine wpAny_comprehension_free (use := none) rfl hs hclos hkind hnames (wpAny_mono hiter (fun xv s₁ h₁ => ?_) fun _ _ e => e)
  obtain ⟨rfl, t₁, rfl⟩ := h₁
  refine wpAny_pyIter_list hl ?_
  refine wpAny_newObj_type ?_
  refine wpAny_newFunctionEnv hcell (by intro y hy; simp at hy) (fun h₁ hns₁ hsb₁ => ?_) hkind
  dsimp only at hns₁ hsb₁ ⊢
  generalize hH1 : h.push { cls := .type "list_iterator", data := .fields #[.ref ax, .int 0 0] } = H1 at hns₁ hsb₁ ⊢
  generalize hH2 : H1.push { cls := .type "list", dict := none, data := .seq ([] : List Value).toArray } = H2 at hns₁ hsb₁ ⊢
  have hD : H1.objs.size = h.objs.size + 1 := by rw [← hH1, Heap.size_push]
  have hC : H2.objs.size = h.objs.size + 2 := by rw [← hH2, Heap.size_push, hD]
  have none_ : ∀ a, h.objs.size ≤ a → h.get? a = none := fun a ha => Heap.get?_none_of_le ha
  have sub₁ : Sub h h₁ := fun b o e => hsb₁.extBut b o (Nat.ne_of_lt (Nat.lt_of_lt_of_le (Heap.lt_size e) (by omega))) (Heap.get?_push_of_some _ (hH2 ▸ Heap.get?_push_of_some _ (hH1 ▸ Heap.get?_push_of_some _ e)))
  have hit : h₁.IsListIter h.objs.size ax 0 := ⟨_, hsb₁.extBut _ _ (Nat.ne_of_lt (by omega)) (Heap.get?_push_of_some _ (hH2 ▸ Heap.get?_push_of_some _ (hH1 ▸ Heap.get?_push_size _ rfl))), rfl, rfl⟩
  have hacc : IsL h₁ H1.objs.size (List.toArray []) 0 := hsb₁.extBut _ _ (Nat.ne_of_lt (by omega)) (Heap.get?_push_of_some _ (hH2 ▸ Heap.get?_push_size _ rfl))
  have haxlt : ax < h.objs.size := by obtain ⟨o, ho, _⟩ := hl; exact Heap.lt_size ho
  have loop : ∀ s₂ : Shared, s₂ = St s₀ h₁ t₁ →
      codeAny (model Pg w) A (.compLoop (.ListComp elt [⟨target, iter, [c], 0⟩] scope pos) 0 (.ref h.objs.size) (.ref H1.objs.size) (compEnvC scope cl H2.objs.size env))
        (compPost (model Pg w) A E none Q (.ref H1.objs.size) H2.objs.size) s₂ := by
    rintro s₂ rfl
    refine kct_loop (fun k s' => ∃ h' m' t' ys n i, s' = St s₀ h' t' ∧ h'.IsListIter h.objs.size ax i ∧ IsL h' H1.objs.size (List.toArray ys) n ∧ h'.Ns H2.objs.size m' ∧ IntsAre ys ((List.range i).filterMap f) ∧ i ≤ vs.length ∧ k = vs.length - i ∧ Sub h h') ?_ vs.length
      ⟨h₁, _, t₁, [], 0, 0, rfl, hit, hacc, hns₁, .nil, Nat.zero_le _, rfl, sub₁⟩
    rintro k s' ⟨h', m', t', ys, n, i, rfl, hit', hacc', hn', hys, hi, rfl, sub'⟩
    have hl' : h'.IsList ax vs.toArray := hl.at fun o e => sub' _ o e
    cases hv : vs[i]? with
    | none =>
      have hle : vs.length ≤ i := by simpa using hv
      have hiN : i = vs.length := by omega
      subst hiN
      refine wpAny_pyNext_list_end hA hit' hl' (by simp) fun h₂ he₂ => ?_
      refine ⟨m', hn'.extBut he₂ (Nat.ne_of_gt (by omega)), fun h₃ hs₃ => ?_⟩
      have k3 : Sub h h₃ := fun b o e => hs₃.extBut b o (Nat.ne_of_lt (Nat.lt_of_lt_of_le (Heap.lt_size e) (by omega))) (he₂ b o (Nat.ne_of_lt (Nat.lt_of_lt_of_le (Heap.lt_size e) (by omega))) (sub' b o e))
      exact hQ _ h₃ ys n t' (F.grow k3) (hs₃.extBut _ _ (Nat.ne_of_lt (by omega)) (he₂ _ _ (Nat.ne_of_gt (by omega)) hacc')) hys k3 (none_ _ (by omega))
    | some v =>
      have hlt : i < vs.length := by
        rcases Nat.lt_or_ge i vs.length with q | q
        · exact q
        · rw [List.getElem?_eq_none q] at hv; cases hv
      refine wpAny_pyNext_list_item hit' hl' (x := v) (by simpa using hv) fun h₂ hit₂ hs₂ => ?_
      refine letGo_listiter hit₂ ?_
      have sub₂ : Sub h h₂ := fun b o e => hs₂.extBut b o (Nat.ne_of_lt (Nat.lt_of_lt_of_le (Heap.lt_size e) (by omega))) (sub' b o e)
      have hn₂ : h₂.Ns H2.objs.size m' := hn'.extBut hs₂.extBut (Nat.ne_of_gt (by omega))
      have hacc₂ : IsL h₂ H1.objs.size (List.toArray ys) n := hs₂.extBut _ _ (Nat.ne_of_gt (by omega)) hacc'
      have hyl : ys.length ≤ 1000 := by
        rw [IntsAre.len hys]
        have := List.length_filterMap_le f (List.range i)
        simp at this; omega
      refine wpAny_mono (turn H2.objs.size i v h₂ m' t' _ hv hn₂ sub₂ (none_ _ (by omega))) (fun _ s₃ h₃ => ?_) fun _ _ e => e
      refine wpAny_mono h₃ (fun ok s₄ h₄ => ?_) fun _ _ e => e
      obtain ⟨rfl, ⟨h₄', m₄, t₄, rfl, hn₄, he₄⟩, hel⟩ := h₄
      cases hf : f i with
      | none =>
        simp only [Option.isSome_none, Bool.false_eq_true, if_false]
        refine ⟨_, Nat.sub_lt_sub_left hlt (Nat.lt_succ_self i), h₄', m₄, t₄, ys, n, i + 1, rfl, ?_, he₄ _ _ (Nat.ne_of_lt (by omega)) hacc₂, hn₄, ?_, hlt, rfl, fun b o e => he₄ b o (Nat.ne_of_lt (Nat.lt_of_lt_of_le (Heap.lt_size e) (by omega))) (sub₂ b o e)⟩
        · exact hit₂.extBut he₄ (Nat.ne_of_lt (by omega))
        · rw [List.range_succ, List.filterMap_append]; simpa [hf] using hys
      | some x =>
        simp only [Option.isSome_some, if_true]
        refine wpAny_mono (hel x hf) (fun y s₅ h₅ => ?_) fun _ _ e => e
        obtain ⟨⟨u, rfl⟩, h₅', m₅, t₅, rfl, hn₅, he₅⟩ := h₅
        have hacc₅ : IsL h₅' H1.objs.size (List.toArray ys) n := he₅ _ _ (Nat.ne_of_lt (by omega)) hacc₂
        refine appendI (s := St s₀ h₅' t₅) hacc₅ hyl fun h₆ n₆ hl₆ hs₆ => ?_
        refine ⟨_, Nat.sub_lt_sub_left hlt (Nat.lt_succ_self i), h₆, m₅, t₅, _, n₆, i + 1, rfl, ?_, hl₆, hn₅.extBut hs₆.extBut (Nat.ne_of_gt (by omega)), ?_, hlt, rfl, fun b o e => hs₆.extBut b o (Nat.ne_of_lt (Nat.lt_of_lt_of_le (Heap.lt_size e) (by omega))) (he₅ b o (Nat.ne_of_lt (Nat.lt_of_lt_of_le (Heap.lt_size e) (by omega))) (sub₂ b o e))⟩
        · exact (hit₂.extBut he₅ (Nat.ne_of_lt (by omega))).extBut hs₆.extBut (Nat.ne_of_lt (by omega))
        · rw [List.range_succ, List.filterMap_append]; simpa [hf] using IntsAre.snoc hys x u
  exact codeAny_compStart_list (loop _ rfl) (wpAny_pyIter_listiter hit (loop _ rfl))
end
end Mine
end
section
open PySem PySem.W PySem.Calls PyProof.Rows
set_option maxRecDepth 100000
set_option maxHeartbeats 4000000
namespace Mine
section
variable {w : World} {mg mb : Str → Option Value} {B : Heap} {A : Around} {E : Value → Shared → Prop} {s : Shared}
variable {M : List Addr} {s₀ : Shared} {r h h' : Heap} {L c : Addr} {m : Str → Option Value}

theorem isCell_keepD {v : Option Value} (x : h.IsCell c v) (k : KeepD h h') : h'.IsCell c v := let ⟨o, ho, hd⟩ := x; ⟨o, k _ _ (fun vs q => by rw [hd] at q; cases q) ho, hd⟩
theorem isCell_ext {v : Option Value} (x : h.IsCell c v) (hn : h.Ns L m) (k : Heap.ExtBut L h h') : h'.IsCell c v := by
  obtain ⟨o, ho, hd⟩ := x
  refine ⟨o, k _ _ (fun q => ?_) ho, hd⟩
  obtain ⟨o', es, ep, e, d, _⟩ := hn
  rw [q, e] at ho; cases ho; rw [hd] at d; cases d
theorem isCell_app {v : Option Value} {l : Addr} {its : Array Value} {n : Nat} (x : h.IsCell c v) (hl : IsL h l its n) (k : Heap.SameBut l h h') : h'.IsCell c v := by
  obtain ⟨o, ho, hd⟩ := x
  refine ⟨o, (k.2 _ (fun q => ?_)).trans ho, hd⟩
  rw [q, hl] at ho; cases ho; cases hd
theorem KV.dropCell {v : Option Value} (k : KV (c :: M) h h') (hc : h.IsCell c v) : KV M h h' := fun b o vs n hb hd e => k b o vs n (by
  simp only [List.mem_cons, not_or]
  refine ⟨fun q => ?_, hb⟩
  obtain ⟨o', ho, hd'⟩ := hc
  rw [q, ho] at e; cases e; rw [hd] at hd'; cases hd') hd e

theorem call_fnC {f cda : Addr} {o oc : Obj} {name : Str} {params : Arguments} {body : List Stmt} {scope : Scope} {pm doc : Value} {vals : List Value} (binds : List (Str × Value)) (x : Str)
    {vsc : Array Value} {tc : Tok} {Q : Value → Shared → Prop}
    (C : Cx w mg mb B) (k : Sub B s.heap) (hroom : A.depth < recursionLimit)
    (ho : (hd.heap_39 w.params).lookup f = some o) (hdat : o.data = .func (docDef name params body scope pm (.ref cda) doc))
    (hoc : (hd.heap_39 w.params).lookup cda = some oc) (hdc : oc.data = .fields vsc) (hq : vsc[1]? = some (.str name tc))
    (hbind : bindArgs (docDef name params body scope pm (.ref cda) doc) ⟨vals, []⟩ = pure binds)
    (hloc : ∀ x ∈ binds, scope.names.lookup x.1 = some .local) (hcs : ∀ n, cellsFrom n scope.names [] = [(x, n)]) {x0 : Str} {v0 : Value}
    (hb0 : bindL (envOfC name scope s.heap.objs.size f (.ref cda)).kindOf binds (fun _ => none) x0 = some v0)
    (h : ∀ h₁ t m, m x0 = some v0 → FS B [] s s.heap s.heap.objs.size h₁ m → Sub s.heap h₁ → (∃ v, h₁.IsCell (s.heap.objs.size + 1) v) →
      wpAny (model Pg w) (A.deeper (envOfC name scope s.heap.objs.size f (.ref cda))) (execs body (envOfC name scope s.heap.objs.size f (.ref cda)))
        (fun fl s' => Q (match fl with | .ret v => v | _ => .none) s') (fun _ _ => False)
        (St s h₁ t))
    (hco : scope.isCoroutine = false := by rfl) (hgen : scope.isGenerator = false := by rfl) (hk : scope.kind = .function := by rfl) :
    wpAny (model Pg w) A (call (.ref f) vals) Q E s :=
  wpAny_call (call_cells_ret hroom (k _ _ (C.K _ _ ho)) hdat (C.nolimit.keeps k) ⟨cda, oc, vsc, tc, rfl, k _ _ (C.K _ _ hoc), hdc, hq⟩ hbind (fun x hx => .inl (hloc x hx)) (fun h₁ tk F₁ X => h h₁ tk _ hb0 (FS.start F₁ k (by simp)) F₁.keep
    ⟨_, X.cell x _ (by rw [hcs]; simp)⟩) hco hgen hk)

variable {name : Str} {scope : Scope} {a : Addr} {cd : Value}
theorem ldmC {x : Str} {pos : Pos} {v : Value} {Q : Value → Shared → Prop} (F : FS B M s₀ r L s.heap m) (hv : m x = some v) (h : Q v s)
    (hk : scope.kind = .function := by rfl) (hl : (envOfC name scope L a cd).kindOf x = some .local := by rfl)
    (hd : (x == ("__debug__" : Str)) = false := by decide) :
    wpAny (model Pg w) A (eval (.Name x pos) (envOfC name scope L a cd)) Q E s := wpAny_Name (wpAny_loadName_local hk hl F.ns hv h) hd
theorem ldcC {x : Str} {pos : Pos} {v : Value} {Q : Value → Shared → Prop} (hc : (cellsFrom (L + 1) scope.names []).lookup x = some c) (hv : s.heap.IsCell c (some v)) (h : Q v s)
    (hk : scope.kind = .function := by rfl) (hl : (envOfC name scope L a cd).kindOf x = some .cell := by rfl)
    (hd : (x == ("__debug__" : Str)) = false := by decide) :
    wpAny (model Pg w) A (eval (.Name x pos) (envOfC name scope L a cd)) Q E s := wpAny_Name (wpAny_loadName_cell hk hl hc hv h) hd
theorem stmC {x : Str} {v : Value} {Q : Unit → Shared → Prop} (F : FS B M s₀ r L h m)
    (hQ : ∀ h' t', FS B M s₀ r L h' (fun y => if y = x then some v else m y) → Heap.SameBut L h h' → Q () (St s₀ h' t'))
    (hst : s = St s₀ h s.toks := by rfl)
    (hk : scope.kind = .function := by rfl) (hl : (envOfC name scope L a cd).kindOf x = some .local := by rfl) :
    wpAny (model Pg w) A (storeName (envOfC name scope L a cd) x v) Q E s := by
  obtain ⟨h1, g1, d1, t1, o1⟩ := s
  cases hst
  exact wpAny_storeName_local hl F.ns (fun h' hn hs => hQ h' _ (F.set hn hs) hs)
    (by show (scope.kind == .class || (scope.kind == .module && L != mainGlobals)) = false; rw [hk]; rfl)
theorem FS.chgCell {v v' : Option Value} (F : FS B M s₀ r L h m) (hc : h.IsCell c v) (hB : B.get? c = none) (hM : c ∈ M ∨ r.get? c = none) (hs : Heap.SameBut c h h') (hc' : h'.IsCell c v') : FS B M s₀ r L h' m := by
  refine F.step (KeepM.of_same hs) ?_ (by simpa using hB) (fun b hb => by rw [List.mem_singleton.mp hb]; exact hM) (fun b hb _ => ?_)
  · intro q
    obtain ⟨o', es, ep, e, d, _⟩ := F.ns
    obtain ⟨o, ho, hd⟩ := hc
    rw [List.mem_singleton.mp q, ho] at e; cases e; rw [hd] at d; cases d
  · rw [List.mem_singleton.mp hb]
    obtain ⟨o, ho, _⟩ := hc'
    rw [ho]; rfl
theorem stcC {x : Str} {v : Value} {v₀ : Option Value} {Q : Unit → Shared → Prop} (F : FS B M s₀ r L h m) (hc : (cellsFrom (L + 1) scope.names []).lookup x = some c) (hv : h.IsCell c v₀) (hB : B.get? c = none) (hM : c ∈ M ∨ r.get? c = none)
    (hQ : ∀ h' t', FS B M s₀ r L h' m → h'.IsCell c (some v) → Heap.SameBut c h h' → Q () (St s₀ h' t'))
    (hst : s = St s₀ h s.toks := by rfl)
    (hk : scope.kind = .function := by rfl) (hl : (envOfC name scope L a cd).kindOf x = some .cell := by rfl) :
    wpAny (model Pg w) A (storeName (envOfC name scope L a cd) x v) Q E s := by
  obtain ⟨h1, g1, d1, t1, o1⟩ := s
  cases hst
  exact wpAny_storeName_cell hk hl hc hv (fun h' hv' hs => hQ h' _ (F.chgCell hv hB hM hs hv') hv' hs)
theorem ldgC {x : Str} {pos : Pos} {v : Value} {Q : Value → Shared → Prop} (C : Cx w mg mb B) (F : FS B M s₀ r L s.heap m) (hv : nsFind (gEntries w.params) x = some v) (h : Q v s)
    (hk : scope.kind = .function := by rfl) (hx : (envOfC name scope L a cd).kindOf x = some .globalImplicit := by rfl)
    (hd : (x == ("__debug__" : Str)) = false := by decide) : wpAny (model Pg w) A (eval (.Name x pos) (envOfC name scope L a cd)) Q E s :=
  Name_function_global hk hx (loadGlobal_global (env := envOfC name scope L a cd) (C.g.keeps F.base) ((C.mgEq x).trans hv) h) hd
theorem ldbC {x : Str} {pos : Pos} {v : Value} {Q : Value → Shared → Prop} (C : Cx w mg mb B) (F : FS B M s₀ r L s.heap m) (hn : nsFind (gEntries w.params) x = none) (hv : bootBuiltins x = some v) (h : Q v s)
    (hx' : x ≠ "__name__" := by decide)
    (hk : scope.kind = .function := by rfl) (hx : (envOfC name scope L a cd).kindOf x = some .globalImplicit := by rfl)
    (hd : (x == ("__debug__" : Str)) = false := by decide) : wpAny (model Pg w) A (eval (.Name x pos) (envOfC name scope L a cd)) Q E s :=
  Name_function_global hk hx (loadGlobal_builtin (env := envOfC name scope L a cd) (C.g.keeps F.base) ((C.mgEq x).trans hn) (C.b.keeps F.base) ((C.builtins x hx').trans hv) h) hd

/-- x, y, z = a triple, in a comprehension's own names -/
theorem unp3E {env : Env} {Cc : Addr} {x y z : Str} {px py pz pos : Pos} {k : Nat} {T : Addr} {v u q : Value} {Q : Unit → Shared → Prop} (hA : A.handled = none) (hn : h.Ns Cc m) (hT : h.get? T = some (tupO [v, u, q]))
    (hQ : ∀ h' t', h'.Ns Cc (fun n => if n = z then some q else if n = y then some u else if n = x then some v else m n) → Heap.ExtBut Cc h h' → Q () (St s₀ h' t'))
    (hst : s = St s₀ h s.toks := by rfl) (hL : env.locals = Cc := by rfl)
    (hk : (env.scope.kind == .class || (env.scope.kind == .module && env.locals != env.globals)) = false := by rfl) (hx : env.kindOf x = some .local := by rfl) (hy : env.kindOf y = some .local := by rfl) (hz : env.kindOf z = some .local := by rfl) :
    wpAny (model Pg w) A (assign (.Tuple [.Name x px, .Name y py, .Name z pz] k pos) env (.ref T)) Q E s := by
  obtain ⟨h1, g1, d1, t1, o1⟩ := s
  cases hst
  subst hL
  refine wpAny_assign_Tuple (items := #[v, u, q]) hA ⟨_, hT, rfl, 0, rfl⟩ rfl rfl fun h₁ e₁ => ?_
  have sub₁ : Sub h h₁ := fun b o e => e₁ b o (Nat.ne_of_lt (Heap.lt_size e)) e
  refine assignInOrder_cons (wpAny_assign_Name (wpAny_storeName_local hx (hn.keeps sub₁) (fun h₂ n₂ s₂ => ?_) hk))
  refine assignInOrder_cons (wpAny_assign_Name (wpAny_storeName_local hy n₂ (fun h₃ n₃ s₃ => ?_) hk))
  refine assignInOrder_cons (wpAny_assign_Name (wpAny_storeName_local hz n₃ (fun h₄ n₄ s₄ => ?_) hk))
  refine assignInOrder_nil (hQ h₄ _ n₄ (fun b o hb e => ?_))
  exact s₄.extBut b o hb (s₃.extBut b o hb (s₂.extBut b o hb (sub₁ b o e)))
/-- x, y, z = a triple, y in a cell -/
theorem unp3C {x y z : Str} {px py pz pos : Pos} {k : Nat} {T : Addr} {v u q : Value} {v₀ : Option Value} {Q : Unit → Shared → Prop} (hA : A.handled = none) (F : FS B M s₀ r L h m) (hT : h.get? T = some (tupO [v, u, q]))
    (hc : (cellsFrom (L + 1) scope.names []).lookup y = some c) (hv : h.IsCell c v₀) (hB : B.get? c = none) (hM : c ∈ M ∨ r.get? c = none)
    (hQ : ∀ h' t', FS B M s₀ r L h' (fun n => if n = z then some q else if n = x then some v else m n) → h'.IsCell c (some u) → KV [] h h' → Q () (St s₀ h' t'))
    (hst : s = St s₀ h s.toks := by rfl)
    (hk : scope.kind = .function := by rfl) (hx : (envOfC name scope L a cd).kindOf x = some .local := by rfl) (hy : (envOfC name scope L a cd).kindOf y = some .cell := by rfl) (hz : (envOfC name scope L a cd).kindOf z = some .local := by rfl) :
    wpAny (model Pg w) A (assign (.Tuple [.Name x px, .Name y py, .Name z pz] k pos) (envOfC name scope L a cd) (.ref T)) Q E s := by
  obtain ⟨h1, g1, d1, t1, o1⟩ := s
  cases hst
  refine wpAny_assign_Tuple (items := #[v, u, q]) hA ⟨_, hT, rfl, 0, rfl⟩ rfl rfl fun h₁ e₁ => ?_
  have sub₁ : Sub h h₁ := fun b o e => e₁ b o (Nat.ne_of_lt (Heap.lt_size e)) e
  have F₁ := F.grow sub₁
  refine assignInOrder_cons (wpAny_assign_Name (stmC F₁ (fun h₂ t₂ F₂ s₂ => ?_) rfl hk hx))
  have hv₂ := isCell_ext (hv.keeps sub₁) F₁.ns s₂.extBut
  refine assignInOrder_cons (wpAny_assign_Name (stcC F₂ hc hv₂ hB hM (fun h₃ t₃ F₃ v₃ s₃ => ?_) rfl hk hy))
  refine assignInOrder_cons (wpAny_assign_Name (stmC F₃ (fun h₄ t₄ F₄ s₄ => ?_) rfl hk hz))
  refine assignInOrder_nil (hQ h₄ t₄ F₄ (isCell_ext v₃ F₃.ns s₄.extBut) ?_)
  have k12 : KV [] h h₂ := (KV.of_sub sub₁).trans (KV.of_same F₁.ns s₂)
  have k23 : KV [] h₂ h₃ := KV.dropCell (KV.of_M (KeepM.of_same s₃)) hv₂
  exact k12.trans (k23.trans (KV.of_same F₃.ns s₄))
end
end Mine
end
section
open PySem PySem.W PySem.Calls PyProof.Rows
set_option maxRecDepth 100000
set_option maxHeartbeats 4000000
set_option linter.unusedVariables false
namespace Mine

theorem range_filterMap {α β : Type} (xs : List α) (g : α → Option β) : (List.range xs.length).filterMap (fun i => (xs[i]?).bind g) = xs.filterMap g := by
  induction xs with
  | nil => rfl
  | cons x r ih =>
    rw [List.length_cons, List.range_succ_eq_map, List.filterMap_cons, List.filterMap_map, List.filterMap_cons]
    simp only [List.getElem?_cons_zero, Option.bind_some]
    have : (fun i => ((x :: r)[i]?).bind g) ∘ Nat.succ = fun i => (r[i]?).bind g := by
      funext i; simp
    rw [this, ih]

/-- the bit k is in all modes -/
noncomputable def allBit (modes : List Int) (k : Nat) : Bool := modes.all fun m => decide (¬ (m.fdiv (2 ^ k)).fmod 2 = 0)
noncomputable def bitP (modes : List Int) (k : Nat) : Nat := if allBit modes k then 1 else 0
noncomputable def triP (b : Nat → Nat) (low high : Nat) (ends text : Str) : Str :=
  ((text ++ Txt.item "-r" (b (low + 2) : Nat)) ++ Txt.item "-w" (b (low + 1) : Nat)) ++ Txt.item ends (b low + b high * 2 : Nat)
noncomputable def headP (b : Nat → Nat) : Str := Txt.item "?pc?d?b?-?l?s???" (b 12 + b 13 * 2 + b 14 * 4 + b 15 * 8 : Nat)
noncomputable def tris : List (Nat × Nat × Str) := [(6, 11, "-xSs"), (3, 10, "-xSs"), (0, 9, "-xTt")]
noncomputable def textP (b : Nat → Nat) (i : Nat) : Str := (tris.take i).foldl (fun t x => triP b x.1 x.2.1 x.2.2 t) (headP b)
noncomputable def signsP (modes : List Int) : Str := textP (bitP modes) 3

section
variable {w : World} {mg mb : Str → Option Value} {B : Heap} {A : Around} {E : Value → Shared → Prop} {s : Shared}
variable {M : List Addr} {s₀ : Shared} {r h h' : Heap} {L c : Addr} {m : Str → Option Value} {Q : Value → Shared → Prop}

theorem ldE {env : Env} {Cc : Addr} {x : Str} {pos : Pos} {v : Value} (hn : s.heap.Ns Cc m) (hv : m x = some v) (h : Q v s) (hL : env.locals = Cc := by rfl)
    (hk : env.scope.kind = .function := by rfl) (hl : env.kindOf x = some .local := by rfl) (hd : (x == ("__debug__" : Str)) = false := by decide) :
    wpAny (model Pg w) A (eval (.Name x pos) env) Q E s := by
  subst hL
  exact wpAny_Name (wpAny_loadName_local hk hl hn hv h) hd
theorem ldEc {env : Env} {x : Str} {pos : Pos} {v : Value} (hc : env.cells.lookup x = some c) (hv : s.heap.IsCell c (some v)) (h : Q v s)
    (hk : env.scope.kind = .function := by rfl) (hl : env.kindOf x = some .cell := by rfl) (hd : (x == ("__debug__" : Str)) = false := by decide) :
    wpAny (model Pg w) A (eval (.Name x pos) env) Q E s := wpAny_Name (wpAny_loadName_cell hk hl hc hv h) hd

theorem itemSf {x : Str} {t u : Tok} {i : Int} {value slice : PySem.Expr} (F : FS B M s₀ r L h m) (hr : fitsSsize i = true) (h1 : -(x.length : Int) ≤ i) (h2 : i < x.length)
    (hQ : ∀ u t', Q (.str (Txt.item x i) u) (St s₀ h t')) (hst : s = St s₀ h s.toks := by rfl)
    (hs : subscripted slice false (.str x t) (.int i u) = operate [.str x t, .int i u] (getItem (.str x t) (.int i u)) := by with_unfolding_all rfl)
    (ht : ∀ r, letTemporaryGo value (.str x t) r = pure () := by intro _; with_unfolding_all rfl) :
    wpAny (model Pg w) A (subscriptTail value slice (.str x t) (.int i u)) Q E s := by
  obtain ⟨h1, g1, d1, t1, o1⟩ := s
  cases hst
  exact item_str hr h1 h2 (fun _ => hQ _ _) hs ht
theorem addSf {x y : Str} {t u : Tok} (F : FS B M s₀ r L h m) (hsz : x.length + y.length ≤ 1000) (hQ : ∀ u t', Q (.str (x ++ y) u) (St s₀ h t')) (hst : s = St s₀ h s.toks := by rfl) :
    wpAny (model Pg w) A (binaryOp .Add (.str x t) (.str y u)) Q E s := by
  obtain ⟨h1, g1, d1, t1, o1⟩ := s
  cases hst
  exact PyProof.Rows.add_str (fun _ _ => hQ _ _) (by rw [size_line]; omega)
/-- xs == [] -/
theorem eqNil {l b : Addr} {z : List Value} {n n2 : Nat} (hl : IsL s.heap l z.toArray n) (hb : IsL s.heap b (List.toArray []) n2) (hu : A.units < cLine) (hQ : Q (.bool z.isEmpty) s) :
    wpAny (model Pg w) A (compareOp .Eq (.ref l) (.ref b)) Q E s := by
  cases z with
  | nil => exact PySem.P.eq_list (e := fun _ => true) hl hb rfl (fun j h1 _ => by simp at h1) hu (by simpa using hQ)
  | cons x r => exact PySem.P.eq_list_lengths hl hb (by simp) hu (by simpa using hQ)

theorem comp_nil {ys : List Value} {modes : List Int} {k : Nat} {zs : List Value} (hlen : ys.length = modes.length)
    (h : IntsAre zs ((List.range ys.length).filterMap fun i => (modes[i]?).bind fun m => if (m.fdiv (2 ^ k)).fmod 2 = 0 then some m else none)) : zs.isEmpty = allBit modes k := by
  rw [hlen, range_filterMap] at h
  have e := IntsAre.len h
  cases hz : zs.isEmpty with
  | true =>
    rw [List.isEmpty_iff] at hz
    rw [hz] at e
    have := List.length_eq_zero_iff.mp e.symm
    rw [List.filterMap_eq_nil_iff] at this
    symm
    rw [allBit, List.all_eq_true]
    intro m hm
    have := this m hm
    split at this
    · cases this
    · simpa using ‹_›
  | false =>
    symm
    rw [allBit, List.all_eq_false]
    cases hf : modes.filterMap (fun m => if (m.fdiv (2 ^ k)).fmod 2 = 0 then some m else none) with
    | nil => rw [hf] at e; rw [List.length_eq_zero_iff.mp e] at hz; cases hz
    | cons x r =>
      have : x ∈ modes.filterMap (fun m => if (m.fdiv (2 ^ k)).fmod 2 = 0 then some m else none) := by rw [hf]; exact List.mem_cons_self ..
      rw [List.mem_filterMap] at this
      obtain ⟨m, hm, he⟩ := this
      refine ⟨m, hm, ?_⟩
      split at he
      · simpa using ‹_›
      · cases he

noncomputable def BitsAt (h : Heap) (bl : Addr) (b : Nat → Nat) (i : Nat) : Prop := ∃ vs n, IsL h bl (List.toArray vs) n ∧ IntsAre vs ((List.range i).map fun k => (b k : Int))

theorem IntsAre.get {vs : List Value} {ys : List Int} (h : IntsAre vs ys) : ∀ (i : Nat) (y : Int), ys[i]? = some y → ∃ t, vs[i]? = some (Value.int y t) := by
  induction h with
  | nil => intro i y hy; simp at hy
  | cons z u _ ih =>
    intro i y hy
    cases i with
    | zero => simp at hy; exact ⟨u, by simp [hy]⟩
    | succ i => simpa using ih i y (by simpa using hy)

theorem BitsAt.item {bl : Addr} {b : Nat → Nat} {i k : Nat} (x : BitsAt h bl b i) (hk : k < i) (hi : i ≤ 1000) : ∃ vs n t, IsL h bl (List.toArray vs) n ∧ vs[k]? = some (.int (b k) t) ∧ vs.length ≤ 1000 := by
  obtain ⟨vs, n, hl, hv⟩ := x
  obtain ⟨t, ht⟩ := IntsAre.get hv k (b k) (by simp [hk])
  exact ⟨vs, n, t, hl, ht, by rw [IntsAre.len hv]; simpa using hi⟩
theorem BitsAt.kv {bl : Addr} {b : Nat → Nat} {i : Nat} (x : BitsAt h bl b i) (k : KV [] h h') : BitsAt h' bl b i := let ⟨vs, n, hl, hv⟩ := x; ⟨vs, n, isL_kv0 hl k, hv⟩

/-- bits[k] -/
theorem bitItem {bl : Addr} {b : Nat → Nat} {i k : Nat} {kk : Int} {u : Tok} {value slice : PySem.Expr} (F : FS B M s₀ r L h m) (x : BitsAt h bl b i) (hkk : kk = k) (hk : k < i) (hi : i ≤ 1000) (hQ : ∀ u t', Q (.int (b k) u) (St s₀ h t'))
    (hst : s = St s₀ h s.toks := by rfl)
    (hs : subscripted slice false (.ref bl) (.int kk u) = operate [.ref bl, .int kk u] (getItem (.ref bl) (.int kk u)) := by with_unfolding_all rfl) :
    wpAny (model Pg w) A (subscriptTail value slice (.ref bl) (.int kk u)) Q E s := by
  obtain ⟨h1, g1, d1, t1, o1⟩ := s
  cases hst
  obtain ⟨vs, n, t, hl, hv, hlen⟩ := x.item hk hi
  exact itemL hl hkk hv hlen (hQ _ _) hs

theorem unp3L {name : Str} {scope : Scope} {a : Addr} {cd : Value} {x y z : Str} {px py pz pos : Pos} {k : Nat} {T : Addr} {v u q : Value} {Q : Unit → Shared → Prop} (hA : A.handled = none) (F : FS B M s₀ r L h m) (hT : h.get? T = some (tupO [v, u, q]))
    (hQ : ∀ h' t', FS B M s₀ r L h' (fun n => if n = z then some q else if n = y then some u else if n = x then some v else m n) → Heap.ExtBut L h h' → Q () (St s₀ h' t'))
    (hst : s = St s₀ h s.toks := by rfl)
    (hk : scope.kind = .function := by rfl) (hx : (envOfC name scope L a cd).kindOf x = some .local := by rfl) (hy : (envOfC name scope L a cd).kindOf y = some .local := by rfl) (hz : (envOfC name scope L a cd).kindOf z = some .local := by rfl) :
    wpAny (model Pg w) A (assign (.Tuple [.Name x px, .Name y py, .Name z pz] k pos) (envOfC name scope L a cd) (.ref T)) Q E s := by
  obtain ⟨h1, g1, d1, t1, o1⟩ := s
  cases hst
  refine wpAny_assign_Tuple (items := #[v, u, q]) hA ⟨_, hT, rfl, 0, rfl⟩ rfl rfl fun h₁ e₁ => ?_
  have sub₁ : Sub h h₁ := fun b o e => e₁ b o (Nat.ne_of_lt (Heap.lt_size e)) e
  have F₁ := F.grow sub₁
  refine assignInOrder_cons (wpAny_assign_Name (stmC F₁ (fun h₂ t₂ F₂ s₂ => ?_) rfl hk hx))
  refine assignInOrder_cons (wpAny_assign_Name (stmC F₂ (fun h₃ t₃ F₃ s₃ => ?_) rfl hk hy))
  refine assignInOrder_cons (wpAny_assign_Name (stmC F₃ (fun h₄ t₄ F₄ s₄ => ?_) rfl hk hz))
  refine assignInOrder_nil (hQ h₄ t₄ F₄ (fun b o hb e => ?_))
  exact s₄.extBut b o hb (s₃.extBut b o hb (s₂.extBut b o hb (sub₁ b o e)))

noncomputable def TriAt (h : Heap) (v : Value) (x : Nat × Nat × Str) : Prop := ∃ T t1 t2 t3, v = .ref T ∧ h.get? T = some (tupO [.int x.1 t1, .int x.2.1 t2, .str x.2.2 t3])
/-- (a, b, 's') -/
theorem triE {env : Env} {n k : Int} {z : Str} {k1 k2 k3 k4 : Nat} {o1 o2 o3 o4 : Pos} {x : Nat × Nat × Str} (F : FS B M s₀ r L h m) (h1 : n = x.1) (h2 : k = x.2.1) (hz : z = x.2.2)
    (hQ : ∀ a h' t', FS B M s₀ r L h' m → TriAt h' (.ref a) x → Sub h h' → Q (.ref a) (St s₀ h' t')) (hst : s = St s₀ h s.toks := by rfl) :
    wpAny (model Pg w) A (eval (.Tuple [.Constant (.int n) k1 o1, .Constant (.int k) k2 o2, .Constant (.str z) k3 o3] k4 o4) env) Q E s := by
  obtain ⟨g1, g2, g3, g4, g5⟩ := s
  cases hst
  refine Tuple_ (args_cons (litI F fun v1 t1 => ?_))
  refine args_cons (litI F fun v2 _ => args_cons (litS F fun v3 _ => args_nil (newTf F (by simp) fun p1 h3 _ F3 u1 k3 _ => ?_)))
  rw [h1, h2, hz] at u1
  exact hQ _ _ _ F3 ⟨_, _, _, _, rfl, u1⟩ k3
theorem TriAt.kv {v : Value} {x : Nat × Nat × Str} (i : TriAt h v x) (k : KV [] h h') : TriAt h' v x := let ⟨T, t1, t2, t3, e, g⟩ := i; ⟨T, t1, t2, t3, e, tup_kv g k (by simp)⟩
theorem bitP_le (modes : List Int) (k : Nat) : bitP modes k ≤ 1 := by unfold bitP; split <;> omega
theorem textP_len (b : Nat → Nat) (i : Nat) : (textP b i).length ≤ 10 := by
  have : ∀ n t, t ≤ 3 → ∀ (l : List (Nat × Nat × Str)) (x : Str), l.length ≤ t → x.length ≤ n → (l.foldl (fun t x => triP b x.1 x.2.1 x.2.2 t) x).length ≤ n + 3 * t := by
    intro n t ht l
    induction l generalizing n t with
    | nil => intro x _ hx; simp; omega
    | cons y l ih =>
      intro x hl hx
      simp only [List.length_cons] at hl
      have := ih (n + 3) (t - 1) (by omega) (triP b y.1 y.2.1 y.2.2 x) (by omega) (by
        simp only [triP, PySem.Str.length_append, len_item]; omega)
      simp only [List.foldl_cons]
      omega
  have := this 1 3 (by omega) (tris.take i) (headP b) (by simp [tris]; omega) (by simp [headP, len_item])
  exact this

theorem signs1 {l : Addr} {ys : List Value} {n : Nat} {modes : List Int} (C : Cx w mg mb B) (kB : Sub B s.heap) (hA : Aok A 1) (hl : IsL s.heap l (List.toArray ys) n) (hi : IntsAre ys modes) (hlen : ys.length ≤ 1000)
    (hQ : ∀ h' u t', Sub s.heap h' → Q (.str (signsP modes) u) (St s h' t')) : wpAny (model Pg w) A (call (.ref 144) [.ref l]) Q E s := by
  refine call_fnC [("modes", .ref l)] "k" C kB hA.room rfl rfl rfl rfl rfl rfl (locs rfl) (fun _ => rfl) (x0 := "modes") (v0 := .ref l) rfl fun h₁ t₁ m0 mm F sub₁ hcell => ?_
  refine wpAny_execs_cons ?_
  refine wpAny_Assign_Name ?_ ?hs
  case hs => exact swList _ _ _ _ _ _
  refine List_ ?_
  refine args_nil ?_
  refine newLf F (by simp) ?_ ?hst
  case hst => rfl
  intro bl h2 _ F2 l2 k2 n2
  refine stmC F2 ?_ ?hst
  case hst => rfl
  intro h3 t3 F3 s3
  obtain ⟨v₀, hcell⟩ := hcell
  have c3 := isCell_ext (hcell.keeps k2) F2.ns s3.extBut
  have l3 : IsL h3 bl (List.toArray []) 0 := isL_same l2 F2.ns s3
  have hsc : s.heap.get? (s.heap.objs.size + 1) = none := Heap.get?_none_of_le (Nat.le_succ _)
  have hcB : B.get? (s.heap.objs.size + 1) = none := by
    cases e : B.get? (s.heap.objs.size + 1) with
    | none => rfl
    | some o => rw [kB _ _ e] at hsc; cases hsc
  have hbs : s.heap.get? bl = none := (F.fresh n2).1
  have hbB : B.get? bl = none := (F.fresh n2).2.1
  have F4 : FS B [bl, s.heap.objs.size + 1] s h3 s.heap.objs.size h3 _ := F3.rebase (M' := [bl, s.heap.objs.size + 1]) (fun b hb => by
    rcases List.mem_cons.mp hb with rfl | hb
    · exact ⟨hbB, by rw [l3]; rfl⟩
    · rw [List.mem_singleton.mp hb]; obtain ⟨o, ho, _⟩ := c3; exact ⟨hcB, by rw [ho]; rfl⟩)
  have hl3 : IsL h3 l (List.toArray ys) n := F3.keep _ _ (by simp) (Nat.ne_of_lt (Heap.lt_size hl)) hl
  have hlb : l ≠ bl := fun q => by subst q; exact nomatch (hbs.symm.trans hl)
  generalize hcc : s.heap.objs.size + 1 = c at *
  -- for k in range(16)
  refine wpAny_execs_cons ?_
  refine wpAny_For ?_ ?hs
  case hs => intro _; rfl
  refine Call_ ?_
  refine ldbC C F4 (g_no_range _) boot_range ?_
  refine PyProof.Rows.callWith_type1 ?_
  refine args_cons ?_
  refine litI F4 ?_ ?hst
  case hst => rfl
  intro u4 t4
  refine args_nil ?_
  refine forRange (N := 16) (pos := default) (hA.deeper _).hd F4 rfl (by omega) (fun j h m => m "modes" = some (.ref l) ∧ m "bits" = some (.ref bl) ∧ IsL h l (List.toArray ys) n ∧ (∃ v, h.IsCell c v) ∧ BitsAt h bl (bitP modes) j) ?_ ?_ ?_ ?_ ?hst
  case hst => rfl
  · rintro j h h' m k ⟨m1, m2, hl, ⟨v, hc⟩, va, na, hb, hv⟩
    exact ⟨m1, m2, IsL.keepD hl k, ⟨v, isCell_keepD hc k⟩, va, na, IsL.keepD hb k, hv⟩
  · exact ⟨mm, rfl, hl3, ⟨_, c3⟩, [], 0, l3, .nil⟩
  · rintro j v h m t hj ⟨tj, rfl⟩ _ ⟨m1, m2, hl, ⟨v, hc⟩, va, na, hb, hv⟩ G
    refine wpAny_assign_Name ?_
    refine stcC (c := c) G ?hc hc hcB (.inl (by simp)) ?_ ?hst
    case hst => rfl
    case hc => rw [← hcc]; rfl
    intro h5 t5 G5 c5 s5
    have kv5 : KV [] h h5 := KV.dropCell (KV.of_M (KeepM.of_same s5)) hc
    have hl5 := isL_kv0 hl kv5
    have hb5 := isL_kv0 hb kv5
    have hvl : va.length ≤ 1000 := by rw [IntsAre.len hv]; simp; omega
    refine wpAny_execs_cons ?_
    refine wpAny_Expr ?_
    refine MethodCall_ ?_
    refine ldmC G5 m2 ?_
    refine meth_append hb5 ?_
    refine callWith_method1 ?_
    refine args_cons ?_
    refine IfExp_ ?_
    refine wpAny_isTrue_Compare1 ?_
    refine compL (cl := [("k", c)]) (ax := l) (h := h5) (vs := ys) (hA.deeper _).hd G5 hl5.isList hlen ?hiter ?hclos (fun i => (modes[i]?).bind fun m => if (m.fdiv (2 ^ j)).fmod 2 = 0 then some m else none) ?turn ?_ ?hs
    case hs => intro _; rfl
    case hiter => exact ldmC G5 m1 ⟨rfl, _, rfl⟩
    case hclos => rw [← hcc]; rfl
    case turn =>
      intro Cc i v h6 m6 t6 E' hv6 hn6 sub6 hC6
      obtain ⟨x, tx, rfl, hx⟩ := IntsAre.at' hi hv6
      refine wpAny_assign_Name ?_
      refine wpAny_storeName_local rfl hn6 ?_ rfl
      intro h7 n7 s7
      replace s7 : Heap.SameBut Cc h6 h7 := s7
      have sub7 : Sub h5 h7 := fun b o e => s7.extBut b o (fun q => by rw [q, hC6] at e; cases e) (sub6 b o e)
      have G7 := G5.grow sub7
      have c7 := c5.keeps sub7
      have e7 : Heap.ExtBut Cc h6 h7 := s7.extBut
      refine wpAny_isTrue_Compare1 ?_
      refine wpAny_BinOp ?_
      refine wpAny_BinOp ?_
      refine ldE n7 rfl ?_
      refine wpAny_BinOp ?_
      refine litI G7 ?_ ?hst
      case hst => rfl
      intro _ _
      refine ldEc (c := c) rfl c7 ?_
      refine powI G7 (by omega) ?_ ?_ ?hst
      case hst => rfl
      · have e5 : (Builtin.Int.intBits 2 : Int) = 2 := by decide
        rw [e5]; omega
      intro _ _
      have hp5 : (2 : Int) ^ (j : Int).toNat = 2 ^ j := by simp
      have hb5 : (1 : Int) ≤ 2 ^ j ∧ (2 : Int) ^ j ≤ 32768 := by
        refine ⟨by have := Nat.one_le_two_pow (n := j); exact_mod_cast this, ?_⟩
        have : (2 : Nat) ^ j ≤ 2 ^ 15 := Nat.pow_le_pow_right (by omega) (by omega)
        exact_mod_cast this
      rw [hp5]
      refine fdivI G7 (by omega) (PyProof.noPylong_small (by omega)) ?_ ?hst
      case hst => rfl
      intro _ _
      refine litI G7 ?_ ?hst
      case hst => rfl
      intro _ _
      refine modI G7 (by decide) ?_ ?hst
      case hst => rfl
      intro _ _
      refine litI G7 ?_ ?hst
      case hst => rfl
      intro _ _
      refine eq_int ?_
      refine wpAny_truthy_bool ?_
      refine ⟨?_, ⟨h7, _, _, rfl, n7, e7⟩, fun y hy => ?_⟩
      · rw [hx, Option.bind_some]
        split
        · rename_i e; rw [e]; rfl
        · rename_i e; simpa using e
      · rw [hx, Option.bind_some] at hy
        have hyx : y = x := by
          split at hy
          · exact (Option.some.inj hy).symm
          · cases hy
        rw [hyx]
        refine ldE n7 rfl ?_
        exact ⟨⟨_, rfl⟩, h7, _, _, rfl, n7, e7⟩
    intro D h6 zs nz t6 G6 lz hz sub6 nD
    refine List_ ?_
    refine args_nil ?_
    refine newLf G6 (by simp) ?_ ?hst
    case hst => rfl
    intro em h7 t7 G7 l7 k7 n7
    refine eqNil (s := St _ h7 _) (k7 _ _ lz) l7 (hA.deeper _).units ?_
    refine wpAny_truthy_bool ?_
    rw [comp_nil (IntsAre.len hi) hz]
    have hb7 : IsL h7 bl (List.toArray va) na := k7 _ _ (sub6 _ _ hb5)
    have hl7 : IsL h7 l (List.toArray ys) n := k7 _ _ (sub6 _ _ hl5)
    have c7 : h7.IsCell c _ := (c5.keeps sub6).keeps k7
    have fin : ∀ (b : Nat) u h8 n8 t8, b = bitP modes j → FS B [bl, c] s h s.heap.objs.size h8 m → IsL h8 bl (List.toArray (va ++ [.int b u])) n8 → Heap.SameBut bl h7 h8 →
        ∃ h'' m'' t', St s h8 t8 = St s h'' t' ∧ FS B [bl, c] s h s.heap.objs.size h'' m'' ∧ m'' "modes" = some (.ref l) ∧ m'' "bits" = some (.ref bl) ∧ IsL h'' l (List.toArray ys) n ∧ (∃ v, h''.IsCell c v) ∧ BitsAt h'' bl (bitP modes) (j + 1) := by
      intro b u h8 n8 t8 hb8 G8 l8 s8
      refine ⟨h8, m, t8, rfl, G8, m1, m2, (s8.2 _ ?_).trans hl7, ⟨_, isCell_app c7 hb7 s8⟩, _, n8, l8, ?_⟩
      · exact hlb
      · rw [List.range_succ, List.map_append, hb8]
        exact IntsAre.snoc hv _ _
    cases hab : allBit modes j with
    | true =>
      simp only [if_true]
      refine litI G7 ?_ ?hst
      case hst => rfl
      intro u8 t8
      refine args_nil ?_
      refine appendLf G7 hb7 hbB (.inl (by simp)) hvl ?_ ?hst
      case hst => rfl
      intro h8 n8 t8 G8 l8 s8
      exact wpAny_execs_nil (fin 1 _ h8 n8 t8 (by simp [bitP, hab]) G8 l8 s8)
    | false =>
      simp only [Bool.false_eq_true, if_false]
      refine litI G7 ?_ ?hst
      case hst => rfl
      intro u8 t8
      refine args_nil ?_
      refine appendLf G7 hb7 hbB (.inl (by simp)) hvl ?_ ?hst
      case hst => rfl
      intro h8 n8 t8 G8 l8 s8
      exact wpAny_execs_nil (fin 0 _ h8 n8 t8 (by simp [bitP, hab]) G8 l8 s8)
  · rintro h m t G ⟨m1, m2, hl, ⟨v, hc⟩, hb⟩
    refine wpAny_execs_nil ?_
    have G0 : FS B [] s s.heap s.heap.objs.size h m := F3.back G (fun b hb => by
      rcases List.mem_cons.mp hb with rfl | hb
      · exact .inr hbs
      · rw [List.mem_singleton.mp hb]; exact .inr hsc)
    generalize hbm : bitP modes = b at hb
    have hb1 : ∀ k, b k ≤ 1 := fun k => by rw [← hbm]; exact bitP_le modes k
    -- kind = ...
    refine wpAny_execs_cons ?_
    refine wpAny_Assign_Name ?_ ?hs
    case hs => rfl
    refine wpAny_BinOp ?_
    refine wpAny_BinOp ?_
    refine wpAny_BinOp ?_
    refine Subscript_ ?_
    refine ldmC G0 m2 ?_
    refine litI G0 ?_ ?hst
    case hst => rfl
    intro _ _
    refine bitItem (k := 12) G0 hb rfl (by omega) (by omega) ?_ ?hst
    case hst => rfl
    intro _ _
    refine wpAny_BinOp ?_
    refine Subscript_ ?_
    refine ldmC G0 m2 ?_
    refine litI G0 ?_ ?hst
    case hst => rfl
    intro _ _
    refine bitItem (k := 13) G0 hb rfl (by omega) (by omega) ?_ ?hst
    case hst => rfl
    intro _ _
    refine litI G0 ?_ ?hst
    case hst => rfl
    intro _ _
    refine mulI G0 (.inl (by decide)) ?_ ?hst
    case hst => rfl
    intro _ _
    refine addI G0 ?_ ?hst
    case hst => rfl
    intro _ _
    refine wpAny_BinOp ?_
    refine Subscript_ ?_
    refine ldmC G0 m2 ?_
    refine litI G0 ?_ ?hst
    case hst => rfl
    intro _ _
    refine bitItem (k := 14) G0 hb rfl (by omega) (by omega) ?_ ?hst
    case hst => rfl
    intro _ _
    refine litI G0 ?_ ?hst
    case hst => rfl
    intro _ _
    refine mulI G0 (.inl (by decide)) ?_ ?hst
    case hst => rfl
    intro _ _
    refine addI G0 ?_ ?hst
    case hst => rfl
    intro _ _
    refine wpAny_BinOp ?_
    refine Subscript_ ?_
    refine ldmC G0 m2 ?_
    refine litI G0 ?_ ?hst
    case hst => rfl
    intro _ _
    refine bitItem (k := 15) G0 hb rfl (by omega) (by omega) ?_ ?hst
    case hst => rfl
    intro _ _
    refine litI G0 ?_ ?hst
    case hst => rfl
    intro _ _
    refine mulI G0 (.inl (by decide)) ?_ ?hst
    case hst => rfl
    intro _ _
    refine addI G0 ?_ ?hst
    case hst => rfl
    intro _ _
    refine stmC G0 ?_ ?hst
    case hst => rfl
    intro h6 t6 G6 s6
    have hb6 : BitsAt h6 bl b 16 := hb.kv (KV.of_same G0.ns s6)
    -- text = ...
    refine wpAny_execs_cons ?_
    refine wpAny_Assign_Name ?_ ?hs
    case hs => rfl
    refine Subscript_ ?_
    refine litS G6 ?_ ?hst
    case hst => rfl
    intro _ _
    refine ldmC G6 rfl ?_
    have b12 := hb1 12
    have b13 := hb1 13
    have b14 := hb1 14
    have b15 := hb1 15
    have ek : ((b 12 : Int) + (b 13 : Int) * 2 + (b 14 : Int) * 4 + (b 15 : Int) * 8) = ((b 12 + b 13 * 2 + b 14 * 4 + b 15 * 8 : Nat) : Int) := by omega
    have hfit : ∀ n : Nat, n < 16 → fitsSsize (n : Int) = true := by decide
    have hlen16 : (Str.ofString "?pc?d?b?-?l?s???").length = 16 := by decide
    refine itemSf G6 ?_ ?_ ?_ ?_ ?hst
    case hst => rfl
    · rw [ek]; exact hfit _ (by omega)
    · rw [hlen16]; omega
    · rw [hlen16]; omega
    intro _ _
    rw [ek]
    refine stmC G6 ?_ ?hst
    case hst => rfl
    intro h7 t7 G7 s7
    have hb7 : BitsAt h7 bl b 16 := hb6.kv (KV.of_same G6.ns s7)
    -- the loop
    refine wpAny_execs_cons ?_
    refine wpAny_For ?_ ?hs
    case hs => intro _; rfl
    refine List_ ?_
    refine args_cons ?_ ?he
    case he => exact seTup _ _ _ _ _
    refine triE (x := (6, 11, "-xSs")) G7 rfl rfl rfl ?_ ?hst
    case hst => rfl
    intro p1 h8 _ G8 u1 k8
    refine args_cons ?_ ?he
    case he => exact seTup _ _ _ _ _
    refine triE (x := (3, 10, "-xSs")) G8 rfl rfl rfl ?_ ?hst
    case hst => rfl
    intro p2 h9 _ G9 u2 k9
    refine args_cons ?_ ?he
    case he => exact seTup _ _ _ _ _
    refine triE (x := (0, 9, "-xTt")) G9 rfl rfl rfl ?_ ?hst
    case hst => rfl
    intro p3 h10 _ G10 u3 k10
    refine args_nil ?_
    refine newLf G10 (by simp) ?_ ?hst
    case hst => rfl
    intro tl h11 _ G11 l11 k11 _
    have hb11 : BitsAt h11 bl b 16 := hb7.kv (KV.of_sub (k8.trans (k9.trans (k10.trans k11))))
    have U1 : TriAt h11 (.ref p1) (6, 11, "-xSs") := u1.kv (KV.of_sub (k9.trans (k10.trans k11)))
    have U2 : TriAt h11 (.ref p2) (3, 10, "-xSs") := u2.kv (KV.of_sub (k10.trans k11))
    have U3 : TriAt h11 (.ref p3) (0, 9, "-xTt") := u3.kv (KV.of_sub k11)
    have H11 : FS B [] s h11 s.heap.objs.size h11 _ := G11.rebase (M' := []) (by simp)
    refine forList (vs := [.ref p1, .ref p2, .ref p3]) (hA.deeper _).hd H11 l11.isList (by simp) (fun i h m => m "bits" = some (.ref bl) ∧ BitsAt h bl b 16 ∧ (∃ u, m "text" = some (.str (textP b i) u)) ∧ TriAt h (.ref p1) (6, 11, "-xSs") ∧ TriAt h (.ref p2) (3, 10, "-xSs") ∧ TriAt h (.ref p3) (0, 9, "-xTt")) ?_ ?_ ?_ ?_
    · rintro i h h' m k ⟨e1, e2, e3, e4, e5, e6⟩
      have kv : KV [] h h' := KV.of_D k
      exact ⟨e1, e2.kv kv, e3, e4.kv kv, e5.kv kv, e6.kv kv⟩
    · exact ⟨m2, hb11, ⟨_, rfl⟩, U1, U2, U3⟩
    · rintro i v h m t hlt hv F ⟨m2, hb, ⟨ut, mt⟩, U1, U2, U3⟩ G
      have hx : ∃ x, tris[i]? = some x ∧ TriAt h v x ∧ x.1 + 2 < 16 ∧ x.2.1 < 16 ∧ x.2.2.length = 4 := by
        rcases (by simp at hlt; omega : i = 0 ∨ i = 1 ∨ i = 2) with rfl | rfl | rfl
        · cases hv; exact ⟨_, rfl, U1, by decide, by decide, by decide⟩
        · cases hv; exact ⟨_, rfl, U2, by decide, by decide, by decide⟩
        · cases hv; exact ⟨_, rfl, U3, by decide, by decide, by decide⟩
      obtain ⟨x, hx, hT, hx1, hx2, hx3⟩ := hx
      obtain ⟨T, a1, a2, a3, rfl, hTg⟩ := hT
      refine unp3L (hA.deeper _).hd G hTg ?_ ?hst
      case hst => rfl
      intro h5 t5 G5 e5
      have kv5 : KV [] h h5 := KV.of_ns G.ns e5
      have hb5 := hb.kv kv5
      have hlow := hb1 x.1
      have hlow1 := hb1 (x.1 + 1)
      have hlow2 := hb1 (x.1 + 2)
      have hhi := hb1 x.2.1
      have hl2 : (Str.ofString "-r").length = 2 ∧ (Str.ofString "-w").length = 2 := by decide
      have htl := textP_len b i
      refine wpAny_execs_cons ?_
      refine wpAny_Assign_Name ?_ ?hs
      case hs => rfl
      refine wpAny_BinOp ?_
      refine wpAny_BinOp ?_
      refine wpAny_BinOp ?_
      refine ldmC G5 mt ?_
      refine Subscript_ ?_
      refine litS G5 ?_ ?hst
      case hst => rfl
      intro _ _
      refine Subscript_ ?_
      refine ldmC G5 m2 ?_
      refine wpAny_BinOp ?_
      refine ldmC G5 rfl ?_
      refine litI G5 ?_ ?hst
      case hst => rfl
      intro _ _
      refine addI G5 ?_ ?hst
      case hst => rfl
      intro _ _
      refine bitItem (k := x.1 + 2) G5 hb5 (by omega) (by omega) (by omega) ?_ ?hst
      case hst => rfl
      intro _ _
      refine itemSf G5 (hfit _ (by omega)) (by omega) (by rw [hl2.1]; omega) ?_ ?hst
      case hst => rfl
      intro _ _
      refine addSf G5 (by rw [len_item]; omega) ?_ ?hst
      case hst => rfl
      intro _ _
      refine Subscript_ ?_
      refine litS G5 ?_ ?hst
      case hst => rfl
      intro _ _
      refine Subscript_ ?_
      refine ldmC G5 m2 ?_
      refine wpAny_BinOp ?_
      refine ldmC G5 rfl ?_
      refine litI G5 ?_ ?hst
      case hst => rfl
      intro _ _
      refine addI G5 ?_ ?hst
      case hst => rfl
      intro _ _
      refine bitItem (k := x.1 + 1) G5 hb5 (by omega) (by omega) (by omega) ?_ ?hst
      case hst => rfl
      intro _ _
      refine itemSf G5 (hfit _ (by omega)) (by omega) (by rw [hl2.2]; omega) ?_ ?hst
      case hst => rfl
      intro _ _
      refine addSf G5 (by rw [PySem.Str.length_append, len_item, len_item]; omega) ?_ ?hst
      case hst => rfl
      intro _ _
      refine Subscript_ ?_
      refine ldmC G5 rfl ?_
      refine wpAny_BinOp ?_
      refine Subscript_ ?_
      refine ldmC G5 m2 ?_
      refine ldmC G5 rfl ?_
      refine bitItem (k := x.1) G5 hb5 rfl (by omega) (by omega) ?_ ?hst
      case hst => rfl
      intro _ _
      refine wpAny_BinOp ?_
      refine Subscript_ ?_
      refine ldmC G5 m2 ?_
      refine ldmC G5 rfl ?_
      refine bitItem (k := x.2.1) G5 hb5 rfl (by omega) (by omega) ?_ ?hst
      case hst => rfl
      intro _ _
      refine litI G5 ?_ ?hst
      case hst => rfl
      intro _ _
      refine mulI G5 (.inl (by decide)) ?_ ?hst
      case hst => rfl
      intro _ _
      refine addI G5 ?_ ?hst
      case hst => rfl
      intro _ _
      have ek : ((b x.1 : Int) + (b x.2.1 : Int) * 2) = ((b x.1 + b x.2.1 * 2 : Nat) : Int) := by omega
      rw [ek]
      refine itemSf G5 (hfit _ (by omega)) (by omega) (by rw [hx3]; omega) ?_ ?hst
      case hst => rfl
      intro _ _
      refine addSf G5 (by rw [PySem.Str.length_append, PySem.Str.length_append, len_item, len_item, len_item]; omega) ?_ ?hst
      case hst => rfl
      intro uf tf
      refine stmC G5 ?_ ?hst
      case hst => rfl
      intro h6 t6 G6 s6
      have kv6 : KV [] h h6 := kv5.trans (KV.of_same G5.ns s6)
      refine wpAny_execs_nil ⟨h6, _, t6, rfl, G6, m2, hb.kv kv6, ⟨uf, ?_⟩, U1.kv kv6, U2.kv kv6, U3.kv kv6⟩
      have : textP b (i + 1) = triP b x.1 x.2.1 x.2.2 (textP b i) := by
        unfold textP
        rw [List.take_add_one, hx, List.foldl_append]
        rfl
      rw [this]
      rfl
    · rintro h m t F ⟨m2, hb, ⟨ut, mt⟩, _⟩
      refine wpAny_execs_nil ?_
      refine wpAny_execs_cons ?_
      refine wpAny_Return_some ?_
      refine ldmC F mt ?_
      have F9 := G11.back F (by simp)
      subst hbm
      exact hQ h ut t (fun b o e => F9.kp b o (by simp) e)
end
end Mine
end
section
open PySem PySem.W PySem.Calls PyProof.Rows
set_option maxRecDepth 100000
set_option maxHeartbeats 4000000
namespace Mine
/-- the asks of a sorting tree, answered by lt -/
noncomputable def Okt {α : Type} (lt : Nat → Nat → Bool) (n : Nat) : KasT α → (α → Prop) → Prop
  | .ret a, P => P a
  | .ask i j k, P => i < n ∧ j < n ∧ Okt lt n (k (lt i j)) P
section
variable {lt : Nat → Nat → Bool} {n : Nat}
theorem Okt.bind {α β : Type} {f : α → KasT β} {P : β → Prop} : ∀ {t : KasT α}, Okt lt n t (fun a => Okt lt n (f a) P) → Okt lt n (t.bind f) P
  | .ret _, h => h
  | .ask _ _ _, ⟨h1, h2, h3⟩ => ⟨h1, h2, Okt.bind h3⟩
theorem Okt.mono {α : Type} {P P' : α → Prop} (hp : ∀ a, P a → P' a) : ∀ {t : KasT α}, Okt lt n t P → Okt lt n t P'
  | .ret _, h => hp _ h
  | .ask _ _ _, ⟨h1, h2, h3⟩ => ⟨h1, h2, Okt.mono hp h3⟩
theorem Okt.wp {α : Type} {P : α → Prop} {cmp : Nat → Nat → (Bool → Shared → Prop) → Shared → Prop} {Q : α → Shared → Prop} {s : Shared} (hc : ∀ i j (C : Bool → Shared → Prop), i < n → j < n → C (lt i j) s → cmp i j C s) (hq : ∀ a, P a → Q a s) :
    ∀ {t : KasT α}, Okt lt n t P → t.kasWp cmp Q s
  | .ret _, h => hq _ h
  | .ask i j _, ⟨h1, h2, h3⟩ => hc i j _ h1 h2 (Okt.wp hc hq h3)
end

section
variable {key : Nat → It} {n : Nat} {p : Array Nat}
noncomputable def Good (n : Nat) (p : Array Nat) : Prop := p.toList.Perm (List.range n)
noncomputable def Ky (key : Nat → It) (p : Array Nat) (a : Nat) : It := key (p.getD a 0)
noncomputable def Srt (key : Nat → It) (p : Array Nat) (k : Nat) : Prop := ∀ a b, a < b → b < k → ilt (Ky key p b) (Ky key p a) = false
noncomputable def NI (key : Nat → It) (p : Array Nat) (k : Nat) : Prop := ∀ a b, a < b → b < k → ilt (Ky key p a) (Ky key p b) = false
noncomputable def EqB (key : Nat → It) (p : Array Nat) (m q : Nat) : Prop := q + 1 ≤ m ∧ ∀ a, m - (q + 1) ≤ a → a < m → Ky key p a = Ky key p (m - 1)
noncomputable abbrev ltk (key : Nat → It) (i j : Nat) : Bool := ilt (key i) (key j)

theorem Good.size (g : Good n p) : p.size = n := by have := g.length_eq; simpa using this
theorem Good.lt (g : Good n p) (hn : 0 < n) (a : Nat) : p.getD a 0 < n := by
  by_cases h : a < p.size
  · have : p.getD a 0 = p[a] := by simp [Array.getD, h]
    rw [this]
    have hm : p[a] ∈ p.toList := Array.getElem_mem_toList h
    exact List.mem_range.mp (g.mem_iff.mp hm)
  · have : p.getD a 0 = 0 := by simp [Array.getD, h]
    omega
theorem Good.perm {q : Array Nat} (g : Good n p) (h : q.Perm p) : Good n q := h.toList.trans g
theorem ky_of {q : Array Nat} {a b : Nat} (h : q[a]? = p[b]?) : Ky key q a = Ky key p b := by
  unfold Ky
  rw [Array.getD_eq_getD_getElem?, Array.getD_eq_getD_getElem?, h]
theorem ky_rev {i j : Nat} (hj : j ≤ p.size) (k : Nat) : Ky key (kas_rev p i j) k = if i ≤ k ∧ k < j then Ky key p (i + j - 1 - k) else Ky key p k := by
  have := getElem?_mirror_all (i := i) hj k
  split
  · rename_i h; rw [if_pos h] at this; exact ky_of this
  · rename_i h; rw [if_neg h] at this; exact ky_of this
theorem Good.rev {i j : Nat} (g : Good n p) : Good n (kas_rev p i j) := g.perm (mirror_perm _ _ _ _)

theorem asc_ok (hn : 0 < n) (g : Good n p) : ∀ (f m : Nat), 1 ≤ m → Srt key p m → Okt (ltk key) n (kas_asc p f m) (fun r => m ≤ r ∧ r ≤ m + f ∧ Srt key p r ∧ (r < m + f → ilt (Ky key p r) (Ky key p (r - 1)) = true))
  | 0, m, _, hs => ⟨Nat.le_refl _, Nat.le_refl _, hs, fun h => absurd h (Nat.lt_irrefl _)⟩
  | f + 1, m, h1, hs => by
    refine ⟨g.lt hn _, g.lt hn _, ?_⟩
    cases hc : ltk key (p.getD m 0) (p.getD (m - 1) 0) with
    | true =>
      show Okt _ _ (if _ then _ else _) _
      rw [if_pos rfl]
      exact ⟨Nat.le_refl _, by omega, hs, fun _ => hc⟩
    | false =>
      show Okt _ _ (if _ then _ else _) _
      rw [if_neg Bool.false_ne_true]
      have hs' : Srt key p (m + 1) := by
        intro a b hab hb
        rcases Nat.lt_or_ge b m with q | q
        · exact hs a b hab q
        · have hbm : b = m := by omega
          subst hbm
          rcases Nat.lt_or_ge a (b - 1) with q | q
          · exact nlt_trans (hs a (b - 1) q (by omega)) hc
          · have : a = b - 1 := by omega
            rw [this]; exact hc
      exact (asc_ok hn g f (m + 1) (by omega) hs').mono (fun r hr => ⟨by omega, by omega, hr.2.2.1, fun h => hr.2.2.2 (by omega)⟩)

theorem desc_ok (hn : 0 < n) : ∀ (f : Nat) (p : Array Nat) (m q : Nat), Good n p → m + f ≤ n → NI key p m → EqB key p m q →
    Okt (ltk key) n (kas_desc f p m q) (fun r => Good n r.1 ∧ m ≤ r.2.1 ∧ r.2.1 ≤ n ∧ NI key r.1 r.2.1 ∧ EqB key r.1 r.2.1 r.2.2)
  | 0, p, m, q, g, hm, hi, he => ⟨g, Nat.le_refl _, by omega, hi, he⟩
  | f + 1, p, m, q, g, hm, hi, he => by
    have h1 : 1 ≤ m := by have := he.1; omega
    refine ⟨g.lt hn _, g.lt hn _, ?_⟩
    have ext : ∀ p' : Array Nat, (∀ k, Ky key p' k = Ky key p k) → ilt (Ky key p (m - 1)) (Ky key p m) = false → NI key p' (m + 1) := by
      intro p' hk hc a b hab hb
      rw [hk, hk]
      rcases Nat.lt_or_ge b m with q | q
      · exact hi a b hab q
      · have hbm : b = m := by omega
        subst hbm
        rcases Nat.lt_or_ge a (b - 1) with q | q
        · exact nlt_trans (x := Ky key p b) (y := Ky key p (b - 1)) (z := Ky key p a) hc (hi a (b - 1) q (by omega))
        · have : a = b - 1 := by omega
          rw [this]; exact hc
    cases hc : ltk key (p.getD m 0) (p.getD (m - 1) 0) with
    | true =>
      show Okt _ _ (if _ then _ else _) _
      rw [if_pos rfl]
      have hc' : ilt (Ky key p (m - 1)) (Ky key p m) = false := ilt_asymm hc
      split
      · have hk : ∀ k, Ky key (kas_rev p (m - (q + 1)) m) k = Ky key p k := by
          intro k
          rw [ky_rev (by rw [g.size]; omega)]
          split
          · rename_i h
            have := he.1
            rw [he.2 _ (by omega) (by omega), he.2 k (by omega) (by omega)]
          · rfl
        exact (desc_ok hn f _ (m + 1) 0 g.rev (by omega) (ext _ hk hc') ⟨by omega, fun a h1 h2 => congrArg _ (by omega : a = m + 1 - 1)⟩).mono (fun r hr => ⟨hr.1, by omega, hr.2.2.1, hr.2.2.2⟩)
      · exact (desc_ok hn f p (m + 1) 0 g (by omega) (ext p (fun _ => rfl) hc') ⟨by omega, fun a h1 h2 => congrArg _ (by omega : a = m + 1 - 1)⟩).mono (fun r hr => ⟨hr.1, by omega, hr.2.2.1, hr.2.2.2⟩)
    | false =>
      show Okt _ _ (if _ then _ else _) _
      rw [if_neg Bool.false_ne_true]
      refine ⟨g.lt hn _, g.lt hn _, ?_⟩
      cases hd : ltk key (p.getD (m - 1) 0) (p.getD m 0) with
      | true =>
        show Okt _ _ (if _ then _ else _) _
        rw [if_pos rfl]
        exact ⟨g, Nat.le_refl _, Nat.le_trans (Nat.le_add_right m (f + 1)) hm, hi, he⟩
      | false =>
        show Okt _ _ (if _ then _ else _) _
        rw [if_neg Bool.false_ne_true]
        have heq : Ky key p m = Ky key p (m - 1) := nlt_antisymm hd hc
        refine (desc_ok hn f p (m + 1) (q + 1) g (by omega) (ext p (fun _ => rfl) hd) ⟨by have := he.1; omega, fun a h1 h2 => ?_⟩).mono (fun r hr => ⟨hr.1, by omega, hr.2.2.1, hr.2.2.2⟩)
        rcases Nat.lt_or_ge a m with q' | q'
        · rw [he.2 a (by omega) q', Nat.add_sub_cancel, heq]
        · have : a = m + 1 - 1 := by omega
          rw [this]

theorem tail3_ok (hn : 0 < n) {m : Nat} (g : Good n p) (h1 : 1 ≤ m) (hm : m ≤ n) (hi : NI key p m) : Okt (ltk key) n (kas_tail3 m n p) (fun r => Good n r.2 ∧ Srt key r.2 r.1 ∧ 1 ≤ r.1 ∧ r.1 ≤ n) := by
  unfold kas_tail3
  refine Okt.bind ?_
  have hs : Srt key (kas_rev p 0 m) m := by
    intro a b hab hb
    rw [ky_rev (by rw [g.size]; exact hm), ky_rev (by rw [g.size]; exact hm), if_pos (by omega), if_pos (by omega)]
    exact hi _ _ (by omega) (by omega)
  exact (asc_ok hn g.rev (n - m) m h1 hs).mono (fun r hr => ⟨g.rev, hr.2.2.1, by omega, by omega⟩)

theorem descPart_ok (hn : 0 < n) {m : Nat} (g : Good n p) (h1 : 1 ≤ m) (hm : m < n) (hi : NI key p (m + 1)) : Okt (ltk key) n (kas_descPart m n p) (fun r => Good n r.2 ∧ Srt key r.2 r.1 ∧ 1 ≤ r.1 ∧ r.1 ≤ n) := by
  unfold kas_descPart
  refine Okt.bind ((desc_ok hn (n - (m + 1)) p (m + 1) 0 g (by omega) hi ⟨by omega, fun a h1 h2 => congrArg _ (by omega : a = m + 1 - 1)⟩).mono (fun r hr => ?_))
  obtain ⟨g', hm', hn', hi', he'⟩ := hr
  split
  · refine tail3_ok hn g'.rev (by omega) hn' ?_
    have hk : ∀ k, Ky key (kas_rev r.1 (r.2.1 - (r.2.2 + 1)) r.2.1) k = Ky key r.1 k := by
      intro k
      rw [ky_rev (by rw [g'.size]; omega)]
      split
      · rename_i h
        have := he'.1
        rw [he'.2 _ (by omega) (by omega), he'.2 k (by omega) (by omega)]
      · rfl
    intro a b hab hb
    rw [hk, hk]
    exact hi' a b hab hb
  · exact tail3_ok hn g' (by omega) hn' hi'

theorem count_ok (hn : 0 < n) (g : Good n p) : Okt (ltk key) n (kas_count n p) (fun r => Good n r.2 ∧ Srt key r.2 r.1 ∧ 1 ≤ r.1 ∧ r.1 ≤ n) := by
  unfold kas_count
  refine Okt.bind ((asc_ok (key := key) hn g (n - 1) 1 (Nat.le_refl _) (fun a b h1 h2 => by omega)).mono (fun r hr => ?_))
  obtain ⟨h1, h2, hs, hst⟩ := hr
  split
  · exact ⟨g, hs, h1, by omega⟩
  · rename_i hne
    have hne' : r ≠ n := by simpa using hne
    have hdn : ilt (Ky key p r) (Ky key p (r - 1)) = true := hst (by omega)
    split
    · refine ⟨g.lt hn _, g.lt hn _, ?_⟩
      cases hc : ltk key (p.getD 0 0) (p.getD (r - 1) 0) with
      | true => show Okt _ _ (if _ then _ else _) _
                rw [if_pos rfl]; exact ⟨g, hs, h1, by omega⟩
      | false =>
        show Okt _ _ (if _ then _ else _) _
        rw [if_neg Bool.false_ne_true]
        -- all the same
        have heq : ∀ a, a < r → Ky key p a = Ky key p (r - 1) := by
          intro a ha
          have e0 : ilt (Ky key p 0) (Ky key p (r - 1)) = false := hc
          have e1 : ilt (Ky key p (r - 1)) (Ky key p a) = false := by
            rcases Nat.lt_or_ge a (r - 1) with q | q
            · exact hs a (r - 1) q (by omega)
            · have : a = r - 1 := by omega
              rw [this]; exact ilt_irrefl _
          have e2 : ilt (Ky key p a) (Ky key p 0) = false := by
            rcases Nat.lt_or_ge 0 a with q | q
            · exact hs 0 a q ha
            · have : a = 0 := by omega
              rw [this]; exact ilt_irrefl _
          exact nlt_antisymm e1 (nlt_trans e0 e2)
        have hk : ∀ k, Ky key (kas_rev p 0 r) k = Ky key p k := by
          intro k
          rw [ky_rev (by rw [g.size]; omega)]
          split
          · rw [heq _ (by omega), heq k (by omega)]
          · rfl
        refine descPart_ok hn g.rev (by omega) (by omega) ?_
        intro a b hab hb
        rw [hk, hk]
        rcases Nat.lt_or_ge b r with q | q
        · rw [heq a (by omega), heq b q]; exact ilt_irrefl _
        · have : b = r := by omega
          rw [this, heq a (by omega)]; exact ilt_asymm hdn
    · have hr1 : r = 1 := by omega
      subst hr1
      refine descPart_ok hn g (by omega) (by omega) ?_
      intro a b hab hb
      have ha : a = 0 := by omega
      have hb : b = 1 := by omega
      subst ha hb
      exact ilt_asymm hdn

theorem place_ok (hn : 0 < n) (g : Good n p) {k : Nat} (hs : Srt key p k) : ∀ (f l r : Nat), l ≤ r → r ≤ k → r ≤ l + f → (∀ a, a < l → ilt (Ky key p k) (Ky key p a) = false) → (∀ a, r ≤ a → a < k → ilt (Ky key p a) (Ky key p k) = false) →
    Okt (ltk key) n (kas_place p k f l r) (fun x => x ≤ k ∧ (∀ a, a < x → ilt (Ky key p k) (Ky key p a) = false) ∧ (∀ a, x ≤ a → a < k → ilt (Ky key p a) (Ky key p k) = false))
  | 0, l, r, h1, h2, h3, hl, hr => ⟨by omega, hl, fun a ha => hr a (by omega)⟩
  | f + 1, l, r, h1, h2, h3, hl, hr => by
    unfold kas_place
    split
    · exact ⟨by omega, hl, fun a ha => hr a (by omega)⟩
    · refine ⟨g.lt hn _, g.lt hn _, ?_⟩
      cases hc : ltk key (p.getD k 0) (p.getD ((l + r) / 2) 0) with
      | true =>
        show Okt _ _ (if _ then _ else _) _
        rw [if_pos rfl]
        refine place_ok hn g hs f l ((l + r) / 2) (by omega) (by omega) (by omega) hl (fun a ha hak => ?_)
        have e : ilt (Ky key p ((l + r) / 2)) (Ky key p k) = false := ilt_asymm hc
        rcases Nat.lt_or_ge ((l + r) / 2) a with q | q
        · exact nlt_trans (x := Ky key p k) (y := Ky key p ((l + r) / 2)) e (hs _ a q hak)
        · have : a = (l + r) / 2 := by omega
          rw [this]; exact e
      | false =>
        show Okt _ _ (if _ then _ else _) _
        rw [if_neg Bool.false_ne_true]
        refine place_ok hn g hs f ((l + r) / 2 + 1) r (by omega) h2 (by omega) (fun a ha => ?_) hr
        rcases Nat.lt_or_ge a ((l + r) / 2) with q | q
        · exact nlt_trans (hs a ((l + r) / 2) q (by omega)) hc
        · have : a = (l + r) / 2 := by omega
          rw [this]; exact hc

theorem bin_ok (hn : 0 < n) : ∀ (f : Nat) (p : Array Nat) (k : Nat), Good n p → k + f = n → Srt key p k → Okt (ltk key) n (kas_bin f p k) (fun r => Good n r ∧ Srt key r n)
  | 0, p, k, g, hk, hs => ⟨g, by have : k = n := by omega
                                 rw [← this]; exact hs⟩
  | f + 1, p, k, g, hk, hs => by
    unfold kas_bin
    refine Okt.bind ((place_ok hn g hs k 0 k (by omega) (by omega) (by omega) (fun a ha => by omega) (fun a ha hak => by omega)).mono (fun x hx => ?_))
    obtain ⟨hxk, hlo, hhi⟩ := hx
    refine bin_ok hn f _ (k + 1) (g.perm (bubble_perm _ _ _)) (by omega) ?_
    have kb : ∀ a, Ky key (bubble p k (k - x)) a = if a = x then Ky key p k else if x < a ∧ a ≤ k then Ky key p (a - 1) else Ky key p a := by
      intro a
      have := getElem?_bubble (xs := p) (src := k) (by rw [g.size]; omega) (k - x) (by omega) a
      rw [show k - (k - x) = x by omega] at this
      split
      · rename_i h; rw [if_pos h] at this; exact ky_of this
      · rename_i h
        rw [if_neg h] at this
        split
        · rename_i h2; rw [if_pos h2] at this; exact ky_of this
        · rename_i h2; rw [if_neg h2] at this; exact ky_of this
    intro a b hab hb
    rw [kb, kb]
    by_cases hbx : b = x
    · rw [if_pos hbx, if_neg (by omega), if_neg (by omega)]
      exact hlo a (by omega)
    · rw [if_neg hbx]
      by_cases hax : a = x
      · rw [if_pos hax, if_pos (by omega)]
        exact hhi (b - 1) (by omega) (by omega)
      · rw [if_neg hax]
        by_cases hb2 : x < b
        · rw [if_pos (by omega : x < b ∧ b ≤ k)]
          by_cases ha2 : x < a
          · rw [if_pos (by omega : x < a ∧ a ≤ k)]
            exact hs (a - 1) (b - 1) (by omega) (by omega)
          · rw [if_neg (by omega)]
            exact hs a (b - 1) (by omega) (by omega)
        · rw [if_neg (by omega), if_neg (by omega)]
          exact hs a b hab (by omega)

theorem sort_ok (key : Nat → It) (hn : 0 < n) : Okt (ltk key) n (kas_sort n) (fun r => Good n r ∧ Srt key r n) := by
  unfold kas_sort
  refine Okt.bind ((count_ok (key := key) hn (p := List.toArray (List.range n)) (List.Perm.refl _)).mono (fun r hr => ?_))
  obtain ⟨g, hs, h1, h2⟩ := hr
  split
  · rw [Nat.max_eq_left h1]
    exact bin_ok hn _ _ _ g (by omega) hs
  · have : r.1 = n := by omega
    rw [this] at hs
    exact ⟨g, hs⟩
end
end Mine
end
section
open PySem PySem.W PySem.Calls PyProof.Rows
set_option maxRecDepth 100000
set_option maxHeartbeats 4000000
namespace Mine
section
variable {w : World} {mg mb : Str → Option Value} {B : Heap} {A : Around} {E : Value → Shared → Prop} {s : Shared}
variable {M : List Addr} {s₀ : Shared} {r h h' : Heap} {L : Addr} {m m' : Str → Option Value} {Q : Value → Shared → Prop}

theorem lt_key {v u : Value} {x y : It} {Q : Bool → Shared → Prop} (hv : ItemAt s.heap v x) (hw : ItemAt s.heap u y) (h : Q (ilt x y) s) : wpAny (model Pg w) A (keyLt' (tuples' true) v u) Q E s := by
  obtain ⟨a, t1, t2, t3, rfl, ga⟩ := hv
  obtain ⟨b, u1, u2, u3, rfl, gb⟩ := hw
  refine kat_lt ga rfl gb rfl ?_
  refine kat_cons (wpAny_eqBool_int ?_)
  by_cases e1 : x.1 = y.1
  · have e1' : (x.1 == y.1) = true := by simp [e1]
    rw [e1']
    refine kat_yes (kat_cons (eqBool_str ?_))
    by_cases e2 : x.2.1 = y.2.1
    · have e2' : (x.2.1 == y.2.1) = true := by simp [e2]
      rw [e2']
      refine kat_yes (kat_cons (wpAny_eqBool_int ?_))
      by_cases e3 : x.2.2 = y.2.2
      · have e3' : (x.2.2 == y.2.2) = true := by simp [e3]
        rw [e3']
        have : ilt x y = false := by
          rw [show x = y from Prod.ext e1 (Prod.ext e2 e3)]; exact ilt_irrefl _
        rw [this] at h
        exact kat_yes (kat_nil h)
      · have e3' : (x.2.2 == y.2.2) = false := by simp [e3]
        rw [e3']
        have : ilt x y = decide (x.2.2 < y.2.2) := by simp [ilt, e1, e2, slt_irrefl]
        rw [this] at h
        exact kat_no (kat_one _ _ (wpAny_lt_int h))
    · have e2' : (x.2.1 == y.2.1) = false := by simp [e2]
      rw [e2']
      have : ilt x y = slt x.2.1 y.2.1 := by simp [ilt, e1, e2]
      rw [this] at h
      exact kat_no (kat_one _ _ (P.lt_str h))
  · have e1' : (x.1 == y.1) = false := by simp [e1]
    rw [e1']
    have : ilt x y = decide (x.1 < y.1) := by simp [ilt, e1]
    rw [this] at h
    exact kat_no (oneLt_int h)

theorem FS.setE (F : FS B M s₀ r L h m) (hn : h'.Ns L m') (k : Heap.ExtBut L h h') : FS B M s₀ r L h' m' := by
  refine ⟨hn, fun b o e => k b o (fun q => by rw [q, F.bl] at e; cases e) (F.base b o e), fun b o hb hL e => k b o hL (F.keep b o hb hL e), F.bm, F.bl, fun b hb => ?_⟩
  by_cases q : b = L
  · obtain ⟨o, _, _, ho, _⟩ := hn
    rw [q, ho]; rfl
  · obtain ⟨o, ho⟩ := Option.isSome_iff_exists.mp (F.mex b hb)
    rw [k b o q ho]; rfl

noncomputable def allNews (h : Heap) (L : Addr) : List (Addr × Obj) := (List.range h.objs.size).filterMap fun b => if b = L then none else (h.get? b).map fun o => (b, o)
theorem mem_allNews {b : Addr} {o : Obj} : (b, o) ∈ allNews h L ↔ b ≠ L ∧ h.get? b = some o := by
  unfold allNews
  rw [List.mem_filterMap]
  constructor
  · rintro ⟨c, _, hc⟩
    split at hc
    · cases hc
    · rename_i hne
      rw [Option.map_eq_some_iff] at hc
      obtain ⟨o', ho', e⟩ := hc
      cases e
      exact ⟨hne, ho'⟩
  · rintro ⟨hne, ho⟩
    refine ⟨b, List.mem_range.mpr (Heap.lt_size ho), ?_⟩
    rw [if_neg hne, ho]; rfl

theorem katTups : ∀ (vs : List Value), (∀ v ∈ vs, ∃ x, ItemAt h v x) → ∃ fs, KatTups h vs fs ∧ fs.length = vs.length ∧ ∀ v ∈ fs, ∃ n t, v = .int n t
  | [], _ => ⟨[], KatTups.nil, rfl, by simp⟩
  | v :: vs, hv => by
    obtain ⟨fs, hk, hl, hi⟩ := katTups vs (fun u hu => hv u (List.mem_cons_of_mem _ hu))
    obtain ⟨x, a, t1, t2, t3, rfl, g⟩ := hv v (List.mem_cons_self ..)
    refine ⟨.int x.1 t1 :: fs, KatTups.cons g rfl rfl rfl hk, by simp [hl], fun u hu => ?_⟩
    rcases List.mem_cons.mp hu with rfl | hu
    · exact ⟨_, _, rfl⟩
    · exact hi u hu

/-- sorted(items) -/
theorem sorted_ {l : Addr} {vs : List Value} {n : Nat} {κ : Value → It} (F : FS B M s₀ r L h m) (hl : IsL h l vs.toArray n) (hit : ∀ v ∈ vs, ItemAt h v (κ v)) (h2 : 2 ≤ vs.length) (h64 : vs.length < 64)
    (hQ : ∀ D h' ws n' t', FS B M s₀ r L h' m → IsL h' D (List.toArray ws) n' → ws.Perm vs → (ws.Pairwise fun a b => ilt (κ b) (κ a) = false) → Heap.ExtBut L h h' → h.get? D = none → Q (.ref D) (St s₀ h' t'))
    (hst : s = St s₀ h s.toks := by rfl) : wpAny (model Pg w) A (call (.builtin "sorted") [.ref l]) Q E s := by
  obtain ⟨h1, g1, d1, t1, o1⟩ := s
  cases hst
  have F0 : Fr { objs := #[] } L h m := ⟨F.ns, fun b o e => by simp [Heap.get?] at e, Nat.zero_le _⟩
  have N0 : News { objs := #[] } L h (allNews h L) := fun p hp => by
    have := mem_allNews.mp (show (p.1, p.2) ∈ allNews h L from hp)
    exact ⟨this.2, this.1, by simp [Heap.get?]⟩
  refine kat_sorted F0 N0 hl.isList h2 h64 fun D e1 h' F1 N1 hD => ?_
  have keep : ∀ h'' : Heap, News { objs := #[] } L h'' (allNews h L) → Heap.ExtBut L h h'' := fun h'' N b o hb e => (N (b, o) (mem_allNews.mpr ⟨hb, e⟩)).1
  have k1 : Heap.ExtBut L h h' := keep h' fun p hp => N1 p (List.mem_cons_of_mem _ hp)
  have itL : ∀ v ∈ vs, ItemAt h' v (κ v) := fun v hv => (hit v hv).ext F.ns k1
  obtain ⟨fs, hk, hfl, hfi⟩ := katTups vs (fun v hv => ⟨_, itL v hv⟩)
  refine kat_kind (T := .type "int") hk (by omega) (fun v hv => ?_) rfl ?_
  · obtain ⟨k, t, rfl⟩ := hfi v hv
    exact Looks.now
  have hDn : h.get? D = none := by
    cases e : h.get? D with
    | none => rfl
    | some o =>
      by_cases q : D = L
      · exact absurd q (N1 _ (List.mem_cons_self ..)).2.1
      · exact absurd (hD (D, o) (mem_allNews.mpr ⟨q, e⟩)) (Nat.lt_irrefl _)
  refine Okt.wp (lt := ltk fun i => κ (vs.getD i .none)) (n := vs.length) (P := fun p => Good vs.length p ∧ Srt (fun i => κ (vs.getD i .none)) p vs.length) ?_ ?_ (sort_ok _ (by omega))
  · intro i j C hi hj hc
    exact lt_key (itL _ (mem_getD hi)) (itL _ (mem_getD hj)) hc
  · rintro p ⟨g, hs⟩
    refine ⟨_, _, F1, N1, .head fun p hp => ?_, fun h2 c F2 N2 => ?_⟩
    · intro q
      have := hD p hp
      rw [q] at this
      exact Nat.lt_irrefl _ this
    · have k2 : Heap.ExtBut L h h2 := keep h2 fun p hp => N2 p (List.mem_cons_of_mem _ hp)
      refine hQ D h2 _ c t1 (F.setE F2.ns k2) (N2 _ (List.mem_cons_self ..)).1 ?_ ?_ k2 hDn
      · have : vs = (List.range vs.length).map fun i => vs.getD i .none := by
          apply List.ext_getElem
          · simp
          · intro i h1 h2; simp [List.getElem?_eq_getElem h1]
        refine (List.Perm.map _ g).trans ?_
        rw [← this]
      · rw [List.pairwise_map, List.pairwise_iff_getElem]
        intro i j hi hj hij
        have hsz := g.size
        have := hs i j hij (by rw [← hsz]; simpa using hj)
        unfold Ky at this
        have e : ∀ a (ha : a < p.toList.length), p.getD a 0 = p.toList[a] := by
          intro a ha
          simp at ha
          simp [Array.getD, ha]
        rw [e i hi, e j hj] at this
        exact this
end
end Mine
end
section
open PySem PySem.W PySem.Calls PyProof.Rows
set_option maxRecDepth 100000
set_option maxHeartbeats 4000000
set_option linter.unusedVariables false
namespace Mine

noncomputable def itOf (ls : List Nat) (m : Int) : It := (-(ls.length : Int), host ls, m)
noncomputable def chain : List Nat → List (List Nat)
  | [] => [[]]
  | a :: r => (a :: r) :: if goesOn (a :: r) then chain r else []
noncomputable def rungsOf (rows : List Row) : List It := rows.flatMap fun r => (chain r.1).map fun ls => itOf ls r.2

theorem chain_go {ls : List Nat} (h : goesOn ls = true) (hne : ls ≠ []) : chain ls = ls :: chain ls.tail := by
  cases ls with
  | nil => cases hne rfl
  | cons a r => simp [chain, h]
theorem chain_stop {ls : List Nat} (h : goesOn ls = false) : chain ls = [ls] := by
  cases ls with
  | nil => rfl
  | cons a r => simp [chain, h]
theorem LsOk.ne {ls : List Nat} (h : LsOk ls) : ls ≠ [] := by
  rintro rfl
  have := h.1
  simp at this

section
variable {w : World} {mg mb : Str → Option Value} {B : Heap} {A : Around} {E : Value → Shared → Prop} {s : Shared}
variable {M : List Addr} {s₀ : Shared} {r h h' : Heap} {L : Addr} {m : Str → Option Value} {Q : Value → Shared → Prop}

theorem lenF {la : Addr} {ls : List Nat} (F : FS B M s₀ r L h m) (hl : LabAt h la ls) (ok : LsOk ls) (hQ : ∀ u t', Q (.int ls.length u) (St s₀ h t')) (hst : s = St s₀ h s.toks := by rfl) :
    wpAny (model Pg w) A (call (.builtin "len") [.ref la]) Q E s := by
  obtain ⟨h1, g1, d1, t1, o1⟩ := s
  cases hst
  obtain ⟨vs, n, hl, hs⟩ := hl
  have e : vs.length = ls.length := by rw [StrsAre.len hs]; simp
  have := ok.2.1
  refine lenL hl (by omega) fun u t => ?_
  rw [e]
  exact hQ _ _
theorem labs_sum {ls : List Nat} : ((ls.map lab).map (·.length)).sum ≤ 5 * ls.length := by
  induction ls with
  | nil => simp
  | cons a r ih =>
    have : (lab a).length ≤ 5 := labC_len a
    simp only [List.map_cons, List.sum_cons, List.length_cons]
    omega
theorem joinF {la : Addr} {ls : List Nat} {t : Tok} (F : FS B M s₀ r L h m) (hl : LabAt h la ls) (ok : LsOk ls) (hQ : ∀ u t', Q (.str (host ls) u) (St s₀ h t')) (hst : s = St s₀ h s.toks := by rfl) :
    wpAny (model Pg w) A (call (.builtin "str.join") [.str (Str.ofString ".") t, .ref la]) Q E s := by
  obtain ⟨h1, g1, d1, t1, o1⟩ := s
  cases hst
  obtain ⟨vs, n, hl, hs⟩ := hl
  have := ok.2.1
  refine join_listW hl.isList (by simpa using hs) (by decide) ?_ fun t' k => ?_
  · have := labs_sum (ls := ls)
    simp only [List.length_map] at *
    omega
  · rw [join_host]
    exact hQ _ _

/-- xs[k:] -/
theorem sliceFromL {value : PySem.Expr} {lo : PySem.Expr} {p : Pos} {l : Addr} {vs : List Value} {env : Env} {k : Nat} {uk : Tok} (F : FS B M s₀ r L h m) (hl : h.IsList l vs.toArray) (hsz : vs.length ≤ 1000)
    (hQ : ∀ b h' t', FS B M s₀ r L h' m → IsL h' b (List.toArray (vs.drop k)) 0 → Sub h h' → h.get? b = none → Q (.ref b) (St s₀ h' t'))
    (hst : s = St s₀ h s.toks := by rfl)
    (hs : ∀ a, subscripted (.Slice (some lo) none none p) false (.ref l) (.ref a) = operate [.ref a, .ref l] (getItem (.ref l) (.ref a)) := by intro _; with_unfolding_all rfl)
    (ht : ∀ r, letTemporaryGo value (.ref l) r = pure () := by intro _; with_unfolding_all rfl) :
    wpAny (model Pg w) A (evalPart none env) (fun u s₂ => wpAny (model Pg w) A (evalPart none env) (fun st s₃ =>
      wpAny (model Pg w) A (subscriptTail value (.Slice (some lo) none none p) (.ref l) (.ref s₃.heap.objs.size)) Q E
                  { heap := s₃.heap.push { cls := Value.type "slice", data := Data.fields #[.int k uk, u, st] },
                    gens := s₃.gens, drawn := s₃.drawn, toks := s₃.toks, os := s₃.os }) E s₂) E s := by
  obtain ⟨h1, g1, d1, t1, o1⟩ := s
  cases hst
  refine wpAny_evalPart_none (wpAny_evalPart_none ?_)
  refine subscriptTail_ops (Heap.IsList.typeIs (s := St s₀ (h.push { cls := Value.type "slice", data := Data.fields #[.int k uk, .none, .none] }) t1) (hl.push _)) list_getitem_lookup
    (wpAny_getItem_list_slice (hl.push _) (Heap.IsSliceOf.new ..) (.int _ _) .none .none (by simp) ?_ (by rw [size_line]; simp; omega)) (hs _) ht
  rw [slicePick_from']
  refine hQ _ _ _ ((F.push _).push _) (Heap.get?_push_size _ rfl) (Sub.trans (Sub.push _ _) (Sub.push _ _)) (Heap.get?_none_of_le (by show h.objs.size ≤ (h.push _).objs.size; rw [Heap.size_push]; omega))

theorem unp2L {name : Str} {scope : Scope} {a : Addr} {cd : Value} {x y : Str} {px py pos : Pos} {k : Nat} {T : Addr} {v u : Value} {Q : Unit → Shared → Prop} (hA : A.handled = none) (F : FS B M s₀ r L h m) (hT : h.get? T = some (tupO [v, u]))
    (hQ : ∀ h' t', FS B M s₀ r L h' (fun z => if z = y then some u else if z = x then some v else m z) → Heap.ExtBut L h h' → Q () (St s₀ h' t'))
    (hst : s = St s₀ h s.toks := by rfl)
    (hk : scope.kind = .function := by rfl) (hx : (envOfC name scope L a cd).kindOf x = some .local := by rfl) (hy : (envOfC name scope L a cd).kindOf y = some .local := by rfl) :
    wpAny (model Pg w) A (assign (.Tuple [.Name x px, .Name y py] k pos) (envOfC name scope L a cd) (.ref T)) Q E s := by
  obtain ⟨h1, g1, d1, t1, o1⟩ := s
  cases hst
  refine wpAny_assign_Tuple (items := #[v, u]) hA ⟨_, hT, rfl, 0, rfl⟩ rfl rfl fun h₁ e₁ => ?_
  have sub₁ : Sub h h₁ := fun b o e => e₁ b o (Nat.ne_of_lt (Heap.lt_size e)) e
  have F₁ := F.grow sub₁
  refine assignInOrder_cons (wpAny_assign_Name (stmC F₁ (fun h₂ t₂ F₂ s₂ => ?_) rfl hk hx))
  refine assignInOrder_cons (wpAny_assign_Name (stmC F₂ (fun h₃ t₃ F₃ s₃ => ?_) rfl hk hy))
  refine assignInOrder_nil (hQ h₃ t₃ F₃ (fun b o hb e => ?_))
  exact s₃.extBut b o hb (s₂.extBut b o hb (sub₁ b o e))

/-- rungs.append(an item just made) -/
theorem rungApp {rl T : Addr} {R : List It} {x : It} (F : FS B M s₀ r L h m) (hR : ListAt ItemAt h rl R) (hx : ItemAt h (.ref T) x) (hz : R.length ≤ 900) (hB : B.get? rl = none) (hM : rl ∈ M ∨ r.get? rl = none)
    (hQ : ∀ h' t', FS B M s₀ r L h' m → ListAt ItemAt h' rl (R ++ [x]) → KV [rl] h h' → RL h rl → Q .none (St s₀ h' t'))
    (hst : s = St s₀ h s.toks := by rfl) : wpAny (model Pg w) A (call (.builtin "list.append") [.ref rl, .ref T]) Q E s := by
  obtain ⟨va, na, lv, hvlen, hva⟩ := id hR
  have hrl : RL h rl := hR.rl (fun v x p => p.ref)
  refine appendLf F lv hB hM (by omega) ?_ hst
  intro h3 n3 t3 F3 l3 s3
  have kv : KV [rl] h h3 := KV.of_M (KeepM.of_same s3)
  have hM2 : ∀ b ∈ [rl], RL h b := fun b hb => by rw [List.mem_singleton.mp hb]; exact hrl
  refine hQ h3 t3 F3 ?_ kv hrl
  exact ListAt.snoc hvlen hva (fun v x p => p.kv kv hM2) l3 (hx.kv kv hM2)
end
end Mine
end
section
open PySem PySem.W PySem.Calls PyProof.Rows
set_option maxRecDepth 100000
set_option maxHeartbeats 4000000
set_option linter.unusedVariables false
namespace Mine

noncomputable def sameMode (name : Str) (z : It) : Option Int := if z.2.1 == name then some z.2.2 else none
noncomputable def duePart (R : List It) (last : Option Str) (y : It) : List (Str × Str) := if some y.2.1 = last then [] else [(y.2.1, signsP (R.filterMap (sameMode y.2.1)))]
noncomputable def dueGo (R : List It) : Option Str → List It → List (Str × Str)
  | _, [] => []
  | last, y :: ys => duePart R last y ++ dueGo R (some y.2.1) ys
noncomputable def PairS (h : Heap) (v : Value) (x : Str × Str) : Prop := ∃ T t u, v = .ref T ∧ h.get? T = some (tupO [.str x.1 t, .str x.2 u])
theorem PairS.kv {M : List Addr} {h h' : Heap} {v : Value} {x : Str × Str} (i : PairS h v x) (k : KV M h h') (hM : ∀ b ∈ M, RL h b) : PairS h' v x := let ⟨T, t1, t2, e, g⟩ := i; ⟨T, t1, t2, e, tup_kv g k hM⟩
theorem PairS.ref {h : Heap} {v : Value} {r : Str × Str} (i : PairS h v r) : ∃ b, v = .ref b := let ⟨T, _, _, e, _⟩ := i; ⟨T, e⟩

noncomputable def lastOf : Option Str → List It → Option Str
  | l, [] => l
  | _, y :: ys => lastOf (some y.2.1) ys
theorem dueGo_snoc (R : List It) (y : It) : ∀ (xs : List It) (l : Option Str), dueGo R l (xs ++ [y]) = dueGo R l xs ++ duePart R (lastOf l xs) y
  | [], l => by simp [dueGo, lastOf]
  | x :: xs, l => by
    simp only [List.cons_append, dueGo, lastOf, dueGo_snoc R y xs, List.append_assoc]
theorem lastOf_snoc (y : It) : ∀ (xs : List It) (l : Option Str), lastOf l (xs ++ [y]) = some y.2.1
  | [], _ => rfl
  | _ :: xs, _ => lastOf_snoc y xs _
theorem dueGo_len (R : List It) : ∀ (xs : List It) (l : Option Str), (dueGo R l xs).length ≤ xs.length
  | [], _ => by simp [dueGo]
  | x :: xs, l => by
    have := dueGo_len R xs (some x.2.1)
    have h1 : (duePart R l x).length ≤ 1 := by unfold duePart; split <;> simp
    simp only [dueGo, List.length_append, List.length_cons]
    omega
open Classical in
/-- the item at a value -/
noncomputable def kap (h : Heap) (v : Value) : It := if e : ∃ x, ItemAt h v x then e.choose else (0, "", 0)
theorem kap_eq {h : Heap} {v : Value} {x : It} (i : ItemAt h v x) : kap h v = x := by
  have e : ∃ x, ItemAt h v x := ⟨x, i⟩
  unfold kap
  rw [dif_pos e]
  exact e.choose_spec.inj i
theorem ListAt.kap {h : Heap} {l : Addr} {xs : List It} (x : ListAt ItemAt h l xs) : ∃ vs n, IsL h l (List.toArray vs) n ∧ vs.map (Mine.kap h) = xs ∧ ∀ v ∈ vs, ItemAt h v (Mine.kap h v) := by
  obtain ⟨vs, n, hl, hlen, hv⟩ := x
  refine ⟨vs, n, hl, ?_, fun v hm => ?_⟩
  · apply List.ext_getElem
    · simp [hlen]
    · intro i h1 h2
      rw [List.getElem_map]
      exact kap_eq (hv i _ _ (by simp at h1; simp [h1]) (by simp [h2]))
  · obtain ⟨i, hi⟩ := List.getElem?_of_mem hm
    have hi' : i < xs.length := by
      rcases Nat.lt_or_ge i vs.length with q | q
      · omega
      · rw [List.getElem?_eq_none q] at hi; cases hi
    have := hv i v xs[i] hi (by simp [hi'])
    rw [kap_eq this]
    exact this
noncomputable def LastAt (v : Value) : Option Str → Prop
  | none => v = .none
  | some x => ∃ t, v = .str x t
theorem chain_pos (ls : List Nat) : 1 ≤ (chain ls).length := by
  cases ls <;> simp [chain]
theorem chain_len : ∀ ls : List Nat, ls ≠ [] → (chain ls).length ≤ ls.length := by
  intro ls
  induction ls with
  | nil => intro h; cases h rfl
  | cons a r ih =>
    intro _
    simp only [chain]
    split
    · rename_i hg
      have hr : r ≠ [] := by rintro rfl; simp [goesOn] at hg
      have := ih hr
      simp; omega
    · simp
theorem rungs_len (rows : List Row) (h : ∀ r ∈ rows, LsOk r.1) : (rungsOf rows).length ≤ 4 * rows.length ∧ rows.length ≤ (rungsOf rows).length := by
  induction rows with
  | nil => simp [rungsOf]
  | cons r rs ih =>
    have := ih (fun x hx => h x (List.mem_cons_of_mem _ hx))
    have ok := h r (List.mem_cons_self ..)
    have k := chain_pos r.1
    have k2 := chain_len r.1 ok.ne
    have := ok.2.1
    simp only [rungsOf, List.flatMap_cons, List.length_append, List.length_map, List.length_cons] at *
    omega

section
variable {w : World} {mg mb : Str → Option Value} {B : Heap} {A : Around} {E : Value → Shared → Prop} {s : Shared}
variable {M : List Addr} {s₀ : Shared} {r h h' : Heap} {L : Addr} {m : Str → Option Value} {Q : Value → Shared → Prop}

theorem neLast {x : Str} {t : Tok} {lv : Value} {o : Option Str} (hl : LastAt lv o) (hQ : Q (.bool (!decide (some x = o))) s) : wpAny (model Pg w) A (compareOp .NotEq (.str x t) lv) Q E s := by
  cases o with
  | none =>
    cases hl
    exact PySem.EqNone.ne_str_none (by simpa using hQ)
  | some z =>
    obtain ⟨u, rfl⟩ := hl
    refine ne_str ?_
    have : (x != z) = !decide (some x = some z) := by
      by_cases e : x = z <;> simp [e]
    rw [this]
    exact hQ
theorem due_ {rw : Addr} {rows : List Row} (C : Cx w mg mb B) (kB : Sub B s.heap) (hA : Aok A 2) (hrows : ListAt RowAt s.heap rw rows) (h3 : 3 ≤ rows.length) (h11 : rows.length ≤ 11)
    (hQ : ∀ D h' ys t', Sub s.heap h' → ys.Perm (rungsOf rows) → (ys.Pairwise fun a b => ilt b a = false) → ListAt PairS h' D (dueGo (rungsOf rows) none ys) → Q (.ref D) (St s h' t')) :
    wpAny (model Pg w) A (call (.ref 149) [.ref rw]) Q E s := by
  refine call_fnC [("rows", .ref rw)] "name" C kB hA.room rfl rfl rfl rfl rfl rfl (locs rfl) (fun _ => rfl) (x0 := "rows") (v0 := .ref rw) rfl fun h₁ t₁ m0 mm F sub₁ hcell => ?_
  obtain ⟨v₀, hcell⟩ := hcell
  refine wpAny_execs_cons ?_
  refine wpAny_Assign_Name ?_ ?hs
  case hs => exact swList _ _ _ _ _ _
  refine List_ ?_
  refine args_nil ?_
  refine newLf F (by simp) ?_ ?hst
  case hst => rfl
  intro rl h2 _ F2 l2 k2 n2
  refine stmC F2 ?_ ?hst
  case hst => rfl
  intro h3 t3 F3 s3
  have hsc : s.heap.get? (s.heap.objs.size + 1) = none := Heap.get?_none_of_le (Nat.le_succ _)
  have hcB : B.get? (s.heap.objs.size + 1) = none := by
    cases e : B.get? (s.heap.objs.size + 1) with
    | none => rfl
    | some o => rw [kB _ _ e] at hsc; cases hsc
  have hrs : s.heap.get? rl = none := (F.fresh n2).1
  have hrB : B.get? rl = none := (F.fresh n2).2.1
  have c3 := isCell_ext (hcell.keeps k2) F2.ns s3.extBut
  have l3 : IsL h3 rl (List.toArray []) 0 := isL_same l2 F2.ns s3
  have kv3 : KV [] s.heap h3 := (KV.of_sub (sub₁.trans k2)).trans (KV.of_same F2.ns s3)
  have hrows3 : ListAt RowAt h3 rw rows := hrows.kv (fun v x p => p.kv kv3 (by simp)) kv3 (by simp)
  have hrwrl : rw ≠ rl := fun q => by obtain ⟨_, _, e, _⟩ := hrows; subst q; exact nomatch (hrs.symm.trans e)
  obtain ⟨vr, nr, lr, hvr, hrw⟩ := id hrows3
  have hokr : ∀ x ∈ rows, LsOk x.1 := by
    intro x hx
    obtain ⟨i, hi⟩ := List.getElem?_of_mem hx
    have hi' : i < vr.length := by
      rcases Nat.lt_or_ge i vr.length with q | q
      · exact q
      · rw [List.getElem?_eq_none (by omega)] at hi; cases hi
    obtain ⟨_, _, _, _, _, _, ok⟩ := hrw i vr[i] x (by simp [hi']) hi
    exact ok
  have F4 : FS B [rl] s h3 s.heap.objs.size h3 _ := F3.rebase (M' := [rl]) (fun b hb => by rw [List.mem_singleton.mp hb]; exact ⟨hrB, by rw [l3]; rfl⟩)
  -- for labels, mode in rows
  refine wpAny_execs_cons ?_
  refine wpAny_For ?_ ?hs
  case hs => intro _; rfl
  refine ldmC F4 mm ?_
  refine forList (hA.deeper _).hd F4 lr.isList (by simpa using hrwrl) (fun i h m => m "rungs" = some (.ref rl) ∧ ListAt ItemAt h rl (rungsOf (rows.take i)) ∧ (∀ (i : Nat) v x, vr[i]? = some v → rows[i]? = some x → RowAt h v x)) ?_ ?_ ?_ ?_
  · rintro i h h' m k ⟨m1, hR, hr⟩
    exact ⟨m1, hR.keepD (fun v x p => p.keepD k) k, fun i v x h1 h2 => (hr i v x h1 h2).keepD k⟩
  · exact ⟨rfl, ⟨[], 0, l3, rfl, fun i v x h1 => by simp at h1⟩, hrw⟩
  · rintro i v h m t hlt hv Fx ⟨m1, hR, hr⟩ G
    have hi : i < rows.length := by omega
    have hx : rows[i]? = some rows[i] := by simp [hi]
    generalize rows[i] = x at hx
    have hRl : (rungsOf (rows.take i)).length ≤ 44 := by
      have := (rungs_len (rows.take i) (fun r hr => hokr r (List.mem_of_mem_take hr))).1
      have e : (rows.take i).length ≤ 11 := by simp; omega
      omega
    obtain ⟨T, la, tm, rfl, hT, hla, ok⟩ := hr i v x hv hx
    refine unp2L (hA.deeper _).hd G hT ?_ ?hst
    case hst => rfl
    intro h1 t1 G1 e1
    have kv1 : KV [] h h1 := KV.of_ns G.ns e1
    -- here = labels
    refine wpAny_execs_cons ?_
    refine wpAny_Assign_Name ?_ ?hs
    case hs => rfl
    refine ldmC G1 rfl ?_
    refine stmC G1 ?_ ?hst
    case hst => rfl
    intro h2 t2 G3 s2
    have kv2 : KV [] h h2 := kv1.trans (KV.of_same G1.ns s2)
    have la3 : LabAt h2 la x.1 := hla.kv0 kv2
    have hR3 : ListAt ItemAt h2 rl (rungsOf (rows.take i)) := hR.kv (fun v x p => p.kv kv2 (by simp)) kv2 (by simp)
    have hr3 : ∀ (i : Nat) v x, vr[i]? = some v → rows[i]? = some x → RowAt h2 v x := fun i v x a b => (hr i v x a b).kv kv2 (by simp)
    refine wpAny_execs_cons ?_
    refine wpAny_Expr ?_
    refine MethodCall_ ?_
    refine ldmC G3 m1 ?_
    obtain ⟨va, na, lv, _, _⟩ := id hR3
    refine meth_append lv ?_
    refine callWith_method1 ?_
    refine args_cons ?_
    refine Tuple_ ?_
    refine args_cons ?_
    refine UnaryOp_ ?_
    refine Call_ ?_
    refine ldbC C G3 rfl boot_len ?_
    refine PyProof.Rows.callWith_builtin1 ?_
    refine args_cons ?_
    refine ldmC G3 rfl ?_
    refine args_nil ?_
    refine lenF G3 la3 ok ?_ ?hst
    case hst => rfl
    intro _ _
    refine negI G3 ?_ ?hst
    case hst => rfl
    intro u1 _
    refine args_cons ?_
    refine MethodCall_ ?_
    refine litS G3 ?_ ?hst
    case hst => rfl
    intro _ _
    refine GM.join ?_
    refine callWith_method1 ?_
    refine args_cons ?_
    refine ldmC G3 rfl ?_
    refine args_nil ?_
    refine joinF G3 la3 ok ?_ ?hst
    case hst => rfl
    intro u2 _
    refine args_cons ?_
    refine ldmC G3 rfl ?_
    refine args_nil ?_
    refine newTf G3 (by simp) ?_ ?hst
    case hst => rfl
    intro T hT1 _ FT uT kT _
    refine args_nil ?_
    refine rungApp (x := itOf x.1 x.2) FT (hR3.kv (fun v x p => p.sub kT) (KV.of_sub (M := []) kT) (by simp)) ⟨T, u1, u2, tm, rfl, uT⟩ (by omega) hrB (.inl (by simp)) ?_ ?hst
    case hst => rfl
    intro h4 t4 G4 hR4 kv4 rl4
    have hrl4 : ∀ b ∈ [rl], RL hT1 b := fun b hb => by rw [List.mem_singleton.mp hb]; exact rl4
    have kvT : KV [] h2 hT1 := KV.of_sub kT
    -- while _law_goes_on(here)
    refine wpAny_execs_cons ?_
    refine wpAny_While ?_
    refine codeAny_whileLoop (fun k s' => ∃ hh mm ls la pre t, s' = St s hh t ∧ k = ls.length ∧ FS B [rl] s h s.heap.objs.size hh mm ∧ mm "rungs" = some (.ref rl) ∧ mm "here" = some (.ref la) ∧ mm "mode" = some (.int x.2 tm) ∧ LabAt hh la ls ∧ LsOk ls ∧
      chain x.1 = pre ++ chain ls ∧ ListAt ItemAt hh rl (rungsOf (rows.take i) ++ (pre ++ [ls]).map (itOf · x.2)) ∧ (∀ (i : Nat) v x, vr[i]? = some v → rows[i]? = some x → RowAt hh v x)) ?_ x.1.length
      ⟨h4, _, x.1, la, [], t4, rfl, rfl, G4, m1, rfl, rfl, (la3.kv0 kvT).kv kv4 hrl4 ok, ok, rfl, hR4, fun i v x a b => ((hr3 i v x a b).kv kvT (by simp)).kv kv4 hrl4⟩
    rintro k s' ⟨hh, mm, ls, la, pre, t, rfl, rfl, K, m1, m2, m3, lab, ok3, hch, hR, hr⟩
    have hcl : pre.length + 1 ≤ 4 := by
      have e := congrArg List.length hch
      have e1 := chain_len x.1 ok.ne
      have e2 := chain_pos ls
      have e3 := ok.2.1
      simp only [List.length_append] at e
      omega
    refine isTrue_plain ?_
    refine Call_ ?_
    refine ldgC C K (g_law_goes_on _) ?_
    refine callF C rfl rfl ?_
    refine args_cons ?_
    refine ldmC K m2 ?_
    refine args_nil ⟨K.base, ?_⟩
    refine goesOn_ (s := St s hh _) C K.base (hA.deeper _) lab ok3 fun h1 t1 sub1 => ?_
    refine wpAny_truthy_bool ?_
    have K1 := K.grow sub1
    have kv1 : KV [] hh h1 := KV.of_sub sub1
    have lab1 : LabAt h1 la ls := lab.sub sub1
    have hR1 := hR.kv (fun v x p => p.sub sub1) kv1 (by simp)
    have hr1 : ∀ (i : Nat) v x, vr[i]? = some v → rows[i]? = some x → RowAt h1 v x := fun i v x a b => (hr i v x a b).kv kv1 (by simp)
    refine split_bool (fun hg => ?_) (fun hg => ?_)
    · obtain ⟨vl, nl, ll, sl⟩ := id lab1
      have hvl : vl.length ≤ 1000 := by
        have := StrsAre.len sl
        have := ok3.2.1
        simp at *
        omega
      -- here = here[1:]
      refine wpAny_execs_cons ?_
      refine wpAny_Assign_Name ?_ ?hs
      case hs => rfl
      refine Subscript_ ?_
      refine ldmC K1 m2 ?_
      refine wpAny_Slice ?_
      refine wpAny_evalPart_some ?_
      refine litI K1 ?_ ?hst
      case hst => rfl
      intro _ _
      refine sliceFromL (k := 1) K1 ll.isList hvl ?_
      intro nb h2 _ K2 l2 k2 _
      refine stmC K2 ?_ ?hst
      case hst => rfl
      intro h3 t3 K3 s3
      have kv3 : KV [] h1 h3 := (KV.of_sub k2).trans (KV.of_same K2.ns s3)
      have la3 : LabAt h3 nb ls.tail := ⟨_, _, isL_same l2 K2.ns s3, by
        cases ls with
        | nil => cases ok3.ne rfl
        | cons c r => cases sl with | cons z u q => exact q⟩
      have hR3 := hR1.kv (fun v x p => p.kv kv3 (by simp)) kv3 (by simp)
      have hr3 : ∀ (i : Nat) v x, vr[i]? = some v → rows[i]? = some x → RowAt h3 v x := fun i v x a b => (hr1 i v x a b).kv kv3 (by simp)
      have ok4 := ok3.tail hg
      refine wpAny_execs_cons ?_
      refine wpAny_Expr ?_
      refine MethodCall_ ?_
      refine ldmC K3 m1 ?_
      obtain ⟨va, na, lv, _, _⟩ := id hR3
      refine meth_append lv ?_
      refine callWith_method1 ?_
      refine args_cons ?_
      refine Tuple_ ?_
      refine args_cons ?_
      refine UnaryOp_ ?_
      refine Call_ ?_
      refine ldbC C K3 rfl boot_len ?_
      refine PyProof.Rows.callWith_builtin1 ?_
      refine args_cons ?_
      refine ldmC K3 rfl ?_
      refine args_nil ?_
      refine lenF K3 la3 ok4 ?_ ?hst
      case hst => rfl
      intro _ _
      refine negI K3 ?_ ?hst
      case hst => rfl
      intro u1 _
      refine args_cons ?_
      refine MethodCall_ ?_
      refine litS K3 ?_ ?hst
      case hst => rfl
      intro _ _
      refine GM.join ?_
      refine callWith_method1 ?_
      refine args_cons ?_
      refine ldmC K3 rfl ?_
      refine args_nil ?_
      refine joinF K3 la3 ok4 ?_ ?hst
      case hst => rfl
      intro u2 _
      refine args_cons ?_
      refine ldmC K3 m3 ?_
      refine args_nil ?_
      refine newTf K3 (by simp) ?_ ?hst
      case hst => rfl
      intro T hT1 _ FT uT kT _
      refine args_nil ?_
      refine rungApp (x := itOf ls.tail x.2) FT (hR3.kv (fun v x p => p.sub kT) (KV.of_sub (M := []) kT) (by simp)) ⟨T, u1, u2, tm, rfl, uT⟩ (by simp only [List.length_append, List.length_map, List.length_cons, List.length_nil]; omega) hrB (.inl (by simp)) ?_ ?hst
      case hst => rfl
      intro h5 t5 K5 hR5 kv5 rl5
      have hrl5 : ∀ b ∈ [rl], RL hT1 b := fun b hb => by rw [List.mem_singleton.mp hb]; exact rl5
      have kvT : KV [] h3 hT1 := KV.of_sub kT
      have hlt : ls.tail.length < ls.length := by
        cases ls with
        | nil => cases ok3.ne rfl
        | cons c r => simp
      refine wpAny_execs_nil ⟨_, hlt, h5, _, ls.tail, nb, pre ++ [ls], t5, rfl, rfl, K5, m1, rfl, m3, (la3.kv0 kvT).kv kv5 hrl5 ok4, ok4, ?_, ?_, fun i v x a b => ((hr3 i v x a b).kv kvT (by simp)).kv kv5 hrl5⟩
      · rw [hch, chain_go hg ok3.ne]; simp
      · rw [List.map_append (l₁ := pre ++ [ls]), ← List.append_assoc]; exact hR5
    · refine wpAny_execs_nil (wpAny_execs_nil ⟨h1, mm, t1, rfl, K1, m1, ?_, hr1⟩)
      have e : rungsOf (rows.take (i + 1)) = rungsOf (rows.take i) ++ (pre ++ [ls]).map (itOf · x.2) := by
        unfold rungsOf
        rw [List.take_add_one, hx, List.flatMap_append]
        congr 1
        simp only [Option.toList_some, List.flatMap_cons, List.flatMap_nil, List.append_nil]
        rw [hch, chain_stop hg]
      rw [e]
      exact hR1
  · rintro h m t G ⟨m1, hR, _⟩
    refine wpAny_execs_nil ?_
    have hvrl : rows.take vr.length = rows := List.take_of_length_le (by omega)
    rw [hvrl] at hR
    have hRl := rungs_len rows hokr
    generalize hRR : rungsOf rows = R at hR hRl
    have F5 : FS B [] s s.heap s.heap.objs.size h m := F3.back G (fun b hb => by rw [List.mem_singleton.mp hb]; exact .inr hrs)
    have hcrl : s.heap.objs.size + 1 ≠ rl := fun q => by
      obtain ⟨o, ho, hd⟩ := c3
      rw [q, l3] at ho; cases ho; cases hd
    have c5 : h.IsCell (s.heap.objs.size + 1) v₀ := by
      obtain ⟨o, ho, hd⟩ := c3
      exact ⟨o, G.keep _ _ (by simpa using hcrl) (Nat.ne_of_gt (Nat.lt_succ_self _)) ho, hd⟩
    -- due = []
    refine wpAny_execs_cons ?_
    refine wpAny_Assign_Name ?_ ?hs
    case hs => exact swList _ _ _ _ _ _
    refine List_ ?_
    refine args_nil ?_
    refine newLf F5 (by simp) ?_ ?hst
    case hst => rfl
    intro dl h6 _ F6 l6 k6 n6
    refine stmC F6 ?_ ?hst
    case hst => rfl
    intro h7 t7 F7 s7
    -- last = None
    refine wpAny_execs_cons ?_
    refine wpAny_Assign_Name ?_ ?hs
    case hs => rfl
    refine wpAny_Constant_none ?_
    refine stmC F7 ?_ ?hst
    case hst => rfl
    intro h8 t8 F8 s8
    have kv8 : KV [] h h8 := (KV.of_sub k6).trans ((KV.of_same F6.ns s7).trans (KV.of_same F7.ns s8))
    have hR8 := hR.kv (fun v x p => p.kv kv8 (by simp)) kv8 (by simp)
    have c8 := isCell_ext (isCell_ext (c5.keeps k6) F6.ns s7.extBut) F7.ns s8.extBut
    have l8 : IsL h8 dl (List.toArray []) 0 := isL_same (isL_same l6 F6.ns s7) F7.ns s8
    have hds : s.heap.get? dl = none := (F5.fresh n6).1
    have hdB : B.get? dl = none := (F5.fresh n6).2.1
    obtain ⟨va, na, lva, hmap, hita⟩ := hR8.kap
    have hval : va.length = R.length := by rw [← hmap]; simp
    have hrld : rl ≠ dl := fun q => by
      obtain ⟨_, _, e, _⟩ := id hR
      subst q
      exact nomatch (n6.symm.trans e)
    -- sorted(rungs)
    refine wpAny_execs_cons ?_
    refine wpAny_For ?_ ?hs
    case hs => intro _; rfl
    refine Call_ ?_
    refine ldbC C F8 (g_no_sorted _) boot_sorted ?_
    refine PyProof.Rows.callWith_builtin1 ?_
    refine args_cons ?_
    refine ldmC F8 m1 ?_
    refine args_nil ?_
    refine sorted_ F8 lva hita (by omega) (by omega) ?_ ?hst
    case hst => rfl
    intro D h9 ws n9 t9 F9 l9 pm srt e9 nD
    have kv9 : KV [] h8 h9 := KV.of_ns F8.ns e9
    have hR9 := hR8.kv (fun v x p => p.kv kv9 (by simp)) kv9 (by simp)
    have c9 := isCell_ext c8 F8.ns e9
    have l9d := isL_kv0 l8 kv9
    have hws : ∀ v ∈ ws, ItemAt h9 v (kap h8 v) := fun v hv => (hita v (pm.mem_iff.mp hv)).kv kv9 (by simp)
    generalize hcc : s.heap.objs.size + 1 = c at *
    have hDdl : D ≠ dl := fun q => by subst q; exact nomatch (nD.symm.trans l8)
    have hDc : D ≠ c := fun q => by obtain ⟨o, ho, _⟩ := c8; rw [← q] at ho; exact nomatch (nD.symm.trans ho)
    have hdlc : dl ≠ c := fun q => by obtain ⟨o, ho, hd⟩ := c8; rw [← q] at ho; have e := l8.symm.trans ho; cases e; cases hd
    generalize hys : ws.map (kap h8) = ys
    have hysl : ys.length = ws.length := by rw [← hys]; simp
    have hwsl : ws.length = va.length := pm.length_eq
    have G9 : FS B [dl, c] s h9 s.heap.objs.size h9 _ := F9.rebase (M' := [dl, c]) (fun b hb => by
      rcases List.mem_cons.mp hb with rfl | hb
      · exact ⟨hdB, by rw [l9d]; rfl⟩
      · rw [List.mem_singleton.mp hb]; obtain ⟨o, ho, _⟩ := c9; exact ⟨hcB, by rw [ho]; rfl⟩)
    refine forList (hA.deeper _).hd G9 l9.isList (by simp [hDdl, hDc]) (fun i h m => m "due" = some (.ref dl) ∧ m "rungs" = some (.ref rl) ∧ (∃ v, m "last" = some v ∧ LastAt v (lastOf none (ys.take i))) ∧ ListAt PairS h dl (dueGo R none (ys.take i)) ∧ ListAt ItemAt h rl R ∧ (∃ v, h.IsCell c v) ∧ ∀ v ∈ ws, ItemAt h v (kap h8 v)) ?_ ?_ ?_ ?_
    · rintro i h h' m k ⟨e1, e2, e3, e4, e5, ⟨v, e6⟩, e7⟩
      have kv : KV [] h h' := KV.of_D k
      exact ⟨e1, e2, e3, e4.keepD (fun v x p => p.kv kv (by simp)) k, e5.keepD (fun v x p => p.keepD k) k, ⟨v, isCell_keepD e6 k⟩, fun v hv => (e7 v hv).keepD k⟩
    · exact ⟨rfl, m1, ⟨_, rfl, rfl⟩, ⟨[], 0, l9d, rfl, fun i v x h1 => by simp at h1⟩, hR9, ⟨_, c9⟩, hws⟩
    · rintro i v h m t hlt hv Fx ⟨e1, e2, ⟨lv, e3, e3'⟩, e4, e5, ⟨v1, e6⟩, e7⟩ G
      have hvm : v ∈ ws := List.mem_of_getElem? hv
      have hyi : ys[i]? = some (kap h8 v) := by rw [← hys, List.getElem?_map, hv]; rfl
      have hitv := e7 v hvm
      generalize kap h8 v = y at hyi hitv
      obtain ⟨T, a1, a2, a3, rfl, gT⟩ := hitv
      have htk : ys.take (i + 1) = ys.take i ++ [y] := by rw [List.take_add_one, hyi]; rfl
      refine unp3C (c := c) (hA.deeper _).hd G gT ?hc e6 hcB (.inl (by simp)) ?_ ?hst
      case hst => rfl
      case hc => rw [← hcc]; rfl
      intro h10 t10 G10 c10 kv10
      have d10 := e4.kv (fun v x p => p.kv kv10 (by simp)) kv10 (by simp)
      have r10 := e5.kv (fun v x p => p.kv kv10 (by simp)) kv10 (by simp)
      have w10 : ∀ v ∈ ws, ItemAt h10 v (kap h8 v) := fun v hv => (e7 v hv).kv kv10 (by simp)
      obtain ⟨m10, q1, q2, q3, G10⟩ : ∃ m10 : Str → Option Value, m10 "due" = some (.ref dl) ∧ m10 "rungs" = some (.ref rl) ∧ m10 "last" = some lv ∧ FS B [dl, c] s h s.heap.objs.size h10 m10 := by
        refine ⟨_, ?_, ?_, ?_, G10⟩
        · exact e1
        · exact e2
        · exact e3
      refine wpAny_execs_cons ?_
      refine wpAny_mono (Q := fun f s' => f = Flow.next ∧ ∃ h11 t11, s' = St s h11 t11 ∧ FS B [dl, c] s h s.heap.objs.size h11 m10 ∧ ListAt PairS h11 dl (dueGo R none (ys.take (i + 1))) ∧ ListAt ItemAt h11 rl R ∧ h11.IsCell c (some (.str y.2.1 a2)) ∧ ∀ v ∈ ws, ItemAt h11 v (kap h8 v)) ?_ ?_ (fun _ _ e => e)
      · refine wpAny_If ?_
        refine wpAny_isTrue_Compare1 ?_
        refine ldcC (c := c) ?hc c10 ?_
        case hc => rw [← hcc]; rfl
        refine ldmC G10 q3 ?_
        refine neLast e3' ?_
        refine wpAny_truthy_bool ?_
        refine split_bool (fun hne => ?_) (fun hne => ?_)
        · have hpart : duePart R (lastOf none (ys.take i)) y = [(y.2.1, signsP (R.filterMap (sameMode y.2.1)))] := by
            unfold duePart
            rw [if_neg (by simpa using hne)]
          obtain ⟨vd, nd, ld, hdl, hdv⟩ := id d10
          obtain ⟨vR, nR, lR, hRlen, hRv⟩ := id r10
          refine wpAny_execs_cons ?_
          refine wpAny_Expr ?_
          refine MethodCall_ ?_
          refine ldmC G10 q1 ?_
          refine meth_append ld ?_
          refine callWith_method1 ?_
          refine args_cons ?_
          refine Tuple_ ?_
          refine args_cons ?_
          refine ldcC (c := c) ?hc c10 ?_
          case hc => rw [← hcc]; rfl
          refine args_cons ?_
          refine Call_ ?_
          refine ldgC C G10 (g_law_signs _) ?_
          refine callF C rfl rfl ?_
          refine args_cons ?_
          refine compL (cl := [("name", c)]) (ax := rl) (h := h10) (vs := vR) (hA.deeper _).hd G10 lR.isList (by omega) ?hiter ?hclos (fun i => (R[i]?).bind (sameMode y.2.1)) ?turn ?_ ?hs
          case hs => intro _; rfl
          case hiter => exact ldmC G10 q2 ⟨rfl, _, rfl⟩
          case hclos => rw [← hcc]; rfl
          case turn =>
            intro Cc j v h12 m12 t12 E' hv12 hn12 sub12 hC12
            have hj : j < R.length := by
              rcases Nat.lt_or_ge j vR.length with q | q
              · omega
              · rw [List.getElem?_eq_none q] at hv12; cases hv12
            have hxj : R[j]? = some R[j] := by simp [hj]
            generalize R[j] = x at hxj
            obtain ⟨T', b1, b2, b3, rfl, gT'⟩ := hRv j v x hv12 hxj
            refine unp3E (s₀ := s) (hA.deeper _).hd hn12 (sub12 _ _ gT') ?_ ?hsx
            case hsx => rfl
            intro h13 t13 n13 e13
            have sub13 : Sub h10 h13 := fun b o e => e13 b o (fun q => by rw [q, hC12] at e; cases e) (sub12 b o e)
            refine wpAny_isTrue_Compare1 ?_
            refine ldE n13 rfl ?_
            refine ldEc (c := c) rfl (c10.keeps sub13) ?_
            refine eq_str ?_
            refine wpAny_truthy_bool ?_
            refine ⟨?_, ⟨h13, _, _, rfl, n13, e13⟩, fun z hz => ?_⟩
            · rw [hxj, Option.bind_some]
              unfold sameMode
              cases x.2.1 == y.2.1 <;> rfl
            · rw [hxj, Option.bind_some] at hz
              have hzx : z = x.2.2 := by
                unfold sameMode at hz
                split at hz
                · exact (Option.some.inj hz).symm
                · cases hz
              rw [hzx]
              refine ldE n13 rfl ?_
              exact ⟨⟨_, rfl⟩, h13, _, _, rfl, n13, e13⟩
          intro Dm h12 zs nz t12 G12 lz hz sub12 nDm
          rw [hRlen, range_filterMap] at hz
          have hzl : zs.length ≤ 1000 := by
            rw [IntsAre.len hz]
            have := List.length_filterMap_le (sameMode y.2.1) R
            omega
          refine args_nil ⟨G12.base, ?_⟩
          refine signs1 (s := St s h12 _) C G12.base (hA.deeper _) lz hz hzl fun h13 u13 t13 sub13 => ?_
          have G13 := G12.grow sub13
          refine args_nil ?_
          refine newTf G13 (by simp) ?_ ?hsv
          case hsv => rfl
          intro T2 h14 t14 G14 hT2 k14 _
          refine args_nil ?_
          have sub14 : Sub h10 h14 := sub12.trans (sub13.trans k14)
          have kv14 : KV [] h10 h14 := KV.of_sub sub14
          have hdlen : vd.length ≤ 1000 := by
            rw [hdl]
            have := dueGo_len R (ys.take i) none
            have e : (ys.take i).length ≤ ys.length := by simp; omega
            omega
          refine appendLf G14 (sub14 _ _ ld) hdB (.inl (by simp)) hdlen ?_ ?hsu
          case hsu => rfl
          intro h15 n15 t15 G15 l15 s15
          have hM : ∀ b ∈ [dl], RL h14 b := fun b hb => by
            rw [List.mem_singleton.mp hb]
            obtain ⟨xs, k, g1, g2⟩ := d10.rl (fun v x p => p.ref)
            exact ⟨xs, k, sub14 _ _ g1, g2⟩
          have kv15 : KV [dl] h14 h15 := KV.of_M (KeepM.of_same s15)
          refine wpAny_execs_nil ⟨rfl, h15, t15, rfl, G15, ?_, ?_, ?_, ?_⟩
          · rw [htk, dueGo_snoc, hpart]
            exact ListAt.snoc hdl hdv (fun v x p => (p.kv kv14 (by simp)).kv kv15 hM) l15 (PairS.kv ⟨T2, a2, u13, rfl, hT2⟩ kv15 hM)
          · exact (r10.kv (fun v x p => p.sub sub14) kv14 (by simp)).kv (fun v x p => p.kv kv15 hM) kv15 (by simpa using hrld)
          · exact isCell_app (c10.keeps sub14) (sub14 _ _ ld) s15
          · exact fun v hv => ((w10 v hv).sub sub14).kv kv15 hM
        · have hpart : duePart R (lastOf none (ys.take i)) y = [] := by
            unfold duePart
            rw [if_pos (by simpa using hne)]
          refine wpAny_execs_nil ⟨rfl, h10, _, rfl, G10, ?_, r10, c10, w10⟩
          rw [htk, dueGo_snoc, hpart, List.append_nil]
          exact d10
      · rintro f s' ⟨rfl, h11, t11, rfl, G11, d11, r11, c11, w11⟩
        refine wpAny_execs_cons ?_
        refine wpAny_Assign_Name ?_ ?hs
        case hs => rfl
        refine ldcC (c := c) ?hc c11 ?_
        case hc => rw [← hcc]; rfl
        refine stmC G11 ?_ ?hsw
        case hsw => rfl
        intro h12 t12 G12 s12
        have kv12 : KV [] h11 h12 := KV.of_same G11.ns s12
        refine wpAny_execs_nil ⟨h12, _, t12, rfl, G12, q1, q2, ⟨_, rfl, ?_⟩, d11.kv (fun v x p => p.kv kv12 (by simp)) kv12 (by simp), r11.kv (fun v x p => p.kv kv12 (by simp)) kv12 (by simp), ⟨_, isCell_ext c11 G11.ns s12.extBut⟩, fun v hv => (w11 v hv).kv kv12 (by simp)⟩
        rw [htk, lastOf_snoc]
        exact ⟨a2, rfl⟩
    · rintro h m t F ⟨e1, e2, e3, e4, e5, e6, e7⟩
      refine wpAny_execs_nil ?_
      refine wpAny_execs_cons ?_
      refine wpAny_Return_some ?_
      refine ldmC F e1 ?_
      have FF := F9.back F (fun b hb => by
        rcases List.mem_cons.mp hb with rfl | hb
        · exact .inr hds
        · rw [List.mem_singleton.mp hb]; exact .inr hsc)
      rw [← hysl, List.take_length] at e4
      rw [hRR] at hQ
      refine hQ dl h ys t (fun b o e => FF.kp b o (by simp) e) ?_ ?_ e4
      · rw [← hys, ← hmap]; exact pm.map _
      · rw [← hys, List.pairwise_map]; exact srt
end
end Mine
end
section
open PySem PySem.W PySem.Calls PyProof.Rows
set_option maxRecDepth 100000
set_option maxHeartbeats 4000000
set_option linter.unusedVariables false
namespace Mine
noncomputable def HeapAt (h : Heap) (l : Addr) (H : List It) : Prop := ∃ z n κ, IsL h l (List.toArray z) n ∧ (∀ u ∈ z, ItemAt h u (κ u)) ∧ IsHp κ z ∧ (z.map κ).Perm H
theorem IsHp.congr {κ κ' : Value → It} {z : List Value} (e : ∀ u ∈ z, κ u = κ' u) (hp : IsHp κ z) : IsHp κ' z := by
  intro c c0 cl
  have := hp c c0 cl
  show ilt (κ' (z.getD c .none)) (κ' (z.getD ((c - 1) / 2) .none)) = false
  rw [← e _ (mem_getD cl), ← e _ (mem_getD (by omega))]
  exact this
theorem HeapAt.kv {M : List Addr} {h h' : Heap} {l : Addr} {H : List It} (x : HeapAt h l H) (k : KV M h h') (hM : ∀ b ∈ M, RL h b) (hl : l ∉ M) : HeapAt h' l H :=
  let ⟨z, n, κ, h1, h2, h3, h4⟩ := x; ⟨z, n, κ, isL_kv h1 k hl, fun u hu => (h2 u hu).kv k hM, h3, h4⟩
theorem HeapAt.rl {h : Heap} {l : Addr} {H : List It} (x : HeapAt h l H) : RL h l := let ⟨z, n, κ, h1, h2, h3, h4⟩ := x; ⟨z, n, h1, fun v hv => (h2 v hv).ref⟩
theorem HeapAt.kap {h : Heap} {l : Addr} {H : List It} (x : HeapAt h l H) : ∃ z n, IsL h l (List.toArray z) n ∧ (∀ u ∈ z, ItemAt h u (Mine.kap h u)) ∧ IsHp (Mine.kap h) z ∧ (z.map (Mine.kap h)).Perm H := by
  obtain ⟨z, n, κ, h1, h2, h3, h4⟩ := x
  have e : ∀ u ∈ z, κ u = Mine.kap h u := fun u hu => (kap_eq (h2 u hu)).symm
  refine ⟨z, n, h1, fun u hu => ?_, h3.congr e, ?_⟩
  · rw [← e u hu]; exact h2 u hu
  · rw [← List.map_congr_left e]; exact h4
/-- the least of all lies first -/
theorem HeapAt.top {h : Heap} {l : Addr} {H : List It} (x : HeapAt h l H) (hne : H ≠ []) : ∃ z n y v, IsL h l (List.toArray z) n ∧ z[0]? = some v ∧ ItemAt h v y ∧ y ∈ H ∧ (∀ u ∈ H, ilt u y = false) ∧ z.length = H.length := by
  obtain ⟨z, n, h1, h2, h3, h4⟩ := x.kap
  have hlen : z.length = H.length := by simpa using h4.length_eq
  have hz : 0 < z.length := by rw [hlen]; exact List.length_pos_iff.mpr hne
  refine ⟨z, n, Mine.kap h (z.getD 0 .none), z.getD 0 .none, h1, getD_of hz, h2 _ (mem_getD hz), h4.mem_iff.mp (List.mem_map_of_mem (mem_getD hz)), fun u hu => ?_, hlen⟩
  obtain ⟨v, hv, rfl⟩ := List.mem_map.mp (h4.mem_iff.mpr hu)
  exact h3.min hv

section
variable {w : World} {mg mb : Str → Option Value} {B : Heap} {A : Around} {E : Value → Shared → Prop} {s : Shared} {Q : Value → Shared → Prop}
theorem push_ {l : Addr} {H : List It} {v : Value} {x : It} (C : Cx w mg mb B) (kB : Sub B s.heap) (hA : Aok A 2) (hH : HeapAt s.heap l H) (hB : B.get? l = none) (hx : ItemAt s.heap v x) (hz : H.length ≤ 900)
    (hQ : ∀ h' t', HeapAt h' l (H ++ [x]) → KeepM [l] s.heap h' → Q .none (St s h' t')) : wpAny (model Pg w) A (call (.ref 57) [.ref l, v]) Q E s := by
  obtain ⟨z, n, h1, h2, h3, h4⟩ := hH.kap
  have hlen : z.length = H.length := by simpa using h4.length_eq
  have hit : ∀ u ∈ z ++ [v], ItemAt s.heap u (kap s.heap u) := fun u hu => by
    rcases List.mem_append.mp hu with hu | hu
    · exact h2 u hu
    · rw [List.mem_singleton.mp hu, kap_eq hx]; exact hx
  refine heappush_ C kB hA h1 hB hit h3 (by omega) fun h' t' z' n' hl' pm hp k => hQ h' t' ⟨z', n', kap s.heap, hl', fun u hu => (hit u (pm.mem_iff.mp hu)).keepL k h1, hp, ?_⟩ k
  refine (pm.map _).trans ?_
  rw [List.map_append, List.map_cons, List.map_nil, kap_eq hx]
  exact h4.append_right _
theorem pop_ {l : Addr} {H : List It} (C : Cx w mg mb B) (kB : Sub B s.heap) (hA : Aok A 3) (hH : HeapAt s.heap l H) (hB : B.get? l = none) (hne : H ≠ []) (hz : H.length ≤ 900)
    (hQ : ∀ v x H' h' t', ItemAt h' v x → H.Perm (x :: H') → (∀ y ∈ H', ilt y x = false) → HeapAt h' l H' → KeepM [l] s.heap h' → Q v (St s h' t')) : wpAny (model Pg w) A (call (.ref 64) [.ref l]) Q E s := by
  obtain ⟨z, n, h1, h2, h3, h4⟩ := hH.kap
  have hlen : z.length = H.length := by simpa using h4.length_eq
  have hz0 : 0 < z.length := by rw [hlen]; exact List.length_pos_iff.mpr hne
  have hzne : z ≠ [] := List.length_pos_iff.mp hz0
  refine heappop_ C kB hA h1 hB h2 h3 hzne (by omega) fun h' t' z' n' hl' pm hp k => ?_
  have hit : ∀ u ∈ z', ItemAt h' u (kap s.heap u) := fun u hu => (h2 u (pm.mem_iff.mpr (List.mem_cons_of_mem _ hu))).keepL k h1
  refine hQ _ (kap s.heap (z.getD 0 .none)) (z'.map (kap s.heap)) h' t' ((h2 _ (mem_getD hz0)).keepL k h1) (h4.symm.trans (by simpa using pm.map (kap s.heap))) (fun y hy => ?_) ⟨z', n', kap s.heap, hl', hit, hp, List.Perm.refl _⟩ k
  obtain ⟨v, hv, rfl⟩ := List.mem_map.mp hy
  exact h3.min (pm.mem_iff.mpr (List.mem_cons_of_mem _ hv))
end
end Mine
end
section
open PySem PySem.W PySem.Calls PyProof.Rows
set_option maxRecDepth 100000
set_option maxHeartbeats 4000000
set_option linter.unusedVariables false
namespace Mine
noncomputable def Good3 (x : It) : Prop := ∃ ls m, x = itOf ls m ∧ LsOk ls ∧ 0 ≤ m ∧ m < 65536
noncomputable def mu (H : List It) : Nat := (H.map fun x => (-x.1).toNat).sum
noncomputable def andAll : List Int → Int
  | [] => 0
  | m :: ms => ms.foldl Builtin.bitAnd m
theorem andAll_snoc (ms : List Int) (m : Int) (h : ms ≠ []) : andAll (ms ++ [m]) = Builtin.bitAnd (andAll ms) m := by
  cases ms with
  | nil => cases h rfl
  | cons a r => simp [andAll]
/-- the items of one host, taken off -/
noncomputable def Grp (x : It) (H H' : List It) (J : Int) : Prop := ∃ ms : List Int, ms ≠ [] ∧ H.Perm (ms.map (fun m => (x.1, x.2.1, m)) ++ H') ∧ J = andAll ms
structure LoopLaw (rows : List Row) (Inv : List It → List (Str × Str) → Prop) : Prop where
  good : ∀ {H told}, Inv H told → ∀ x ∈ H, Good3 x
  len : ∀ {H told}, Inv H told → H.length ≤ 800 ∧ told.length ≤ 800
  init : Inv (rows.map fun r => itOf r.1 r.2) []
  step : ∀ {H told ls m H' J}, Inv H told → LsOk ls → itOf ls m ∈ H → (∀ y ∈ H, ilt y (itOf ls m) = false) → Grp (itOf ls m) H H' J → (H' = [] ∨ ∃ y ∈ H', (∀ u ∈ H', ilt u y = false) ∧ y.2.1 ≠ host ls) →
    Inv (if goesOn ls then H' ++ [itOf ls.tail J] else H') (told ++ [(host ls, fmodeP J)]) ∧ mu (if goesOn ls then H' ++ [itOf ls.tail J] else H') < mu H
  fin : ∀ {told}, Inv [] told → ∀ ys, ys.Perm (rungsOf rows) → (ys.Pairwise fun a b => ilt b a = false) → dueGo (rungsOf rows) none ys = told

section
variable {w : World} {mg mb : Str → Option Value} {B : Heap} {A : Around} {E : Value → Shared → Prop} {s : Shared}
variable {M : List Addr} {s₀ : Shared} {r h h' : Heap} {L : Addr} {m : Str → Option Value} {Q : Value → Shared → Prop}

/-- t[j] -/
theorem itemTup {value slice : PySem.Expr} {T : Addr} {l : List Value} {k : Int} {u : Tok} {j : Nat} {x : Value} (hT : s.heap.get? T = some (tupO l)) (hk : k = j) (hx : l[j]? = some x) (hl : l.length ≤ 1000) (h : Q x s)
    (hs : subscripted slice false (.ref T) (.int k u) = operate [.ref T, .int k u] (getItem (.ref T) (.int k u)) := by with_unfolding_all rfl) :
    wpAny (model Pg w) A (subscriptTail value slice (.ref T) (.int k u)) Q E s := by
  have hj : j < l.length := by
    rcases Nat.lt_or_ge j l.length with q | q
    · exact q
    · rw [List.getElem?_eq_none q] at hx; cases hx
  have ht : IsTup s.heap T l.toArray := ⟨_, hT, rfl, 0, rfl⟩
  refine subscriptTail_builtinR ht.typeIs slot_tuple_getitem.lookup (getItem_tuple (j := j) (Q := fun r s' => r = x ∧ Q r s') ht (by omega) (by omega) ?_ (by simpa using hx) ⟨rfl, h⟩) hs
  subst hk
  simp only [seqIndex?, List.size_toArray]
  have e : (if (j : Int) < 0 then (j : Int) + (l.length : Int) else (j : Int)) = j := if_neg (by omega)
  simp [e, hj]
theorem eqPairs {a b : Addr} {xs : List (Str × Str)} (ha : ListAt PairS s.heap a xs) (hb : ListAt PairS s.heap b xs) (hu : A.units < cLine) (hu1 : A.in1.units < cLine) (hQ : Q (.bool true) s) : wpAny (model Pg w) A (compareOp .Eq (.ref a) (.ref b)) Q E s := by
  obtain ⟨va, na, la, hla, hva⟩ := ha
  obtain ⟨vb, nb, lb, hlb, hvb⟩ := hb
  refine PySem.SeqAt.eq_listAt (e := fun _ => true) la.isList lb.isList (by simp [hla, hlb]) hu (fun j h1 h2 => ?_) (by rw [show ((List.range _).all fun _ => true) = true from List.all_eq_true.mpr (fun _ _ => rfl)]; exact hQ)
  simp at h1 h2
  have hx : xs[j]? = some xs[j] := by simp [← hla, h1]
  obtain ⟨T, t1, t2, e, g⟩ := hva j va[j] _ (by simp [h1]) hx
  obtain ⟨T', u1, u2, e', g'⟩ := hvb j vb[j] _ (by simp [h2]) hx
  simp only [List.getElem_toArray]
  rw [e, e']
  by_cases q : T = T'
  · subst q; exact PySem.SeqAt.EqAt.same _
  · refine PySem.SeqAt.EqAt.of_refs q (PySem.SeqAt.RcAt.tuples (e := fun _ => true) ⟨_, g, rfl, 0, rfl⟩ ⟨_, g', rfl, 0, rfl⟩ hu1 (fun k h1 h2 => ?_))
    have hk : k = 0 ∨ k = 1 := by simp at h1; omega
    rcases hk with rfl | rfl
    · have := eqGives_str xs[j].1 xs[j].1 t1 u1
      simp at this
      exact this.at _ _
    · have := eqGives_str xs[j].2 xs[j].2 t2 u2
      simp at this
      exact this.at _ _
theorem units_in1 {A : Around} {n : Nat} (h : Aok A n) (hn : 1 ≤ n) : A.in1.units < cLine := by
  have := h.un
  show A.units + 1 < 9900
  omega
theorem law_ {l : Addr} {vs : List Value} {ns : List Int} {Inv : List It → List (Str × Str) → Prop} (C : Cx w mg mb B) (kB : Sub B s.heap) (hA : Aok A 5) (hl₀ : s.heap.IsList l vs.toArray) (hi : IntsAre vs ns) (hlen : vs.length ≤ 63) (LL : LoopLaw (rowsP ns) Inv)
    (hQ : ∀ h' t', Sub s.heap h' → Q (.bool true) (St s h' t')) :
    wpAny (model Pg w) A (call (.ref 156) [.ref l]) Q E s := by
  refine call_fn [("script", .ref l)] [] C kB hA.room rfl rfl rfl rfl rfl rfl (locs rfl) (by simp) fun h₁ t₁ F sub₁ => ?_
  have hA' := hA.deeper (envOf (Str.ofString "law") default s.heap.objs.size 156 (.ref 155))
  have hl1 : h₁.IsList l vs.toArray := hl₀.at fun o e => sub₁ _ o e
  -- rows = _law_rows(script)
  refine wpAny_execs_cons ?_
  refine wpAny_Assign_Name ?_ ?hs
  case hs => rfl
  refine Call_ ?_
  refine ldg C F (g_law_rows _) ?_
  refine callF C rfl rfl ?_
  refine args_cons ?_
  refine ldm F rfl ?_
  refine args_nil ⟨F.base, ?_⟩
  refine rows_ (s := St s h₁ _) C F.base ((hA.deeper _).less (by omega)) hl1 hi hlen fun rw h2 t2 sub2 hrows hnr => ?_
  have F2 := F.grow sub2
  refine stm F2 ?_ ?hst
  case hst => rfl
  intro h3 t3 F3 s3
  have kv3 : KV [] h2 h3 := KV.of_same F2.ns s3
  have hrows3 := hrows.kv (fun v x p => p.kv kv3 (by simp)) kv3 (by simp)
  have hrlen : (rowsP ns).length ≤ 11 ∧ 3 ≤ (rowsP ns).length := by simp [rowsP, rows3]; omega
  generalize hrr : rowsP ns = rows at *
  -- heap = []
  refine wpAny_execs_cons ?_
  refine wpAny_Assign_Name ?_ ?hs
  case hs => exact swList _ _ _ _ _ _
  refine List_ ?_
  refine args_nil ?_
  refine newLf F3 (by simp) ?_ ?hst
  case hst => rfl
  intro hp h4 _ F4 l4 k4 n4
  refine stm F4 ?_ ?hst
  case hst => rfl
  intro h5 t5 F5 s5
  have kv5 : KV [] h3 h5 := (KV.of_sub k4).trans (KV.of_same F4.ns s5)
  have hrows5 := hrows3.kv (fun v x p => p.kv kv5 (by simp)) kv5 (by simp)
  have l5 : IsL h5 hp (List.toArray []) 0 := isL_same l4 F4.ns s5
  have hps : s.heap.get? hp = none := (F3.fresh n4).1
  have hpB : B.get? hp = none := (F3.fresh n4).2.1
  have hrp : rw ≠ hp := fun q => by obtain ⟨_, _, e, _⟩ := id hrows3; subst q; exact nomatch (n4.symm.trans e)
  obtain ⟨vr, nr, lr, hvr, hrw⟩ := id hrows5
  have G5 : FS B [hp] s h5 s.heap.objs.size h5 _ := F5.rebase (M' := [hp]) (fun b hb => by rw [List.mem_singleton.mp hb]; exact ⟨hpB, by rw [l5]; rfl⟩)
  -- for labels, mode in rows
  refine wpAny_execs_cons ?_
  refine wpAny_For ?_ ?hs
  case hs => intro _; rfl
  refine ldm G5 rfl ?_
  refine forList (hA.deeper _).hd G5 lr.isList (by simpa using hrp) (fun i h m => m "heap" = some (.ref hp) ∧ m "rows" = some (.ref rw) ∧ HeapAt h hp ((rows.take i).map fun r => itOf r.1 r.2) ∧ ListAt RowAt h rw rows ∧ (∀ (i : Nat) v x, vr[i]? = some v → rows[i]? = some x → RowAt h v x)) ?_ ?_ ?_ ?_
  · rintro i h h' m k ⟨m1, m2, hH, hr, hr'⟩
    have kv : KV [] h h' := KV.of_D k
    exact ⟨m1, m2, hH.kv kv (by simp) (by simp), hr.keepD (fun v x p => p.keepD k) k, fun i v x a b => (hr' i v x a b).keepD k⟩
  · exact ⟨rfl, rfl, ⟨[], 0, kap h5, l5, by simp, (fun c c0 cl => by simp at cl), by simp⟩, hrows5, hrw⟩
  · rintro i v h m t hlt hv Fx ⟨m1, m2, hH, hr, hr'⟩ G
    have hi' : i < rows.length := by omega
    have hx : rows[i]? = some rows[i] := by simp [hi']
    generalize rows[i] = x at hx
    obtain ⟨T, la, tm, rfl, hT, hla, ok⟩ := hr' i v x hv hx
    refine unp2 (hA.deeper _).hd G hT ?_ ?hst
    case hst => rfl
    intro h1 t1 G1 e1
    have kv1 : KV [] h h1 := KV.of_ns G.ns e1
    have la1 := hla.kv0 kv1
    refine wpAny_execs_cons ?_
    refine wpAny_Expr ?_
    refine Call_ ?_
    refine ldg C G1 (g_heappush _) ?_
    refine callF C rfl rfl ?_
    refine args_cons ?_
    refine ldm G1 m1 ?_
    refine args_cons ?_
    refine Tuple_ ?_
    refine args_cons ?_
    refine UnaryOp_ ?_
    refine Call_ ?_
    refine ldb C G1 rfl boot_len ?_
    refine PyProof.Rows.callWith_builtin1 ?_
    refine args_cons ?_
    refine ldm G1 rfl ?_
    refine args_nil ?_
    refine lenF G1 la1 ok ?_ ?hst
    case hst => rfl
    intro _ _
    refine negI G1 ?_ ?hst
    case hst => rfl
    intro u1 _
    refine args_cons ?_
    refine MethodCall_ ?_
    refine litS G1 ?_ ?hst
    case hst => rfl
    intro _ _
    refine GM.join ?_
    refine callWith_method1 ?_
    refine args_cons ?_
    refine ldm G1 rfl ?_
    refine args_nil ?_
    refine joinF G1 la1 ok ?_ ?hst
    case hst => rfl
    intro u2 _
    refine args_cons ?_
    refine ldm G1 rfl ?_
    refine args_nil ?_
    refine newTf G1 (by simp) ?_ ?hst
    case hst => rfl
    intro T2 h6 _ G6 hT2 k6 _
    refine args_nil ⟨G6.base, ?_⟩
    have kv6 : KV [] h h6 := kv1.trans (KV.of_sub k6)
    have hH6 := hH.kv kv6 (by simp) (by simp)
    refine push_ (s := St s h6 _) (x := itOf x.1 x.2) C G6.base ((hA.deeper _).less (by omega)) hH6 hpB ⟨T2, u1, u2, tm, rfl, hT2⟩ (by simp; omega) fun h7 t7 hH7 k7 => ?_
    have hM7 : ∀ b ∈ [hp], RL h6 b := fun b hb => by rw [List.mem_singleton.mp hb]; exact hH6.rl
    have kv7 : KV [hp] h6 h7 := KV.of_M k7
    have hL : s.heap.objs.size ∉ [hp] := by
      obtain ⟨_, _, _, g, _⟩ := id hH6
      simpa using ns_ne_list G6.ns g.isList
    have G7 : FS B [hp] s h s.heap.objs.size h7 _ := G6.step k7 hL (by simpa using hpB) (fun b hb => .inl hb) (fun b hb _ => by
      rw [List.mem_singleton.mp hb]
      obtain ⟨_, _, _, g, _⟩ := hH7
      rw [g]; rfl)
    refine wpAny_execs_nil ⟨h7, _, t7, rfl, G7, m1, m2, ?_, ?_, fun i v x a b => ((hr' i v x a b).kv kv6 (by simp)).kv kv7 hM7⟩
    · rw [List.take_add_one, hx]
      simpa using hH7
    · exact (hr.kv (fun v x p => p.kv kv6 (by simp)) kv6 (by simp)).kv (fun v x p => p.kv kv7 hM7) kv7 (by simpa using hrp)
  · rintro h m t G ⟨m1, m2, hH, hr, _⟩
    refine wpAny_execs_nil ?_
    rw [List.take_of_length_le (by omega)] at hH
    have F6 : FS B [] s s.heap s.heap.objs.size h m := F5.back G (fun b hb => by rw [List.mem_singleton.mp hb]; exact .inr hps)
    -- told = []
    refine wpAny_execs_cons ?_
    refine wpAny_Assign_Name ?_ ?hs
    case hs => exact swList _ _ _ _ _ _
    refine List_ ?_
    refine args_nil ?_
    refine newLf F6 (by simp) ?_ ?hst
    case hst => rfl
    intro tl h7 _ F7 l7 k7 n7
    refine stm F7 ?_ ?hst
    case hst => rfl
    intro h8 t8 F8 s8
    have kv8 : KV [] h h8 := (KV.of_sub k7).trans (KV.of_same F7.ns s8)
    have l8 : IsL h8 tl (List.toArray []) 0 := isL_same l7 F7.ns s8
    have hts : s.heap.get? tl = none := (F6.fresh n7).1
    have htB : B.get? tl = none := (F6.fresh n7).2.1
    have htp : tl ≠ hp := fun q => by obtain ⟨_, _, _, e, _⟩ := id hH; subst q; exact nomatch (n7.symm.trans e)
    have htr : rw ≠ tl := fun q => by obtain ⟨_, _, e, _⟩ := id hr; subst q; exact nomatch (n7.symm.trans e)
    -- while heap
    refine wpAny_execs_cons ?_
    refine wpAny_While ?_
    refine codeAny_whileLoop (fun k s' => ∃ hh mm H told t, s' = St s hh t ∧ k = mu H ∧ FS B [] s s.heap s.heap.objs.size hh mm ∧ mm "heap" = some (.ref hp) ∧ mm "told" = some (.ref tl) ∧ mm "rows" = some (.ref rw) ∧ HeapAt hh hp H ∧ ListAt PairS hh tl told ∧ ListAt RowAt hh rw rows ∧ Inv H told) ?_ _
      ⟨h8, _, _, [], t8, rfl, rfl, F8, m1, rfl, m2, hH.kv kv8 (by simp) (by simp), ⟨[], 0, l8, rfl, fun i v x h1 => by simp at h1⟩, hr.kv (fun v x p => p.kv kv8 (by simp)) kv8 (by simp), LL.init⟩
    rintro k s' ⟨hh, mm, H, told, t, rfl, rfl, K, m1, m2, m3, hH, hT, hr, hI⟩
    have hHl := LL.len hI
    obtain ⟨z, nz, κ, lz, _, _, pmz⟩ := id hH
    have hzl : z.length = H.length := by simpa using pmz.length_eq
    refine isTrue_plain ?_
    refine ldm K m1 ?_
    refine truthL lz (by omega) fun t' => ?_
    refine split_bool (fun hb => ?_) (fun hb => ?_)
    · have hne : H ≠ [] := by
        rintro rfl
        have : z = [] := List.length_eq_zero_iff.mp (by simpa using hzl)
        subst this; simp at hb
      -- depth, host, joined = heappop(heap)
      refine wpAny_execs_cons ?_
      refine Assign_Tuple ?_ ?hs ?hw
      case hs => rfl
      case hw => rfl
      refine Call_ ?_
      refine ldg C K (g_heappop _) ?_
      refine callF C rfl rfl ?_
      refine args_cons ?_
      refine ldm K m1 ?_
      refine args_nil ⟨K.base, ?_⟩
      refine pop_ (s := St s hh _) C K.base ((hA.deeper _).less (by omega)) hH hpB hne (by omega) fun v x H1 h1 t1 hx pm hmin hH1 k1 => ?_
      have hL : ∀ hh mm H, FS B [] s s.heap s.heap.objs.size hh mm → HeapAt hh hp H → s.heap.objs.size ∉ [hp] := fun hh mm H K hH => by
        obtain ⟨_, _, _, g, _⟩ := id hH
        simpa using ns_ne_list K.ns g.isList
      have stp : ∀ hh mm H h1, FS B [] s s.heap s.heap.objs.size hh mm → HeapAt hh hp H → KeepM [hp] hh h1 → FS B [] s s.heap s.heap.objs.size h1 mm := fun hh mm H h1 K hH k1 =>
        K.step k1 (hL _ _ _ K hH) (by simpa using hpB) (fun b hb => .inr (by rw [List.mem_singleton.mp hb]; exact hps)) (fun b _ hb => by simp at hb)
      have K1 := stp _ _ _ _ K hH k1
      have rlm : ∀ hh H, HeapAt hh hp H → ∀ b ∈ [hp], RL hh b := fun hh H hH b hb => by rw [List.mem_singleton.mp hb]; exact hH.rl
      have kv1 : KV [hp] hh h1 := KV.of_M k1
      have hT1 := hT.kv (fun v x p => p.kv kv1 (rlm _ _ hH)) kv1 (by simpa using htp)
      have hr1 := hr.kv (fun v x p => p.kv kv1 (rlm _ _ hH)) kv1 (by simpa using hrp)
      obtain ⟨ls, m0, hxl, ok, _, _⟩ := LL.good hI x (pm.mem_iff.mpr (List.mem_cons_self ..))
      subst hxl
      obtain ⟨T, a1, a2, a3, rfl, gT⟩ := hx
      refine unp3 (hA.deeper _).hd K1 gT ?_ ?hst
      case hst => rfl
      intro h2 t2 K2 e2
      have kv2 : KV [] h1 h2 := KV.of_ns K1.ns e2
      have hH2 := hH1.kv kv2 (by simp) (by simp)
      have hT2 := hT1.kv (fun v x p => p.kv kv2 (by simp)) kv2 (by simp)
      have hr2 := hr1.kv (fun v x p => p.kv kv2 (by simp)) kv2 (by simp)
      obtain ⟨mm2, q1, q2, q3, q4, q5, q6, K2⟩ : ∃ mm2 : Str → Option Value, mm2 "heap" = some (.ref hp) ∧ mm2 "told" = some (.ref tl) ∧ mm2 "rows" = some (.ref rw) ∧ mm2 "depth" = some (.int (itOf ls m0).1 a1) ∧ mm2 "host" = some (.str (host ls) a2) ∧ mm2 "joined" = some (.int m0 a3) ∧ FS B [] s s.heap s.heap.objs.size h2 mm2 := by
        refine ⟨_, ?_, ?_, ?_, ?_, ?_, ?_, K2⟩
        · exact m1
        · exact m2
        · exact m3
        · rfl
        · rfl
        · rfl
      -- while heap and heap[0][1] == host
      refine wpAny_execs_cons ?_
      refine wpAny_mono (Q := fun f s' => f = Flow.next ∧ ∃ hh mm H' J t tj, s' = St s hh t ∧ FS B [] s s.heap s.heap.objs.size hh mm ∧ mm "heap" = some (.ref hp) ∧ mm "told" = some (.ref tl) ∧ mm "rows" = some (.ref rw) ∧ mm "depth" = some (.int (itOf ls m0).1 a1) ∧ mm "host" = some (.str (host ls) a2) ∧ mm "joined" = some (.int J tj) ∧ HeapAt hh hp H' ∧ ListAt PairS hh tl told ∧ ListAt RowAt hh rw rows ∧ Grp (itOf ls m0) H H' J ∧ (H' = [] ∨ ∃ y ∈ H', (∀ u ∈ H', ilt u y = false) ∧ y.2.1 ≠ host ls)) ?_ ?_ (fun _ _ e => e)
      · refine wpAny_While ?_
        refine codeAny_whileLoop (fun k s' => ∃ hh mm H' J t tj, s' = St s hh t ∧ k = H'.length ∧ FS B [] s s.heap s.heap.objs.size hh mm ∧ mm "heap" = some (.ref hp) ∧ mm "told" = some (.ref tl) ∧ mm "rows" = some (.ref rw) ∧ mm "depth" = some (.int (itOf ls m0).1 a1) ∧ mm "host" = some (.str (host ls) a2) ∧ mm "joined" = some (.int J tj) ∧ HeapAt hh hp H' ∧ ListAt PairS hh tl told ∧ ListAt RowAt hh rw rows ∧ Grp (itOf ls m0) H H' J) ?_ _
          ⟨h2, mm2, H1, m0, t2, a3, rfl, rfl, K2, q1, q2, q3, q4, q5, q6, hH2, hT2, hr2, [m0], by simp, pm, rfl⟩
        rintro k s' ⟨hh, mm, H', J, t, tj, rfl, rfl, K, m1, m2, m3, m4, m5, m6, hH', hT, hr, hG⟩
        obtain ⟨ms, hms, pmG, hJ⟩ := id hG
        have hH'l : H'.length ≤ 800 := by
          have := pmG.length_eq
          simp at this; omega
        have hgood : ∀ y ∈ H', Good3 y := fun y hy => LL.good hI y (pmG.mem_iff.mpr (List.mem_append_right _ hy))
        obtain ⟨z, nz, κ, lz, _, _, pmz⟩ := id hH'
        have hzl : z.length = H'.length := by simpa using pmz.length_eq
        refine isTrue_and ?_
        refine isTrue_plain ?_
        refine ldm K m1 ?_
        refine truthL lz (by omega) fun t' => ?_
        refine split_bool (fun hb => ?_) (fun hb => ?_)
        · have hne : H' ≠ [] := by
            rintro rfl
            have : z = [] := List.length_eq_zero_iff.mp (by simpa using hzl)
            subst this; simp at hb
          obtain ⟨z, nz, y, v, lz, hz0, hy, hyH, hymin, hzl⟩ := hH'.top hne
          obtain ⟨Ty, b1, b2, b3, rfl, gy⟩ := id hy
          refine isTrue_and ?_
          refine wpAny_isTrue_Compare1 ?_
          refine Subscript_ ?_
          refine Subscript_ ?_
          refine ldm K m1 ?_
          refine litI K ?_ ?hst
          case hst => rfl
          intro _ _
          refine itemL (s := St s hh _) (i := 0) lz rfl hz0 (by omega) ?_
          refine litI K ?_ ?hst
          case hst => rfl
          intro _ _
          refine itemTup (j := 1) gy rfl rfl (by simp) ?_
          refine ldm K m5 ?_
          refine eq_str ?_
          refine wpAny_truthy_bool ?_
          refine split_bool (fun he => ?_) (fun he => ?_)
          · refine isTrue_and_nil ?_
            have hh2 : y.2.1 = host ls := by simpa using he
            obtain ⟨ls', m', hyl, ok', _, _⟩ := hgood y hyH
            have hls : ls' = ls := host_inj ok' ok (by rw [← hh2, hyl]; rfl)
            subst hls
            subst hyl
            -- joined = joined & heappop(heap)[2]
            refine wpAny_execs_cons ?_
            refine wpAny_Assign_Name ?_ ?hs
            case hs => rfl
            refine wpAny_BinOp ?_
            refine ldm K m6 ?_
            refine Subscript_ ?_
            refine Call_ ?_
            refine ldg C K (g_heappop _) ?_
            refine callF C rfl rfl ?_
            refine args_cons ?_
            refine ldm K m1 ?_
            refine args_nil ⟨K.base, ?_⟩
            refine pop_ (s := St s hh _) C K.base ((hA.deeper _).less (by omega)) hH' hpB hne (by omega) fun v2 x2 H2 h3 t3 hx2 pm2 hmin2 hH3 k3 => ?_
            have hx2y : x2 = itOf ls' m' := by
              refine nlt_antisymm ?_ (hymin _ (pm2.mem_iff.mpr (List.mem_cons_self ..)))
              rcases List.mem_cons.mp (pm2.mem_iff.mp hyH) with e | e
              · rw [e]; exact ilt_irrefl _
              · exact hmin2 _ e
            subst hx2y
            obtain ⟨T3, c1, c2, c3, rfl, g3⟩ := hx2
            have K3 := stp _ _ _ _ K hH' k3
            have kv3 : KV [hp] hh h3 := KV.of_M k3
            have hT3 := hT.kv (fun v x p => p.kv kv3 (rlm _ _ hH')) kv3 (by simpa using htp)
            have hr3 := hr.kv (fun v x p => p.kv kv3 (rlm _ _ hH')) kv3 (by simpa using hrp)
            refine litI K3 ?_ ?hst
            case hst => rfl
            intro _ _
            refine itemTup (j := 2) g3 rfl rfl (by simp) ?_
            refine andI K3 ?_ ?hst
            case hst => rfl
            intro _ _
            refine stm K3 ?_ ?hst
            case hst => rfl
            intro h4 t4 K4 s4
            have kv4 : KV [] h3 h4 := KV.of_same K3.ns s4
            have hl2 : H2.length < H'.length := by have := pm2.length_eq; simp at this; omega
            refine wpAny_execs_nil ⟨_, hl2, h4, _, H2, Builtin.bitAnd J m', t4, _, rfl, rfl, K4, m1, m2, m3, m4, m5, rfl, hH3.kv kv4 (by simp) (by simp), hT3.kv (fun v x p => p.kv kv4 (by simp)) kv4 (by simp), hr3.kv (fun v x p => p.kv kv4 (by simp)) kv4 (by simp), ms ++ [m'], by simp, ?_, ?_⟩
            · refine pmG.trans ?_
              rw [List.map_append, List.append_assoc]
              exact List.Perm.append_left _ pm2
            · rw [andAll_snoc _ _ hms, hJ]
          · refine wpAny_execs_nil ⟨rfl, hh, mm, H', J, _, tj, rfl, K, m1, m2, m3, m4, m5, m6, hH', hT, hr, hG, .inr ⟨y, hyH, hymin, by simpa using he⟩⟩
        · have hnil : H' = [] := by
            have : z = [] := by simpa using hb
            subst this
            exact List.length_eq_zero_iff.mp (by simpa using hzl.symm)
          exact wpAny_execs_nil ⟨rfl, hh, mm, H', J, _, tj, rfl, K, m1, m2, m3, m4, m5, m6, hH', hT, hr, hG, .inl hnil⟩
      · rintro f s' ⟨rfl, h3, mm3, H', J, t3, tj, rfl, K3, q1, q2, q3, q4, q5, q6, hH3, hT3, hr3, hG, hend⟩
        have hmem : itOf ls m0 ∈ H := pm.mem_iff.mpr (List.mem_cons_self ..)
        have hall : ∀ y ∈ H, ilt y (itOf ls m0) = false := fun y hy => by
          rcases List.mem_cons.mp (pm.mem_iff.mp hy) with e | e
          · rw [e]; exact ilt_irrefl _
          · exact hmin y e
        have hst := LL.step hI ok hmem hall hG hend
        have hH3l : H'.length ≤ 800 := by
          obtain ⟨ms, _, pmG, _⟩ := hG
          have := pmG.length_eq
          simp at this; omega
        obtain ⟨vt, nt, lt, hvt, hvt'⟩ := id hT3
        -- told.append((host, filemode(joined)))
        refine wpAny_execs_cons ?_
        refine wpAny_Expr ?_
        refine MethodCall_ ?_
        refine ldm K3 q2 ?_
        refine meth_append lt ?_
        refine callWith_method1 ?_
        refine args_cons ?_
        refine Tuple_ ?_
        refine args_cons ?_
        refine ldm K3 q5 ?_
        refine args_cons ?_
        refine Call_ ?_
        refine ldg C K3 (g_filemode _) ?_
        refine callF C rfl rfl ?_
        refine args_cons ?_
        refine ldm K3 q6 ?_
        refine args_nil ⟨K3.base, ?_⟩
        refine filemode_ (s := St s h3 _) C K3.base ((hA.deeper _).less (by omega)) fun h4 u4 t4 sub4 => ?_
        have K4 := K3.grow sub4
        refine args_nil ?_
        refine newTf K4 (by simp) ?_ ?hst
        case hst => rfl
        intro T5 h5 t5 K5 hT5 k5 _
        refine args_nil ?_
        have sub5 : Sub h3 h5 := sub4.trans k5
        have kv5 : KV [] h3 h5 := KV.of_sub sub5
        refine appendLf K5 (sub5 _ _ lt) htB (.inr hts) (by omega) ?_ ?hsa
        case hsa => rfl
        intro h6 n6 t6 K6 l6 s6
        have rl6 : ∀ b ∈ [tl], RL h5 b := fun b hb => by
          rw [List.mem_singleton.mp hb]
          obtain ⟨xs, k, g1, g2⟩ := hT3.rl (fun v x p => p.ref)
          exact ⟨xs, k, sub5 _ _ g1, g2⟩
        have kv6 : KV [tl] h5 h6 := KV.of_M (KeepM.of_same s6)
        have hT6 : ListAt PairS h6 tl (told ++ [(host ls, fmodeP J)]) := ListAt.snoc hvt hvt' (fun v x p => (p.kv kv5 (by simp)).kv kv6 rl6) l6 (PairS.kv ⟨T5, a2, u4, rfl, hT5⟩ kv6 rl6)
        have hH6 : HeapAt h6 hp H' := (hH3.kv kv5 (by simp) (by simp)).kv kv6 rl6 (by simpa using htp.symm)
        have hr6 : ListAt RowAt h6 rw rows := (hr3.kv (fun v x p => p.kv kv5 (by simp)) kv5 (by simp)).kv (fun v x p => p.kv kv6 rl6) kv6 (by simpa using htr)
        -- up = reach(host)
        have ho5 : ∀ i ∈ ls, i < 5 := ok.2.2
        have hhl : (host ls).length ≤ 24 := by
          have := host_len ls
          have := ok.2.1
          show (hostC ls).toArray.size ≤ 24
          simp; omega
        refine wpAny_execs_cons ?_
        refine wpAny_Assign_Name ?_ ?hs2
        case hs2 => rfl
        refine Call_ ?_
        refine ldg C K6 (g_reach _) ?_
        refine callF C rfl rfl ?_
        refine args_cons ?_
        refine ldm K6 q5 ?_
        refine args_nil ⟨K6.base, ?_⟩
        refine reach_ (s := St s h6 _) C K6.base ((hA.deeper _).less (by omega)) (okR_host ls) (by omega) fun h7 u7 t7 sub7 => ?_
        have K7 := K6.grow sub7
        refine stm K7 ?_ ?hsb
        case hsb => rfl
        intro h8 t8 K8 s8
        have kv8 : KV [] h6 h8 := (KV.of_sub sub7).trans (KV.of_same K7.ns s8)
        have hT8 := hT6.kv (fun v x p => p.kv kv8 (by simp)) kv8 (by simp)
        have hH8 := hH6.kv kv8 (by simp) (by simp)
        have hr8 := hr6.kv (fun v x p => p.kv kv8 (by simp)) kv8 (by simp)
        -- if up != host
        refine wpAny_execs_cons ?_
        refine wpAny_If ?_
        refine wpAny_isTrue_Compare1 ?_
        refine ldm K8 rfl ?_
        refine ldm K8 q5 ?_
        refine ne_str ?_
        refine wpAny_truthy_bool ?_
        rw [reach_host ls ho5]
        cases hg : goesOn ls with
        | true =>
          simp only [if_true]
          rw [hg] at hst
          have hup : reachP (host ls) = Str.ofString "." ++ host ls.tail := by rw [reach_host ls ho5, hg, if_pos rfl]
          have hne : ((Str.ofString "." ++ host ls.tail) != host ls) = true := up_ne ho5 hg
          refine (?_ : if ((Str.ofString "." ++ host ls.tail) != host ls) = true then _ else _)
          rw [if_pos hne]
          have htl : (host ls.tail).length ≤ 24 := by
            have := host_len ls.tail
            have := ok.2.1
            show (hostC ls.tail).toArray.size ≤ 24
            simp at *; omega
          refine wpAny_execs_cons ?_
          refine wpAny_Expr ?_
          refine Call_ ?_
          refine ldg C K8 (g_heappush _) ?_
          refine callF C rfl rfl ?_
          refine args_cons ?_
          refine ldm K8 q1 ?_
          refine args_cons ?_
          refine Tuple_ ?_
          refine args_cons ?_
          refine wpAny_BinOp ?_
          refine ldm K8 q4 ?_
          refine litI K8 ?_ ?hc1
          case hc1 => rfl
          intro _ _
          refine addI K8 ?_ ?hc2
          case hc2 => rfl
          intro w1 _
          refine args_cons ?_
          refine Subscript_ ?_
          refine ldm K8 rfl ?_
          refine wpAny_Slice ?_
          refine wpAny_evalPart_some ?_
          refine litI K8 ?_ ?hc3
          case hc3 => rfl
          intro _ _
          refine sliceFrom K8 (by rw [hup, PySem.Str.length_append, show (Str.ofString ".").length = 1 by decide]; omega) fun h9 w2 t9 sub9 K9 => ?_
          refine args_cons ?_
          refine ldm K9 q6 ?_
          refine args_nil ?_
          refine newTf K9 (by simp) ?_ ?hc4
          case hc4 => rfl
          intro T10 h10 t10 K10 hT10 k10 _
          refine args_nil ⟨K10.base, ?_⟩
          have kv10 : KV [] h8 h10 := KV.of_sub (sub9.trans k10)
          have hH10 := hH8.kv kv10 (by simp) (by simp)
          have hT10' := hT8.kv (fun v x p => p.kv kv10 (by simp)) kv10 (by simp)
          have hr10 := hr8.kv (fun v x p => p.kv kv10 (by simp)) kv10 (by simp)
          have hit : ItemAt h10 (.ref T10) (itOf ls.tail J) := by
            refine ⟨T10, w1, w2, tj, rfl, ?_⟩
            rw [hT10, hup, up_slice]
            have : (itOf ls m0).1 + 1 = (itOf ls.tail J).1 := by
              have := ok.1
              simp [itOf]; omega
            rw [this]; rfl
          refine push_ (s := St s h10 _) C K10.base ((hA.deeper _).less (by omega)) hH10 hpB hit (by omega) fun h11 t11 hH11 k11 => ?_
          have K11 := stp _ _ _ _ K10 hH10 k11
          have kv11 : KV [hp] h10 h11 := KV.of_M k11
          have hT11 := hT10'.kv (fun v x p => p.kv kv11 (rlm _ _ hH10)) kv11 (by simpa using htp)
          have hr11 := hr10.kv (fun v x p => p.kv kv11 (rlm _ _ hH10)) kv11 (by simpa using hrp)
          simp only [if_true] at hst
          exact wpAny_execs_nil (wpAny_execs_nil ⟨_, hst.2, h11, _, _, _, _, rfl, rfl, K11, q1, q2, q3, hH11, hT11, hr11, hst.1⟩)
        | false =>
          simp only [Bool.false_eq_true, if_false]
          rw [hg] at hst
          have : (host ls != host ls) = false := by simp
          rw [this]
          simp only [Bool.false_eq_true, if_false] at hst ⊢
          exact wpAny_execs_nil (wpAny_execs_nil ⟨_, hst.2, h8, _, _, _, _, rfl, rfl, K8, q1, q2, q3, hH8, hT8, hr8, hst.1⟩)
    · have hnil : H = [] := by
        have : z = [] := by simpa using hb
        subst this
        exact List.length_eq_zero_iff.mp (by simpa using hzl.symm)
      subst hnil
      refine wpAny_execs_nil ?_
      -- return told == _law_due(rows)
      refine wpAny_execs_cons ?_
      refine wpAny_Return_some ?_
      refine wpAny_Compare1 ?_
      refine ldm K m2 ?_
      refine Call_ ?_
      refine ldg C K (g_law_due _) ?_
      refine callF C rfl rfl ?_
      refine args_cons ?_
      refine ldm K m3 ?_
      refine args_nil ⟨K.base, ?_⟩
      refine due_ (s := St s hh _) C K.base ((hA.deeper _).less (by omega)) hr hrlen.2 hrlen.1 fun D h2 ys t2 sub2 pmy srt hD => ?_
      rw [LL.fin hI ys pmy srt] at hD
      have kv2 : KV [] hh h2 := KV.of_sub sub2
      refine eqPairs (s := St s h2 _) (hT.kv (fun v x p => p.kv kv2 (by simp)) kv2 (by simp)) hD (hA.deeper _).units ?_ ?_
      · have := (hA.deeper (envOf (Str.ofString "law") default s.heap.objs.size 156 (.ref 155))).un
        exact units_in1 (hA.deeper _) (by omega)
      · exact hQ h2 t2 (fun b o e => sub2 b o (K.kp b o (by simp) e))
end
end Mine
end
section
open PySem PySem.W PySem.Calls PyProof.Rows
set_option maxRecDepth 100000
set_option maxHeartbeats 4000000
namespace Mine
/-- the bit k of m -/
noncomputable def bt (m : Int) (k : Nat) : Bool := decide (¬ (m.fdiv (2 ^ k)).fmod 2 = 0)
theorem bt_nat (n k : Nat) : bt (n : Int) k = n.testBit k := by
  unfold bt
  rw [Nat.testBit_eq_decide_div_mod_eq]
  have e : (n : Int).fdiv (2 ^ k) = ((n / 2 ^ k : Nat) : Int) := by
    rw [Int.fdiv_eq_ediv_of_nonneg _ (Int.pow_nonneg (by omega))]
    push_cast
    rfl
  rw [e, Int.fmod_eq_emod_of_nonneg _ (by omega)]
  apply decide_eq_decide.mpr
  omega
theorem bt_and {a b : Int} (ha : 0 ≤ a) (hb : 0 ≤ b) (k : Nat) : bt (Builtin.bitAnd a b) k = (bt a k && bt b k) := by
  obtain ⟨n, rfl⟩ := Int.eq_ofNat_of_zero_le ha
  obtain ⟨m, rfl⟩ := Int.eq_ofNat_of_zero_le hb
  rw [bitAnd_pp ha hb, bt_nat, bt_nat, bt_nat]
  simp
theorem allBit_eq (modes : List Int) (k : Nat) : allBit modes k = modes.all (bt · k) := rfl

theorem and_bit (n k : Nat) : n &&& 2 ^ k = (n.testBit k).toNat * 2 ^ k := by
  apply Nat.eq_of_testBit_eq
  intro i
  rw [Nat.testBit_and, Nat.testBit_two_pow]
  cases h : n.testBit k with
  | true =>
    rw [Bool.toNat_true, Nat.one_mul, Nat.testBit_two_pow]
    by_cases e : k = i
    · subst e; simp [h]
    · simp [e]
  | false =>
    by_cases e : k = i
    · subst e; simp [h]
    · simp [e]
theorem and1 (n : Nat) (k : Nat) {M : Nat} (hM : M = 2 ^ k) : n &&& M = (n.testBit k).toNat * M := by rw [hM]; exact and_bit n k
theorem and2 (n : Nat) (a b : Nat) {M : Nat} (hM : M = 2 ^ a ||| 2 ^ b) : n &&& M = ((n.testBit a).toNat * 2 ^ a) ||| ((n.testBit b).toNat * 2 ^ b) := by
  rw [hM, Nat.and_or_distrib_left, and_bit, and_bit]
theorem and4 (n : Nat) : n &&& 61440 = ((n.testBit 12).toNat * 4096 ||| (n.testBit 13).toNat * 8192) ||| ((n.testBit 14).toNat * 16384 ||| (n.testBit 15).toNat * 32768) := by
  rw [show 61440 = (2 ^ 12 ||| 2 ^ 13) ||| (2 ^ 14 ||| 2 ^ 15) by decide, Nat.and_or_distrib_left, Nat.and_or_distrib_left, Nat.and_or_distrib_left, and_bit, and_bit, and_bit, and_bit]
theorem tst_nat (i n M : Nat) : tst i (n : Int) (M : Int) = if i = 0 then decide (n &&& 61440 = M) else decide (n &&& M = M) := by
  unfold tst
  split
  · rw [show (61440 : Int) = ((61440 : Nat) : Int) by rfl, bitAnd_pp (by omega) (by omega)]
    simp only [Int.toNat_natCast]
    rw [Bool.eq_iff_iff]; simp
    omega
  · rw [bitAnd_pp (by omega) (by omega)]
    simp only [Int.toNat_natCast]
    rw [Bool.eq_iff_iff]; simp
    omega

theorem sg0 (n : Nat) : signOf 0 (n : Int) (tabs.getD 0 []) = Txt.item "?pc?d?b?-?l?s???" (((n.testBit 12).toNat + (n.testBit 13).toNat * 2 + (n.testBit 14).toNat * 4 + (n.testBit 15).toNat * 8 : Nat) : Int) := by
  have ht : ∀ M : Nat, tst 0 (n : Int) (M : Int) = decide (((n.testBit 12).toNat * 4096 ||| (n.testBit 13).toNat * 8192) ||| ((n.testBit 14).toNat * 16384 ||| (n.testBit 15).toNat * 32768) = M) := fun M => by
    rw [tst_nat, if_pos rfl, and4]
  have e : signOf 0 (n : Int) (tabs.getD 0 []) = match ([(40960, "l"), (49152, "s"), (32768, "-"), (24576, "b"), (16384, "d"), (8192, "c"), (4096, "p")] : List (Nat × Str)).find? (fun p => tst 0 (n : Int) (p.1 : Int)) with | some p => p.2 | none => "?" := by
    show signOf 0 (n : Int) [(40960, "l"), (49152, "s"), (32768, "-"), (24576, "b"), (16384, "d"), (8192, "c"), (4096, "p")] = _
    unfold signOf
    simp only [List.find?, if_true]
    have c : ∀ M : Nat, tst 0 (n : Int) (OfNat.ofNat M : Int) = tst 0 (n : Int) ((M : Nat) : Int) := fun _ => rfl
    cases tst 0 (n : Int) 40960 <;> cases tst 0 (n : Int) 49152 <;> cases tst 0 (n : Int) 32768 <;> cases tst 0 (n : Int) 24576 <;> cases tst 0 (n : Int) 16384 <;> cases tst 0 (n : Int) 8192 <;> cases tst 0 (n : Int) 4096 <;> rfl
  rw [e]
  simp only [ht]
  generalize n.testBit 12 = a
  generalize n.testBit 13 = b
  generalize n.testBit 14 = c
  generalize n.testBit 15 = d
  revert a b c d
  decide

theorem sg1 {i n k M : Nat} {c : Str} (hi : i ≠ 0) (hM : M = 2 ^ k) {two : Str} (h0 : Txt.item two 0 = "-") (h1 : Txt.item two 1 = c) : signOf i (n : Int) [((M : Int), c)] = Txt.item two (((n.testBit k).toNat : Nat) : Int) := by
  have hp : M ≠ 0 := by rw [hM]; exact Nat.ne_of_gt (Nat.two_pow_pos k)
  have ht : tst i (n : Int) (M : Int) = n.testBit k := by
    rw [tst_nat, if_neg hi, and1 n k hM]
    cases n.testBit k <;> simp <;> omega
  unfold signOf
  simp only [List.find?, ht, if_neg hi]
  cases n.testBit k with
  | true => exact h1.symm
  | false => exact h0.symm
theorem sg3 {i n a b M A B : Nat} {c1 c2 c3 : Str} (hi : i ≠ 0) (hab : a ≠ b) (hM : M = 2 ^ a ||| 2 ^ b) (hA : A = 2 ^ a) (hB : B = 2 ^ b) {four : Str} (h0 : Txt.item four 0 = "-") (h1 : Txt.item four 1 = c3) (h2 : Txt.item four 2 = c2) (h3 : Txt.item four 3 = c1) :
    signOf i (n : Int) [((M : Int), c1), ((B : Int), c2), ((A : Int), c3)] = Txt.item four (((n.testBit a).toNat + (n.testBit b).toNat * 2 : Nat) : Int) := by
  have one : ∀ k K : Nat, K = 2 ^ k → tst i (n : Int) (K : Int) = n.testBit k := fun k K hK => by
    have hp : K ≠ 0 := by rw [hK]; exact Nat.ne_of_gt (Nat.two_pow_pos k)
    rw [tst_nat, if_neg hi, and1 n k hK]
    cases n.testBit k <;> simp <;> omega
  have both : tst i (n : Int) (M : Int) = (n.testBit a && n.testBit b) := by
    rw [tst_nat, if_neg hi]
    rw [Bool.eq_iff_iff]
    simp only [decide_eq_true_eq, Bool.and_eq_true]
    constructor
    · intro e
      have f : ∀ k, M.testBit k = true → n.testBit k = true := fun k hk => by
        rw [← e, Nat.testBit_and] at hk
        simp at hk; exact hk.1
      refine ⟨f a ?_, f b ?_⟩ <;> rw [hM] <;> simp [Nat.testBit_two_pow]
    · rintro ⟨ha, hb⟩
      rw [and2 n a b hM, ha, hb, hM]
      simp
  unfold signOf
  simp only [List.find?, both, one b B hB, one a A hA, if_neg hi]
  cases n.testBit a <;> cases n.testBit b
  · exact h0.symm
  · exact h2.symm
  · exact h1.symm
  · exact h3.symm

theorem fmode_text {j : Int} (h0 : 0 ≤ j) : fmodeP j = textP (fun k => (bt j k).toNat) 3 := by
  obtain ⟨n, rfl⟩ := Int.eq_ofNat_of_zero_le h0
  simp only [bt_nat]
  have r : signs10 (n : Int) = [signOf 0 (n : Int) (tabs.getD 0 []), signOf 1 (n : Int) [(((256 : Nat) : Int), "r")], signOf 2 (n : Int) [(((128 : Nat) : Int), "w")], signOf 3 (n : Int) [(((2112 : Nat) : Int), "s"), (((2048 : Nat) : Int), "S"), (((64 : Nat) : Int), "x")],
    signOf 4 (n : Int) [(((32 : Nat) : Int), "r")], signOf 5 (n : Int) [(((16 : Nat) : Int), "w")], signOf 6 (n : Int) [(((1032 : Nat) : Int), "s"), (((1024 : Nat) : Int), "S"), (((8 : Nat) : Int), "x")],
    signOf 7 (n : Int) [(((4 : Nat) : Int), "r")], signOf 8 (n : Int) [(((2 : Nat) : Int), "w")], signOf 9 (n : Int) [(((513 : Nat) : Int), "t"), (((512 : Nat) : Int), "T"), (((1 : Nat) : Int), "x")]] := rfl
  have hr0 : Txt.item (Str.ofString "-r") 0 = "-" := by decide
  have hr1 : Txt.item (Str.ofString "-r") 1 = "r" := by decide
  have hw0 : Txt.item (Str.ofString "-w") 0 = "-" := by decide
  have hw1 : Txt.item (Str.ofString "-w") 1 = "w" := by decide
  unfold fmodeP
  rw [r, sg0, sg1 (k := 8) (by decide) (by decide) hr0 hr1, sg1 (k := 7) (by decide) (by decide) hw0 hw1, sg3 (a := 6) (b := 11) (four := "-xSs") (by decide) (by decide) (by decide) (by decide) (by decide) (by decide) (by decide) (by decide) (by decide),
    sg1 (k := 5) (by decide) (by decide) hr0 hr1, sg1 (k := 4) (by decide) (by decide) hw0 hw1, sg3 (a := 3) (b := 10) (four := "-xSs") (by decide) (by decide) (by decide) (by decide) (by decide) (by decide) (by decide) (by decide) (by decide),
    sg1 (k := 2) (by decide) (by decide) hr0 hr1, sg1 (k := 1) (by decide) (by decide) hw0 hw1, sg3 (a := 0) (b := 9) (four := "-xTt") (by decide) (by decide) (by decide) (by decide) (by decide) (by decide) (by decide) (by decide) (by decide)]
  show Builtin.Str.glued _ _ = _
  rw [StrLaws.glued_eq_join]
  simp only [textP, tris, List.take, List.foldl, triP, headP]
  apply str_ext
  simp only [Str.join, Str.cps_append, Array.toList_append]
  simp [show (Str.ofString "").cps.toList = [] by decide]
end Mine
end
section
open PySem PySem.W PySem.Calls PyProof.Rows
set_option maxRecDepth 100000
set_option maxHeartbeats 4000000
namespace Mine
theorem itOf_inj {a b : List Nat} {m n : Int} (ha : LsOk a) (hb : LsOk b) (e : itOf a m = itOf b n) : a = b ∧ m = n := by
  have e2 := congrArg (fun x : It => x.2.1) e
  have e3 := congrArg (fun x : It => x.2.2) e
  exact ⟨host_inj ha hb e2, e3⟩
theorem chain_mem {t ls : List Nat} (h : LsOk ls) : t ∈ chain ls ↔ t = ls ∨ (goesOn ls = true ∧ t ∈ chain ls.tail) := by
  cases hg : goesOn ls with
  | true => rw [chain_go hg h.ne]; simp
  | false => rw [chain_stop hg]; simp
theorem chain_self {ls : List Nat} (h : LsOk ls) : ls ∈ chain ls := (chain_mem h).mpr (.inl rfl)
theorem chain_ok : ∀ (n : Nat) {t ls : List Nat}, ls.length ≤ n → LsOk ls → t ∈ chain ls → LsOk t ∧ t.length ≤ ls.length ∧ (t.length = ls.length → t = ls)
  | 0, t, ls, hn, h, _ => by have := h.1; omega
  | n + 1, t, ls, hn, h, ht => by
    rcases (chain_mem h).mp ht with rfl | ⟨hg, ht⟩
    · exact ⟨h, Nat.le_refl _, fun _ => rfl⟩
    · have h1 := h.1
      have hl : ls.tail.length = ls.length - 1 := by simp
      have := chain_ok n (by omega) (h.tail hg) ht
      exact ⟨this.1, by omega, fun e => by omega⟩

/-- more labels first, then by signs -/
noncomputable def klt (a b : List Nat) : Prop := b.length < a.length ∨ (a.length = b.length ∧ slt (host a) (host b) = true)
theorem klt_irrefl (a : List Nat) : ¬ klt a a := by
  rintro (h | ⟨_, h⟩)
  · omega
  · rw [slt_irrefl] at h; cases h
theorem klt_trans {a b c : List Nat} (h : klt a b) (g : klt b c) : klt a c := by
  rcases h with h | ⟨h, h'⟩ <;> rcases g with g | ⟨g, g'⟩
  · exact .inl (by omega)
  · exact .inl (by omega)
  · exact .inl (by omega)
  · exact .inr ⟨by omega, slt_trans h' g'⟩
/-- not below as items: below or the same as names -/
theorem kle_of {a b : List Nat} {m n : Int} (ha : LsOk a) (hb : LsOk b) (h : ilt (itOf b n) (itOf a m) = false) : a = b ∨ klt a b := by
  rcases ilt_tri (itOf a m) (itOf b n) with e | e | e
  · rw [ilt_iff] at e
    rcases e with e | ⟨e, e2⟩
    · exact .inr (.inl (by simp [itOf] at e; omega))
    · have el : a.length = b.length := by simp [itOf] at e; omega
      rcases e2 with e2 | ⟨e2, _⟩
      · exact .inr (.inr ⟨el, e2⟩)
      · exact .inl (host_inj ha hb e2)
  · exact .inl (itOf_inj ha hb e).1
  · rw [h] at e; cases e

theorem asc_eq : ∀ {xs ys : List (List Nat)}, xs.Pairwise klt → ys.Pairwise klt → (∀ t, t ∈ xs ↔ t ∈ ys) → xs = ys
  | [], [], _, _, _ => rfl
  | [], y :: ys, _, _, h => absurd ((h y).mpr (List.mem_cons_self ..)) (by simp)
  | x :: xs, [], _, _, h => absurd ((h x).mp (List.mem_cons_self ..)) (by simp)
  | x :: xs, y :: ys, hx, hy, h => by
    rw [List.pairwise_cons] at hx hy
    have e : x = y := by
      rcases List.mem_cons.mp ((h x).mp (List.mem_cons_self ..)) with e | e
      · exact e
      · rcases List.mem_cons.mp ((h y).mpr (List.mem_cons_self ..)) with e' | e'
        · exact e'.symm
        · exact absurd (klt_trans (hx.1 _ e') (hy.1 _ e)) (klt_irrefl _)
    subst e
    rw [asc_eq hx.2 hy.2 (fun t => ?_)]
    constructor
    · intro ht
      rcases List.mem_cons.mp ((h t).mp (List.mem_cons_of_mem _ ht)) with e | e
      · subst e; exact absurd (hx.1 _ ht) (klt_irrefl _)
      · exact e
    · intro ht
      rcases List.mem_cons.mp ((h t).mpr (List.mem_cons_of_mem _ ht)) with e | e
      · subst e; exact absurd (hy.1 _ ht) (klt_irrefl _)
      · exact e

noncomputable def Pres (H : List It) (t : List Nat) : Prop := ∃ ls m, itOf ls m ∈ H ∧ LsOk ls ∧ t ∈ chain ls
noncomputable def AB (H : List It) (t : List Nat) (k : Nat) : Prop := ∀ ls m, itOf ls m ∈ H → LsOk ls → t ∈ chain ls → bt m k = true
noncomputable def items (rows : List Row) : List It := rows.map fun r => itOf r.1 r.2
noncomputable def sgn (rows : List Row) (t : List Nat) : Str := signsP ((rungsOf rows).filterMap (sameMode (host t)))

theorem mem_rungs {rows : List Row} {z : It} : z ∈ rungsOf rows ↔ ∃ r ∈ rows, ∃ ls ∈ chain r.1, z = itOf ls r.2 := by
  simp only [rungsOf, List.mem_flatMap, List.mem_map]
  constructor
  · rintro ⟨r, hr, ls, hl, rfl⟩; exact ⟨r, hr, ls, hl, rfl⟩
  · rintro ⟨r, hr, ls, hl, rfl⟩; exact ⟨r, hr, ls, hl, rfl⟩
theorem mem_modes {rows : List Row} (hok : ∀ r ∈ rows, LsOk r.1) {t : List Nat} (ht : LsOk t) {x : Int} : x ∈ (rungsOf rows).filterMap (sameMode (host t)) ↔ ∃ r ∈ rows, r.2 = x ∧ t ∈ chain r.1 := by
  rw [List.mem_filterMap]
  constructor
  · rintro ⟨z, hz, he⟩
    obtain ⟨r, hr, ls, hl, rfl⟩ := mem_rungs.mp hz
    unfold sameMode at he
    split at he
    · rename_i e
      have e' : host ls = host t := by simpa [itOf] using e
      have := host_inj (chain_ok _ (Nat.le_refl _) (hok r hr) hl).1 ht e'
      subst this
      exact ⟨r, hr, Option.some.inj he, hl⟩
    · cases he
  · rintro ⟨r, hr, rfl, hl⟩
    refine ⟨itOf t r.2, mem_rungs.mpr ⟨r, hr, t, hl, rfl⟩, ?_⟩
    simp [sameMode, itOf]
theorem bitP_AB {rows : List Row} (hok : ∀ r ∈ rows, LsOk r.1) {t : List Nat} (ht : LsOk t) (k : Nat) : allBit ((rungsOf rows).filterMap (sameMode (host t))) k = true ↔ AB (items rows) t k := by
  rw [allBit_eq, List.all_eq_true]
  constructor
  · intro h ls m hm ok hl
    obtain ⟨r, hr, e⟩ := List.mem_map.mp hm
    have := itOf_inj (hok r hr) ok e
    obtain ⟨e1, rfl⟩ := this
    exact h r.2 ((mem_modes hok ht).mpr ⟨r, hr, rfl, by rw [e1]; exact hl⟩)
  · intro h x hx
    obtain ⟨r, hr, rfl, hl⟩ := (mem_modes hok ht).mp hx
    exact h r.1 r.2 (List.mem_map.mpr ⟨r, hr, rfl⟩) (hok r hr) hl
theorem textP_congr {b c : Nat → Nat} (h : ∀ k, k < 16 → b k = c k) : textP b 3 = textP c 3 := by
  simp only [textP, tris, List.take, List.foldl, triP, headP]
  simp [h]
end Mine
end
section
open PySem PySem.W PySem.Calls PyProof.Rows
set_option maxRecDepth 100000
set_option maxHeartbeats 4000000
namespace Mine
theorem due_asc (rows : List Row) : ∀ (ys : List It) (last : Option (List Nat)), (∀ y ∈ ys, ∃ t m, y = itOf t m ∧ LsOk t) → (ys.Pairwise fun a b => ilt b a = false) →
    (∀ u, last = some u → LsOk u ∧ ∀ t m, itOf t m ∈ ys → LsOk t → u = t ∨ klt u t) →
    ∃ dl : List (List Nat), dueGo (rungsOf rows) (last.map host) ys = dl.map (fun t => (host t, sgn rows t)) ∧ dl.Pairwise klt ∧ (∀ t, t ∈ dl ↔ LsOk t ∧ (∃ m, itOf t m ∈ ys) ∧ last ≠ some t) ∧ (∀ u, last = some u → ∀ t ∈ dl, klt u t)
  | [], last, _, _, _ => ⟨[], by simp [dueGo], List.Pairwise.nil, by simp, by simp⟩
  | y :: r, last, hg, hs, hl => by
    obtain ⟨t, m, rfl, ht⟩ := hg y (List.mem_cons_self ..)
    rw [List.pairwise_cons] at hs
    have hnext : ∀ t' m', itOf t' m' ∈ r → LsOk t' → t = t' ∨ klt t t' := fun t' m' hm ok => kle_of ht ok (hs.1 _ hm)
    obtain ⟨dl, hd, hp, hm, hk⟩ := due_asc rows r (some t) (fun y hy => hg y (List.mem_cons_of_mem _ hy)) hs.2 (fun u hu => by cases hu; exact ⟨ht, hnext⟩)
    have hkt := hk t rfl
    by_cases hlt : last = some t
    · refine ⟨dl, ?_, hp, fun t' => ?_, fun u hu => ?_⟩
      · subst hlt
        simp only [dueGo, duePart]
        rw [if_pos (by simp [itOf])]
        simpa [itOf] using hd
      · rw [hm, hlt]
        constructor
        · rintro ⟨h1, ⟨n, h2⟩, h3⟩; exact ⟨h1, ⟨n, List.mem_cons_of_mem _ h2⟩, h3⟩
        · rintro ⟨h1, ⟨n, h2⟩, h3⟩
          rcases List.mem_cons.mp h2 with e | e
          · exact absurd (congrArg some (itOf_inj h1 ht e).1).symm h3
          · exact ⟨h1, ⟨n, e⟩, h3⟩
      · rw [hlt] at hu; cases hu; exact hkt
    · have hul : ∀ u, last = some u → klt u t := fun u hu => by
        rcases (hl u hu).2 t m (List.mem_cons_self ..) ht with e | e
        · subst e; exact absurd hu hlt
        · exact e
      have hne : some (host t) ≠ last.map host := by
        intro e
        cases last with
        | none => simp at e
        | some u =>
          simp at e
          exact hlt (congrArg some (host_inj (hl u rfl).1 ht e.symm))
      refine ⟨t :: dl, ?_, List.pairwise_cons.mpr ⟨hkt, hp⟩, fun t' => ?_, fun u hu t' ht' => ?_⟩
      · simp only [dueGo, duePart]
        rw [if_neg (show some (itOf t m).2.1 ≠ last.map host from hne)]
        simp only [List.map_cons, List.singleton_append]
        have : dueGo (rungsOf rows) (some (itOf t m).2.1) r = _ := hd
        rw [this]
        rfl
      · rw [List.mem_cons, hm]
        constructor
        · rintro (rfl | ⟨h1, ⟨n, h2⟩, h3⟩)
          · exact ⟨ht, ⟨m, List.mem_cons_self ..⟩, hlt⟩
          · refine ⟨h1, ⟨n, List.mem_cons_of_mem _ h2⟩, fun e => ?_⟩
            have a := hul t' e
            rcases hnext t' n h2 h1 with b | b
            · exact h3 (congrArg some b)
            · exact klt_irrefl _ (klt_trans a b)
        · rintro ⟨h1, ⟨n, h2⟩, h3⟩
          by_cases e : t' = t
          · exact .inl e
          · rcases List.mem_cons.mp h2 with q | q
            · exact absurd (itOf_inj h1 ht q).1 e
            · exact .inr ⟨h1, ⟨n, q⟩, fun h => e (Option.some.inj h).symm⟩
      · rcases List.mem_cons.mp ht' with rfl | h
        · exact hul u hu
        · exact klt_trans (hul u hu) (hkt _ h)

structure Inv (rows : List Row) (H : List It) (told : List (Str × Str)) : Prop where
  good : ∀ x ∈ H, Good3 x
  hlen : H.length ≤ rows.length
  mu : told.length + mu H ≤ 4 * rows.length
  names : ∃ tl : List (List Nat), told = tl.map (fun t => (host t, sgn rows t)) ∧ tl.Pairwise klt ∧ (∀ t ∈ tl, LsOk t ∧ Pres (items rows) t ∧ ∀ ls m, itOf ls m ∈ H → LsOk ls → klt t ls) ∧
    ∀ t, LsOk t → t ∉ tl → (Pres H t ↔ Pres (items rows) t) ∧ ∀ k, (AB H t k ↔ AB (items rows) t k)

section
variable {rows : List Row} (hok : ∀ r ∈ rows, LsOk r.1 ∧ 0 ≤ r.2 ∧ r.2 < 65536)
include hok
theorem inv_init : Inv rows (items rows) [] := by
  refine ⟨fun x hx => ?_, by simp [items], ?_, [], rfl, List.Pairwise.nil, by simp, fun t _ _ => ⟨Iff.rfl, fun _ => Iff.rfl⟩⟩
  · obtain ⟨r, hr, rfl⟩ := List.mem_map.mp hx
    exact ⟨r.1, r.2, rfl, hok r hr⟩
  · unfold items mu
    rw [List.map_map]
    induction rows with
    | nil => simp
    | cons r rs ih =>
      have := ih (fun x hx => hok x (List.mem_cons_of_mem _ hx))
      have := (hok r (List.mem_cons_self ..)).1.2.1
      simp only [List.map_cons, List.sum_cons, Function.comp, List.length_cons, List.length_nil, itOf] at *
      omega
theorem inv_fin {told : List (Str × Str)} (I : Inv rows [] told) (ys : List It) (pm : ys.Perm (rungsOf rows)) (hs : ys.Pairwise fun a b => ilt b a = false) : dueGo (rungsOf rows) none ys = told := by
  have hy : ∀ y ∈ ys, ∃ t m, y = itOf t m ∧ LsOk t := fun y hy => by
    obtain ⟨r, hr, ls, hl, rfl⟩ := mem_rungs.mp (pm.mem_iff.mp hy)
    exact ⟨ls, r.2, rfl, (chain_ok _ (Nat.le_refl _) (hok r hr).1 hl).1⟩
  obtain ⟨dl, hd, hp, hm, _⟩ := due_asc rows ys none hy hs (by simp)
  obtain ⟨tl, rfl, tp, tm, te⟩ := I.names
  have hd' : dueGo (rungsOf rows) none ys = dl.map (fun t => (host t, sgn rows t)) := hd
  rw [hd', asc_eq hp tp (fun t => ?_)]
  have pres : ∀ t, LsOk t → (Pres (items rows) t ↔ ∃ m, itOf t m ∈ ys) := fun t ht => by
    constructor
    · rintro ⟨ls, m, hm, ok, hl⟩
      obtain ⟨r, hr, e⟩ := List.mem_map.mp hm
      obtain ⟨rfl, rfl⟩ := itOf_inj (hok r hr).1 ok e
      exact ⟨r.2, pm.mem_iff.mpr (mem_rungs.mpr ⟨r, hr, t, hl, rfl⟩)⟩
    · rintro ⟨m, hm⟩
      obtain ⟨r, hr, ls, hl, e⟩ := mem_rungs.mp (pm.mem_iff.mp hm)
      obtain ⟨rfl, rfl⟩ := itOf_inj ht (chain_ok _ (Nat.le_refl _) (hok r hr).1 hl).1 e
      exact ⟨r.1, r.2, List.mem_map.mpr ⟨r, hr, rfl⟩, (hok r hr).1, hl⟩
  rw [hm]
  constructor
  · rintro ⟨h1, h2, _⟩
    by_cases q : t ∈ tl
    · exact q
    · obtain ⟨_, _, h, _⟩ := ((te t h1 q).1).mpr ((pres t h1).mpr h2)
      simp at h
  · intro q
    have := tm t q
    exact ⟨this.1, (pres t this.1).mp this.2.1, by simp⟩
end
end Mine
end
section
open PySem PySem.W PySem.Calls PyProof.Rows
set_option maxRecDepth 100000
set_option maxHeartbeats 4000000
namespace Mine
theorem andAll_bt : ∀ (ms : List Int), ms ≠ [] → (∀ m ∈ ms, 0 ≤ m ∧ m < 65536) → (0 ≤ andAll ms ∧ andAll ms < 65536) ∧ ∀ k, bt (andAll ms) k = ms.all (bt · k) := by
  intro ms hne hm
  cases ms with
  | nil => cases hne rfl
  | cons a r =>
    have key : ∀ (r : List Int) (a : Int), (0 ≤ a ∧ a < 65536) → (∀ m ∈ r, 0 ≤ m ∧ m < 65536) → (0 ≤ r.foldl Builtin.bitAnd a ∧ r.foldl Builtin.bitAnd a < 65536) ∧ ∀ k, bt (r.foldl Builtin.bitAnd a) k = (bt a k && r.all (bt · k)) := by
      intro r
      induction r with
      | nil => intro a ha _; exact ⟨ha, by simp⟩
      | cons b r ih =>
        intro a ha hr
        have hb := hr b (List.mem_cons_self ..)
        have g := bitAnd_range a hb.1
        have := ih (Builtin.bitAnd a b) ⟨g.1, by omega⟩ (fun m hm => hr m (List.mem_cons_of_mem _ hm))
        refine ⟨this.1, fun k => ?_⟩
        simp only [List.foldl_cons, List.all_cons]
        rw [this.2, bt_and ha.1 hb.1, Bool.and_assoc]
    have := key r a (hm a (List.mem_cons_self ..)) (fun m h => hm m (List.mem_cons_of_mem _ h))
    exact ⟨this.1, fun k => by simpa [andAll] using this.2 k⟩
theorem mu_perm {H H' : List It} (h : H.Perm H') : mu H = mu H' := (h.map _).sum_nat
theorem mu_app (H H' : List It) : mu (H ++ H') = mu H + mu H' := by simp [mu]
theorem mu_grp (ls : List Nat) : ∀ ms : List Int, mu (ms.map fun m => itOf ls m) = ms.length * ls.length
  | [] => by simp [mu]
  | m :: ms => by
    have := mu_grp ls ms
    simp only [mu, List.map_cons, List.sum_cons, List.length_cons] at *
    rw [this, Nat.succ_mul]
    simp [itOf]; omega

theorem inv_step {rows : List Row} (hok : ∀ r ∈ rows, LsOk r.1 ∧ 0 ≤ r.2 ∧ r.2 < 65536) {H H' : List It} {told : List (Str × Str)} {ls : List Nat} {m0 J : Int} (I : Inv rows H told) (ok : LsOk ls) (hmem : itOf ls m0 ∈ H) (hmin : ∀ y ∈ H, ilt y (itOf ls m0) = false)
    (hG : Grp (itOf ls m0) H H' J) (hend : H' = [] ∨ ∃ y ∈ H', (∀ u ∈ H', ilt u y = false) ∧ y.2.1 ≠ host ls) :
    Inv rows (if goesOn ls then H' ++ [itOf ls.tail J] else H') (told ++ [(host ls, fmodeP J)]) ∧ mu (if goesOn ls then H' ++ [itOf ls.tail J] else H') < mu H := by
  obtain ⟨ms, hms, pm, hJ⟩ := hG
  replace pm : H.Perm (ms.map (fun m => itOf ls m) ++ H') := pm
  have inH : ∀ u ∈ H', u ∈ H := fun u hu => pm.mem_iff.mpr (List.mem_append_right _ hu)
  have inG : ∀ m ∈ ms, itOf ls m ∈ H := fun m hm => pm.mem_iff.mpr (List.mem_append_left _ (List.mem_map.mpr ⟨m, hm, rfl⟩))
  have low : ∀ l m, itOf l m ∈ H → LsOk l → ls = l ∨ klt ls l := fun l m h okl => kle_of ok okl (hmin _ h)
  have off : ∀ m, itOf ls m ∉ H' := fun m hm => by
    rcases hend with rfl | ⟨y, hy, hym, hyh⟩
    · simp at hm
    · obtain ⟨ly, my, rfl, oky, _⟩ := I.good y (inH y hy)
      have a : klt ls ly := by
        rcases low ly my (inH _ hy) oky with e | e
        · subst e; exact absurd rfl hyh
        · exact e
      rcases kle_of oky ok (hym _ hm) with e | e
      · subst e; exact hyh rfl
      · exact klt_irrefl _ (klt_trans a e)
  have split : ∀ l m, itOf l m ∈ H → LsOk l → (l = ls ∧ m ∈ ms) ∨ (itOf l m ∈ H' ∧ klt ls l) := fun l m h okl => by
    rcases List.mem_append.mp (pm.mem_iff.mp h) with q | q
    · obtain ⟨m', hm', e⟩ := List.mem_map.mp q
      obtain ⟨rfl, rfl⟩ := itOf_inj ok okl e
      exact .inl ⟨rfl, hm'⟩
    · refine .inr ⟨q, ?_⟩
      rcases low l m h okl with e | e
      · subst e; exact absurd q (off m)
      · exact e
  have hmb : ∀ m ∈ ms, 0 ≤ m ∧ m < 65536 := fun m hm => by
    obtain ⟨l', m', e, okl, h⟩ := I.good _ (inG m hm)
    rw [(itOf_inj ok okl e).2]; exact h
  obtain ⟨hJb, hJk⟩ := andAll_bt ms hms hmb
  rw [← hJ] at hJb hJk
  have h1 := ok.1
  have htl : goesOn ls = true → klt ls ls.tail := fun _ => .inl (by simp; omega)
  have hmsl : 1 ≤ ms.length := List.length_pos_iff.mpr hms
  have hlenH : H.length = ms.length + H'.length := by have := pm.length_eq; simpa using this
  have hmuH : mu H = ms.length * ls.length + mu H' := by rw [mu_perm pm, mu_app, mu_grp]
  have hge : ls.length ≤ ms.length * ls.length := Nat.le_mul_of_pos_left _ hmsl
  have hmuN : mu (if goesOn ls then H' ++ [itOf ls.tail J] else H') + 1 ≤ mu H := by
    split
    · rw [mu_app, hmuH]
      have : mu [itOf ls.tail J] = ls.length - 1 := by simp [mu, itOf]
      omega
    · omega
  have newm : ∀ l m, itOf l m ∈ (if goesOn ls then H' ++ [itOf ls.tail J] else H') → LsOk l → itOf l m ∈ H' ∨ (goesOn ls = true ∧ l = ls.tail ∧ m = J) := fun l m h okl => by
    split at h
    · rename_i hg
      rcases List.mem_append.mp h with q | q
      · exact .inl q
      · have := itOf_inj okl (ok.tail hg) (List.mem_singleton.mp q)
        exact .inr ⟨hg, this.1, this.2⟩
    · exact .inl h
  have newH : ∀ u ∈ H', u ∈ (if goesOn ls then H' ++ [itOf ls.tail J] else H') := fun u hu => by
    split
    · exact List.mem_append_left _ hu
    · exact hu
  have newJ : goesOn ls = true → itOf ls.tail J ∈ (if goesOn ls then H' ++ [itOf ls.tail J] else H') := fun hg => by
    rw [if_pos hg]; simp
  obtain ⟨tl, rfl, tp, tm, te⟩ := I.names
  have hnt : ls ∉ tl := fun q => klt_irrefl _ ((tm ls q).2.2 ls m0 hmem ok)
  have hsg : fmodeP J = sgn rows ls := by
    rw [fmode_text hJb.1]
    unfold sgn signsP
    refine textP_congr (fun k _ => ?_)
    have a := bitP_AB (fun r hr => (hok r hr).1) ok k
    have b := (te ls ok hnt).2 k
    have c : AB H ls k ↔ bt J k = true := by
      rw [hJk, List.all_eq_true]
      constructor
      · intro h m hm; exact h ls m (inG m hm) ok (chain_self ok)
      · intro h l m hlm okl hc
        rcases split l m hlm okl with ⟨rfl, hm⟩ | ⟨_, q⟩
        · exact h m hm
        · have := chain_ok _ (Nat.le_refl _) okl hc
          rcases q with q | ⟨q, q'⟩
          · omega
          · rw [this.2.2 q, slt_irrefl] at q'; cases q'
    unfold bitP
    cases hb : bt J k with
    | true => rw [if_pos (a.mpr (b.mp (c.mpr hb)))]; rfl
    | false => rw [if_neg (fun q => by rw [c.mp (b.mpr (a.mp q))] at hb; cases hb)]; rfl
  refine ⟨⟨fun x hx => ?_, ?_, ?_, tl ++ [ls], by simp [hsg], ?_, fun t ht => ?_, fun t okt hnt' => ?_⟩, by omega⟩
  · split at hx
    · rename_i hg
      rcases List.mem_append.mp hx with q | q
      · exact I.good _ (inH _ q)
      · exact ⟨ls.tail, J, List.mem_singleton.mp q, ok.tail hg, hJb⟩
    · exact I.good _ (inH _ hx)
  · have := I.hlen
    split
    · simp; omega
    · omega
  · have := I.mu
    simp only [List.length_append, List.length_map, List.length_singleton] at *
    omega
  · rw [List.pairwise_append]
    refine ⟨tp, List.pairwise_singleton .., fun a ha b hb => ?_⟩
    rw [List.mem_singleton.mp hb]
    exact (tm a ha).2.2 ls m0 hmem ok
  · rcases List.mem_append.mp ht with q | q
    · refine ⟨(tm t q).1, (tm t q).2.1, fun l m h okl => ?_⟩
      rcases newm l m h okl with a | ⟨hg, rfl, _⟩
      · exact (tm t q).2.2 l m (inH _ a) okl
      · exact klt_trans ((tm t q).2.2 ls m0 hmem ok) (htl hg)
    · rw [List.mem_singleton.mp q]
      refine ⟨ok, ((te ls ok hnt).1).mp ⟨ls, m0, hmem, ok, chain_self ok⟩, fun l m h okl => ?_⟩
      rcases newm l m h okl with a | ⟨hg, rfl, _⟩
      · rcases split l m (inH _ a) okl with ⟨e, _⟩ | ⟨_, e⟩
        · subst e; exact absurd a (off m)
        · exact e
      · exact htl hg
  · simp only [List.mem_append, List.mem_singleton, not_or] at hnt'
    have old := te t okt hnt'.1
    rw [← old.1]
    have up : t ∈ chain ls ↔ goesOn ls = true ∧ t ∈ chain ls.tail := by
      rw [chain_mem ok]
      exact ⟨fun h => h.resolve_left hnt'.2, .inr⟩
    refine ⟨⟨?_, ?_⟩, fun k => ?_⟩
    · rintro ⟨l, m, h, okl, hc⟩
      rcases newm l m h okl with a | ⟨hg, rfl, _⟩
      · exact ⟨l, m, inH _ a, okl, hc⟩
      · exact ⟨ls, m0, hmem, ok, up.mpr ⟨hg, hc⟩⟩
    · rintro ⟨l, m, h, okl, hc⟩
      rcases split l m h okl with ⟨rfl, _⟩ | ⟨a, _⟩
      · have := up.mp hc
        exact ⟨l.tail, J, newJ this.1, ok.tail this.1, this.2⟩
      · exact ⟨l, m, newH _ a, okl, hc⟩
    · rw [← old.2 k]
      constructor
      · intro h l m hlm okl hc
        rcases split l m hlm okl with ⟨rfl, hm⟩ | ⟨a, _⟩
        · have := up.mp hc
          have hj := h l.tail J (newJ this.1) (ok.tail this.1) this.2
          rw [hJk, List.all_eq_true] at hj
          exact hj m hm
        · exact h l m (newH _ a) okl hc
      · intro h l m hlm okl hc
        rcases newm l m hlm okl with a | ⟨hg, rfl, rfl⟩
        · exact h l m (inH _ a) okl hc
        · rw [hJk, List.all_eq_true]
          intro m' hm'
          exact h ls m' (inG m' hm') ok (up.mpr ⟨hg, hc⟩)

theorem rowsP_ok (ns : List Int) : ∀ r ∈ rowsP ns, LsOk r.1 ∧ 0 ≤ r.2 ∧ r.2 < 65536 := by
  intro r hr
  rcases List.mem_append.mp hr with h | h
  · have : ∀ r ∈ rows3, LsOk r.1 ∧ 0 ≤ r.2 ∧ r.2 < 65536 := by
      intro r h
      simp only [rows3, List.mem_cons, List.not_mem_nil, or_false] at h
      rcases h with rfl | rfl | rfl <;> exact ⟨⟨by decide, by decide, by decide⟩, by decide, by decide⟩
    exact this r h
  · obtain ⟨x, _, rfl⟩ := List.mem_map.mp h
    have := fmod_bounds (x * 40503 + 16877) (k := 65536) (by omega)
    exact ⟨labelsOf_ok x, this.1, this.2⟩
theorem loopLaw (ns : List Int) : LoopLaw (rowsP ns) (Inv (rowsP ns)) where
  good := fun I => I.good
  len := fun {H told} I => by
    have hl : (rowsP ns).length ≤ 11 := by simp [rowsP, rows3]; omega
    have := I.hlen
    have := I.mu
    omega
  init := inv_init (rowsP_ok ns)
  step := fun I ok h1 h2 h3 h4 => inv_step (rowsP_ok ns) I ok h1 h2 h3 h4
  fin := fun I ys pm hs => inv_fin (rowsP_ok ns) I ys pm hs
end Mine
end
section
open PySem PySem.W PySem.Calls PyProof.Rows
set_option maxRecDepth 100000
set_option maxHeartbeats 8000000
set_option linter.unusedVariables false
namespace Mine
theorem g_law (P : Params) : nsFind (gEntries P) "law" = some (.ref 156) := by rfl
theorem ints_len {vs : List Value} {ns : List Int} (h : IntsAre vs ns) : vs.length = ns.length := by
  induction h with
  | nil => rfl
  | cons n t _ ih => simp [ih]
theorem goodWG_true {c : ClaimW} {cl : Str → Option Addr} {mean : ExcName → Option Value} {args : List WData} {s₁ : Shared} {h' : Heap} {t' : Nat} (hg : s₁.gens = #[]) (k : Sub s₁.heap h') (hn : ∀ cls, c.raises args cls = false) (hp : c.post args (.bool true) args = true) :
    GoodWG c cl mean args s₁ (.ok (.ret (.bool true))) (St s₁ h' t') :=
  GoodW.toG ⟨.inl ⟨.bool true, .bool true, [], rfl, hn, .bool true, hp, unshared_nil⟩, k, rfl, hg⟩
theorem callerOk : Aok callerA 5 := ⟨rfl, by decide, by decide⟩
end Mine
theorem PySem.Challenge.cw_op0096_01_holds : PySem.Challenge.rw_op0096_01.Holds :=
  Mine.hd (by
    k_fill
    intro w s₀ s₁ mg mb G Y fa o pm cd doc dV kV ho hd hcd hD hmg hg args vals as hpre hlay hrd hwl hlo
    clear hd hcd hD
    have KX := kIn_of Y
    refine Ground.open G ?_
    intro T B D TE TW
    have C : Mine.Cx w mg mb s₁.heap := ⟨KX, T.g, T.b, T.builtins, T.nolimit⟩
    have hfa : some (Value.ref 156) = some (Value.ref fa) := (Mine.g_law w.params).symm.trans ((C.mgEq "law").symm.trans hmg)
    cases hfa
    clear hmg B D TE TW G Y
    wrow_args hpre hlay hrd hwl hlo
    rename_i hL _ _ _ hI _ hc _
    have hlen := Mine.ints_len hI
    refine Mine.law_ C (Mine.Sub.refl _) Mine.callerOk hL hI (by omega) (Mine.loopLaw _) fun h' t' k => ?_
    refine Mine.goodWG_true hg k ?_ ?_
    · intro cls
      rfl
    · wrow_post)
end
