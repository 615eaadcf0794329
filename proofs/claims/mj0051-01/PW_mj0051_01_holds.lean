import PyProof.Rows.All
import Wide.All
import OpenK.AllK
import Wide.FinOn
import Lean
import PySem.Challenge.RW_mj0051_01
set_option Elab.async false
set_option maxRecDepth 100000

section
open PySem PySem.W PyProof.Rows
namespace Mj

/-- the program -/
abbrev PG : Program := PySem.Challenge.pw_mj0051_01
/-- statement i of the text -/
def stAt (i : Nat) : Stmt := PG.main.body.getD i (.Pass default)
def parOf : Stmt → Arguments
  | .FunctionDef _ a _ _ _ _ _ _ _ _ => a
  | _ => ⟨[], [], none, [], [], none, []⟩
def bodOf : Stmt → List Stmt
  | .FunctionDef _ _ b _ _ _ _ _ _ _ => b
  | _ => []
def scpOf : Stmt → Scope
  | .FunctionDef _ _ _ _ _ _ s _ _ _ => s
  | _ => default

/-- all that stands in h, but the addresses of X, stands in h' -/
def KeepBut (X : List Addr) (h h' : Heap) : Prop := ∀ b o, b ∉ X → h.get? b = some o → h'.get? b = some o

/-- the base heap holds the function of statement i at address a under its name -/
def FnAt (hg : Heap) (mg : Str → Option Value) (i : Nat) (name : Str) (a : Addr) : Prop :=
  mg name = some (.ref a) ∧ ∃ o pm cd, hg.get? a = some o ∧ o.data = .func (Calls.docDef name (parOf (stAt i)) (bodOf (stAt i)) (scpOf (stAt i)) pm cd .none) ∧ hg.CodeRec cd name

def stagesEs (w : World) : Array DictEntry :=
  #[{ hash := PyData.keyHash w.params (Str.ofString "dev"), key := .str (Str.ofString "dev") 331, val := .int 10 332 },
    { hash := PyData.keyHash w.params (Str.ofString "alpha"), key := .str (Str.ofString "alpha") 333, val := .int 20 334 },
    { hash := PyData.keyHash w.params (Str.ofString "a"), key := .str (Str.ofString "a") 335, val := .int 20 336 },
    { hash := PyData.keyHash w.params (Str.ofString "beta"), key := .str (Str.ofString "beta") 337, val := .int 30 338 },
    { hash := PyData.keyHash w.params (Str.ofString "b"), key := .str (Str.ofString "b") 339, val := .int 30 340 },
    { hash := PyData.keyHash w.params (Str.ofString "c"), key := .str (Str.ofString "c") 341, val := .int 40 342 },
    { hash := PyData.keyHash w.params (Str.ofString "RC"), key := .str (Str.ofString "RC") 343, val := .int 50 344 },
    { hash := PyData.keyHash w.params (Str.ofString "rc"), key := .str (Str.ofString "rc") 345, val := .int 50 346 },
    { hash := PyData.keyHash w.params (Str.ofString "pl"), key := .str (Str.ofString "pl") 347, val := .int 200 348 },
    { hash := PyData.keyHash w.params (Str.ofString "p"), key := .str (Str.ofString "p") 349, val := .int 200 350 }]
def CODE : Array Nat := #[14, 4, 0, 1, 4294967295, 17, 0, 7, 14, 24, 10, 1, 4294967295, 13, 5, 22, 48, 57, 0, 1, 15, 17, 15, 13, 11, 9, 0, 26624, 2147483648, 0, 0, 0, 0, 0, 0, 15, 2, 0, 17, 1, 1]

structure Tp (w : World) (hg : Heap) (mg mb : Str → Option Value) : Prop where
  g : hg.Ns mainGlobals mg
  b : hg.Ns builtinsNs mb
  nolimit : hg.NoLimit
  nodigits : ∃ mc, hg.Ns cStatics mc ∧ mc "sys.int_max_str_digits" = none
  builtins : ∀ x : Str, x ≠ "__name__" → mb x = bootBuiltins x
  hVer : FnAt hg mg 4 "_comparable_version" 44
  hSplit : FnAt hg mg 6 "_split_list" 51
  hCodes : FnAt hg mg 8 "_law_codes" 58
  hEntry : FnAt hg mg 9 "_law_entry" 65
  hParted : FnAt hg mg 10 "_law_parted" 72
  hIns : FnAt hg mg 11 "_law_inserted" 79
  partedC : ∃ o pm, hg.get? 72 = some o ∧ o.data = .func (Calls.docDef "_law_parted" (parOf (stAt 10)) (bodOf (stAt 10)) (scpOf (stAt 10)) pm (.ref 71) .none) ∧ hg.CodeRec (.ref 71) "_law_parted"
  codeHd : CodeHd hg 71 67
  bmain : ∃ bm ob, mg "__builtins__" = some (.ref bm) ∧ bm ≠ builtinsNs ∧ hg.get? bm = some ob ∧ ob.cls = .type "module" ∧ ob.dict = some builtinsNs ∧ ob.data = .plain
  gPat : mg "_twin_re_1" = some (.ref 36)
  gStages : mg "_ver_stages" = some (.ref 37)
  pat : ∃ v0 v1, hg.get? 36 = some { cls := .type "re.Pattern", data := .fields #[v0, v1, .int 1 0, .none, .none, .ref 35, .int 0 0] }
  code : ∃ xs, hg.get? 35 = some { cls := .type "tuple", data := .seq xs } ∧ (xs.map Builtin.Re.reRawOf).map (·.toNat) = CODE
  stages : hg.get? 37 = some { cls := .type "dict", data := .dict (stagesEs w) 10 }
  nLen : mg "len" = none
  nStr : mg "str" = none
  nInt : mg "int" = none
  nRange : mg "range" = none
  nVE : mg "ValueError" = none

end Mj
end

section
open PySem PySem.W PyProof.Rows
namespace Mj

theorem KeepBut.refl (X : List Addr) (h : Heap) : KeepBut X h h := fun _ _ _ e => e
theorem KeepBut.trans {X : List Addr} {h₁ h₂ h₃ : Heap} (x : KeepBut X h₁ h₂) (y : KeepBut X h₂ h₃) : KeepBut X h₁ h₃ := fun b o hb e => y b o hb (x b o hb e)
theorem KeepBut.mono {X Y : List Addr} {h h' : Heap} (x : KeepBut X h h') (hs : ∀ a ∈ X, a ∈ Y) : KeepBut Y h h' := fun b o hb e => x b o (fun q => hb (hs _ q)) e

/-- where a called def stands: base heap, frame, its names, its own mutable objects, the facts that stay -/
structure Sit (X : List Addr) (h₀ : Heap) (L : Addr) (m : Str → Option Value) (own : List (Addr × Obj)) (fz : Addr → Obj → Prop) (h : Heap) : Prop where
  F : Fr h₀ L h m
  hid : ∀ a ∈ X, h₀.get? a = none ∧ a < h₀.objs.size
  os : ∀ p ∈ own, h.get? p.1 = some p.2 ∧ p.1 ≠ L ∧ h₀.get? p.1 = none ∧ p.1 ∉ X
  nd : (own.map (·.1)).Nodup
  kz : ∀ a o, fz a o → h.get? a = some o ∧ a ≠ L ∧ a ∉ X ∧ ∀ p ∈ own, p.1 ≠ a

variable {X : List Addr} {h₀ h h' : Heap} {L : Addr} {m m' : Str → Option Value} {own : List (Addr × Obj)} {fz fz' : Addr → Obj → Prop}

theorem Sit.lt (S : Sit X h₀ L m own fz h) : L < h.objs.size := S.F.ns.lt
theorem Sit.size (S : Sit X h₀ L m own fz h) : h₀.objs.size ≤ h.objs.size := Nat.le_of_lt (Nat.lt_of_le_of_lt S.F.above S.lt)

/-- a store into the frame -/
theorem Sit.set (S : Sit X h₀ L m own fz h) (hn : h'.Ns L m') (hs : Heap.SameBut L h h') : Sit X h₀ L m' own fz h' where
  F := S.F.set hn hs
  hid := S.hid
  os := fun p hp => ⟨hs.extBut _ _ (S.os p hp).2.1 (S.os p hp).1, (S.os p hp).2⟩
  nd := S.nd
  kz := fun a o q => ⟨hs.extBut _ _ (S.kz a o q).2.1 (S.kz a o q).1, (S.kz a o q).2⟩

/-- a new object -/
theorem Sit.push (S : Sit X h₀ L m own fz h) (o : Obj) (hfree : o.isFreed = false := by rfl) : Sit X h₀ L m ((h.objs.size, o) :: own) fz (h.push o) where
  F := S.F.push o
  hid := S.hid
  os := fun p hp => by
    rcases List.mem_cons.mp hp with rfl | hp
    · exact ⟨Heap.get?_push_size _ hfree, Nat.ne_of_gt S.lt, Heap.get?_none_of_le S.size, fun q => absurd (S.hid _ q).2 (Nat.not_lt.mpr S.size)⟩
    · exact ⟨Heap.get?_push_of_some _ (S.os p hp).1, (S.os p hp).2⟩
  nd := by
    simp only [List.map_cons, List.nodup_cons]
    refine ⟨fun q => ?_, S.nd⟩
    obtain ⟨p, hp, e⟩ := List.mem_map.mp q
    have := Heap.lt_size (S.os p hp).1
    rw [e] at this
    exact Nat.lt_irrefl _ this
  kz := fun a o' q => ⟨Heap.get?_push_of_some _ (S.kz a o' q).1, (S.kz a o' q).2.1, (S.kz a o' q).2.2.1, fun p hp => by
    rcases List.mem_cons.mp hp with rfl | hp
    · exact Nat.ne_of_gt (Heap.lt_size (S.kz a o' q).1)
    · exact (S.kz a o' q).2.2.2 p hp⟩

def fzAdd (fz : Addr → Obj → Prop) (a : Addr) (o : Obj) : Addr → Obj → Prop := fun b o' => fz b o' ∨ (b = a ∧ o' = o)

/-- an own object stays as it is from now on -/
theorem Sit.freeze {a : Addr} {o : Obj} (S : Sit X h₀ L m ((a, o) :: own) fz h) : Sit X h₀ L m own (fzAdd fz a o) h where
  F := S.F
  hid := S.hid
  os := fun p hp => S.os p (List.mem_cons_of_mem _ hp)
  nd := (List.nodup_cons.mp S.nd).2
  kz := fun b o' q => by
    rcases q with q | ⟨rfl, rfl⟩
    · exact ⟨(S.kz b o' q).1, (S.kz b o' q).2.1, (S.kz b o' q).2.2.1, fun p hp => (S.kz b o' q).2.2.2 p (List.mem_cons_of_mem _ hp)⟩
    · have z := S.os _ (.head _)
      refine ⟨z.1, z.2.1, z.2.2.2, fun p hp e => ?_⟩
      · exact (List.nodup_cons.mp S.nd).1 (List.mem_map.mpr ⟨p, hp, e⟩)

theorem Sit.drop {p : Addr × Obj} (S : Sit X h₀ L m (p :: own) fz h) : Sit X h₀ L m own fz h where
  F := S.F
  hid := S.hid
  os := fun p hp => S.os p (List.mem_cons_of_mem _ hp)
  nd := (List.nodup_cons.mp S.nd).2
  kz := fun b o' q => ⟨(S.kz b o' q).1, (S.kz b o' q).2.1, (S.kz b o' q).2.2.1, fun p hp => (S.kz b o' q).2.2.2 p (List.mem_cons_of_mem _ hp)⟩

/-- the first own object is changed -/
theorem Sit.upd {a : Addr} {o o' : Obj} (S : Sit X h₀ L m ((a, o) :: own) fz h) (hs : Heap.ExtBut a h h') (e : h'.get? a = some o') : Sit X h₀ L m ((a, o') :: own) fz h' := by
  have z := S.os _ (.head _)
  refine ⟨⟨S.F.ns.at' fun o e => hs _ _ (Ne.symm z.2.1) e, fun b o e => hs _ _ (fun q => ?_) (S.F.keep b o e), S.F.above⟩, S.hid, fun p hp => ?_, S.nd, fun b o' q => ?_⟩
  · rw [q, z.2.2.1] at e; cases e
  · rcases List.mem_cons.mp hp with rfl | hp
    · exact ⟨e, z.2⟩
    · have y := S.os p (List.mem_cons_of_mem _ hp)
      exact ⟨hs _ _ (fun q => (List.nodup_cons.mp S.nd).1 (List.mem_map.mpr ⟨p, hp, q⟩)) y.1, y.2⟩
  · have y := S.kz b o' q
    refine ⟨hs _ _ (fun q => y.2.2.2 _ (.head _) q.symm) y.1, y.2.1, y.2.2.1, fun p hp => ?_⟩
    rcases List.mem_cons.mp hp with rfl | hp
    · exact y.2.2.2 (a, o) (.head _)
    · exact y.2.2.2 p (List.mem_cons_of_mem _ hp)

theorem Sit.swap {p q : Addr × Obj} (S : Sit X h₀ L m (p :: q :: own) fz h) : Sit X h₀ L m (q :: p :: own) fz h where
  F := S.F
  hid := S.hid
  os := fun x hx => S.os x (by simp only [List.mem_cons] at hx ⊢; rcases hx with h | h | h <;> simp [h])
  nd := by
    have := S.nd
    simp only [List.map_cons, List.nodup_cons, List.mem_cons, not_or] at this ⊢
    exact ⟨⟨fun e => this.1.1 e.symm, this.2.1⟩, this.1.2, this.2.2⟩
  kz := fun b o' y => ⟨(S.kz b o' y).1, (S.kz b o' y).2.1, (S.kz b o' y).2.2.1, fun x hx => (S.kz b o' y).2.2.2 x (by simp only [List.mem_cons] at hx ⊢; rcases hx with h | h | h <;> simp [h])⟩

theorem Sit.rot {p q r : Addr × Obj} (S : Sit X h₀ L m (p :: q :: r :: own) fz h) : Sit X h₀ L m (r :: p :: q :: own) fz h where
  F := S.F
  hid := S.hid
  os := fun x hx => S.os x (by simp only [List.mem_cons] at hx ⊢; rcases hx with h | h | h | h <;> simp [h])
  nd := by
    have := S.nd
    simp only [List.map_cons, List.nodup_cons, List.mem_cons, not_or] at this ⊢
    exact ⟨⟨fun e => this.1.2.1 e.symm, fun e => this.2.1.1 e.symm, this.2.2.1⟩, ⟨this.1.1, this.1.2.2⟩, this.2.1.2, this.2.2.2⟩
  kz := fun b o' y => ⟨(S.kz b o' y).1, (S.kz b o' y).2.1, (S.kz b o' y).2.2.1, fun x hx => (S.kz b o' y).2.2.2 x (by simp only [List.mem_cons] at hx ⊢; rcases hx with h | h | h | h <;> simp [h])⟩

/-- what a call has made anew -/
def fzCall (fz : Addr → Obj → Prop) (h h' : Heap) : Addr → Obj → Prop := fun b o => fz b o ∨ (h'.get? b = some o ∧ h.objs.size ≤ b)

/-- behind a call that keeps all but X -/
theorem Sit.call (S : Sit X h₀ L m own fz h) (hk : KeepBut X h h') : Sit X h₀ L m own (fzCall fz h h') h' := by
  have neX : ∀ b : Addr, h₀.objs.size ≤ b → b ∉ X := fun b hb q => absurd (S.hid _ q).2 (Nat.not_lt.mpr hb)
  have hL : L ∉ X := neX L S.F.above
  refine ⟨⟨S.F.ns.at' fun o e => hk _ _ hL e, fun b o e => hk _ _ (fun q => ?_) (S.F.keep b o e), S.F.above⟩, S.hid, fun p hp => ?_, S.nd, fun b o q => ?_⟩
  · rw [(S.hid _ q).1] at e; cases e
  · have y := S.os p hp
    exact ⟨hk _ _ y.2.2.2 y.1, y.2⟩
  · rcases q with q | ⟨q, hb⟩
    · have y := S.kz b o q
      exact ⟨hk _ _ y.2.2.1 y.1, y.2⟩
    · refine ⟨q, Nat.ne_of_gt (Nat.lt_of_lt_of_le S.lt hb), neX _ (Nat.le_trans S.size hb), fun p hp => ?_⟩
      exact Nat.ne_of_lt (Nat.lt_of_lt_of_le (Heap.lt_size (S.os p hp).1) hb)

theorem Sit.weaken (S : Sit X h₀ L m own fz h) (hf : ∀ a o, fz' a o → fz a o) : Sit X h₀ L m own fz' h := ⟨S.F, S.hid, S.os, S.nd, fun a o q => S.kz a o (hf a o q)⟩
theorem Sit.get (S : Sit X h₀ L m own fz h) {a : Addr} {o : Obj} (q : fz a o) : h.get? a = some o := (S.kz a o q).1
theorem Sit.ownGet (S : Sit X h₀ L m own fz h) {a : Addr} {o : Obj} (q : (a, o) ∈ own) : h.get? a = some o := (S.os _ q).1

/-- the base's own facts stay too -/
theorem Sit.base (S : Sit X h₀ L m own fz h) : Sit X h₀ L m own (fun a o => fz a o ∨ h₀.get? a = some o) h := ⟨S.F, S.hid, S.os, S.nd, fun a o q => by
  rcases q with q | q
  · exact S.kz a o q
  · have l := Heap.lt_size q
    refine ⟨S.F.keep _ _ q, Nat.ne_of_lt (Nat.lt_of_lt_of_le l S.F.above), fun e => ?_, fun p hp => ?_⟩
    · rw [(S.hid _ e).1] at q; cases q
    · intro e'
      rw [← e', (S.os p hp).2.2.1] at q; cases q⟩

/-- the heap behind the def's end keeps the caller's heap h₁, if the base is h₁ without X -/
theorem Sit.keepX {h₁ : Heap} (S : Sit X h₀ L m own fz h) (hb : h₀ = hideAll h₁ X) : KeepBut X h₁ h := fun b o q e => S.F.keep b o (by rw [hb]; exact hideAll_get _ e q)

/-- a heap holds all of the base -/
abbrev Bs (hg h : Heap) : Prop := ∀ b o, hg.get? b = some o → h.get? b = some o
theorem Bs.hide {hg h : Heap} (B : Bs hg h) (hn : ∀ a ∈ X, hg.get? a = none) : Bs hg (hideAll h X) := fun b o e => hideAll_get _ (B b o e) fun q => by rw [hn _ q] at e; cases e

/-- what a call leaves: the state with a new heap and count of tokens, all but X kept -/
def Stp (X : List Addr) (s s' : Shared) : Prop := ∃ h' tk, s' = { s with heap := h', toks := tk } ∧ KeepBut X s.heap h'

section
variable {w : World} {mg mb : Str → Option Value} {hg : Heap} {A : Around} {E : Value → Shared → Prop} {s : Shared}

/-- a call of one of the text's defs without cells -/
theorem callFn {i : Nat} {name : Str} {a : Addr} {args : List Value} {binds : List (Str × Value)} {Q : Value → Shared → Prop}
    (T : Tp w hg mg mb) (fn : FnAt hg mg i name a) (B : Bs hg s.heap) (hX : ∀ a ∈ X, hg.get? a = none ∧ a < s.heap.objs.size) (hroom : A.depth < recursionLimit)
    (hbind : ∀ pm cd, bindArgs (Calls.docDef name (parOf (stAt i)) (bodOf (stAt i)) (scpOf (stAt i)) pm cd .none) ⟨args, []⟩ = pure binds)
    (hloc : ∀ x ∈ binds, (scpOf (stAt i)).names.lookup x.1 = some .local)
    (hco : (scpOf (stAt i)).isCoroutine = false) (hgen : (scpOf (stAt i)).isGenerator = false) (hk : (scpOf (stAt i)).kind = .function)
    (hcell : ∀ x ∈ (scpOf (stAt i)).names, x.2 ≠ .cell)
    (h : ∀ cd h₁ tk, Bs hg (hideAll s.heap X) → Sit X (hideAll s.heap X) s.heap.objs.size (fun x => binds.reverse.lookup x) [] (fun _ _ => False) h₁ →
      wpAny (model PG w) (A.deeper (envOf name (scpOf (stAt i)) s.heap.objs.size a cd)) (execs (bodOf (stAt i)) (envOf name (scpOf (stAt i)) s.heap.objs.size a cd))
        (fun f s' => Q (match f with | .ret v => v | _ => .none) s') (fun _ _ => False) { s with heap := h₁, toks := tk }) :
    wpAny (model PG w) A (PySem.call (.ref a) args) Q E s := by
  obtain ⟨_, o, pm, cd, ho, hd, hc⟩ := fn
  have BX := B.hide (X := X) fun a ha => (hX a ha).1
  refine wpAny_call (call_plain_ret hroom (B _ _ ho) hd (T.nolimit.keeps B) (hc.keeps B) (hbind pm cd) hloc (fun h₁ F => ?_) hco hgen hk hcell)
  refine wpAny_mono (h cd h₁ _ BX ⟨⟨F.ns, fun b o e => F.keep b o (of_hideAll _ e), ?_⟩, fun a ha => ⟨hideAll_none _ ha, ?_⟩, (fun _ q => nomatch q), List.nodup_nil, (fun _ _ q => q.elim)⟩) (fun f s' q => ?_) fun _ _ q => q
  · exact Nat.le_trans (Nat.le_of_eq (hideAll_size _ _)) F.above
  · rw [hideAll_size]; exact (hX a ha).2
  · exact q
end
end Mj
end

section
open PySem PySem.W PyProof.Rows
namespace Mj
/-- s₀ with another heap and another count of tokens -/
def St (s₀ : Shared) (h : Heap) (tk : Nat) : Shared := ⟨h, s₀.gens, s₀.drawn, tk, s₀.os⟩
theorem St.of (s : Shared) : s = St s s.heap s.toks := rfl

abbrev lstO (vs : List Value) (n : Nat) : Obj := { cls := .type "list", data := .seq vs.toArray n }
abbrev tupO (vs : List Value) : Obj := { cls := .type "tuple", data := .seq vs.toArray 0 }

section
variable {X : List Addr} {h₀ h h' : Heap} {L : Addr} {m m' : Str → Option Value} {own : List (Addr × Obj)} {fz fz' : Addr → Obj → Prop}
variable {w : World} {mg mb : Str → Option Value} {hg : Heap} {A : Around} {E : Value → Shared → Prop} {s₀ : Shared} {tk : Nat} {name : Str} {scope : Scope} {a : Addr} {cd : Value} {env : Env}
variable {Q : Value → Shared → Prop}

theorem eInt {i : Int} {k : Nat} {pos : Pos} (q : ∀ t tk', Q (.int i t) (St s₀ h tk')) : wpAny (model PG w) A (eval (.Constant (.int i) k pos) env) Q E (St s₀ h tk) := wpAny_Constant_int (q _ _)
theorem eStr {x : Str} {k : Nat} {pos : Pos} (q : ∀ t tk', Q (.str x t) (St s₀ h tk')) : wpAny (model PG w) A (eval (.Constant (.str x) k pos) env) Q E (St s₀ h tk) := Calls.Constant_str (q _ _)
theorem eLoc {x : Str} {pos : Pos} {v : Value} (S : Sit X h₀ L m own fz h) (hv : m x = some v) (q : Q v (St s₀ h tk))
    (hk : scope.kind = .function := by rfl) (hl : (envOf name scope L a cd).kindOf x = some .local := by rfl) (hd : (x == ("__debug__" : Str)) = false := by decide) :
    wpAny (model PG w) A (eval (.Name x pos) (envOf name scope L a cd)) Q E (St s₀ h tk) := ld S.F hv q hk hl hd
theorem stS {x : Str} {v : Value} {Q : Unit → Shared → Prop} (S : Sit X h₀ L m own fz h)
    (q : ∀ h' tk', Sit X h₀ L (fun y => if y = x then some v else m y) own fz h' → Q () (St s₀ h' tk'))
    (hk : scope.kind = .function := by rfl) (hl : (envOf name scope L a cd).kindOf x = some .local := by rfl) :
    wpAny (model PG w) A (storeName (envOf name scope L a cd) x v) Q E (St s₀ h tk) :=
  wpAny_storeName_local hl S.F.ns (fun h' hn hs => q h' _ (S.set hn hs))
    (by show (scope.kind == .class || (scope.kind == .module && L != mainGlobals)) = false; rw [hk]; rfl)

theorem none_at_size (h : Heap) : h.get? h.objs.size = none := by
  cases e : h.get? h.objs.size with
  | none => rfl
  | some o => exact absurd (Heap.lt_size e) (Nat.lt_irrefl _)
theorem newListS {vs : List Value} (S : Sit X h₀ L m own fz h)
    (q : ∀ a h', h.objs.size ≤ a → KeepBut [] h h' → Sit X h₀ L m ((a, lstO vs 0) :: own) fz h' → Q (.ref a) (St s₀ h' tk)) (hsz : vs.length ≤ sizeLine := by size_fits) :
    wpAny (model PG w) A (newList vs) Q E (St s₀ h tk) :=
  wpAny_newObj_type (q h.objs.size _ (Nat.le_refl _) (fun _ _ _ e => Heap.get?_push_of_some _ e) (S.push _)) (by show vs.toArray.size ≤ sizeLine; rw [List.size_toArray]; exact hsz)
theorem newTupS {vs : List Value} (S : Sit X h₀ L m own fz h)
    (q : ∀ a h', h.objs.size ≤ a → KeepBut [] h h' → Sit X h₀ L m ((a, tupO vs) :: own) fz h' → Q (.ref a) (St s₀ h' tk)) (hsz : vs.length ≤ sizeLine := by size_fits) :
    wpAny (model PG w) A (newTuple vs) Q E (St s₀ h tk) :=
  wpAny_newObj_type (q h.objs.size _ (Nat.le_refl _) (fun _ _ _ e => Heap.get?_push_of_some _ e) (S.push _)) (by show vs.toArray.size ≤ sizeLine; rw [List.size_toArray]; exact hsz)

/-- x.append(v), x the first own object -/
theorem appS {D : Addr} {vs : List Value} {n : Nat} {x : Value} (S : Sit X h₀ L m ((D, lstO vs n) :: own) fz h)
    (q : ∀ h', Sit X h₀ L m ((D, lstO (vs ++ [x]) (n + 1)) :: own) fz h' → Q .none (St s₀ h' tk)) (hsz : vs.length ≤ sizeLine := by size_fits) :
    wpAny (model PG w) A (PySem.call (.builtin "list.append") [.ref D, x]) Q E (St s₀ h tk) :=
  append_at (S.ownGet (.head _)) (fun h' hs e => q h' (S.upd hs.extBut (e.trans (by rw [List.push_toArray])))) (by show vs.toArray.size ≤ sizeLine; rw [List.size_toArray]; exact hsz)

theorem plainL_of {D : Addr} {vs : List Value} {n : Nat} (e : h.get? D = some (lstO vs n)) : PlainL h D vs.toArray := ⟨_, n, e, rfl, rfl, rfl⟩

/-- o.append(e) as an expression; o names a list -/
theorem eAppend {o elt : Expr} {apos pos : Pos} {n : Nat} {D : Addr} {vs : List Value} {s : Shared}
    (ho : wpAny (model PG w) A (eval o env) (fun v s₁ => v = .ref D ∧ s₁.heap.get? D = some (lstO vs n) ∧
      wpAny (model PG w) A (eval elt env) (fun y s₂ => wpAny (model PG w) A (PySem.call (.builtin "list.append") [.ref D, y]) Q E s₂) E s₁) E s)
    (hbase : attributeBase o "append" env (eval o env) = eval o env := by rfl)
    (hfew : ((backTo pos (starEach [elt] env)).all (fun x => !x.1) && (backToKw pos (keywordEach [] env)).all (fun x => x.1.isSome)
      && decide (([elt] : List Expr).length + ([] : List Keyword).length + (if ([] : List Keyword).isEmpty then 0 else 1) < 30)) = true := by rfl)
    (hline : (apos.endLine == pos.line) = true := by rfl)
    (htrees : backTo pos (starEach [elt] env) = [(false, eval elt env)] := by rfl) :
    wpAny (model PG w) A (eval (.Call (.Attribute o "append" apos) [elt] [] pos) env) Q E s :=
  wpAny_Call_append hbase hfew hline htrees (wpAny_mono ho (fun v s₁ q => by obtain ⟨rfl, e, r⟩ := q; exact ⟨D, vs.toArray, rfl, plainL_of e, r⟩) fun _ _ q => q)

variable {i j : Int} {t u : Tok}
theorem bAdd (q : ∀ t tk', Q (.int (i + j) t) (St s₀ h tk')) : wpAny (model PG w) A (binaryOp .Add (.int i t) (.int j u)) Q E (St s₀ h tk) := add_int (q _ _)
theorem bSub (q : ∀ t tk', Q (.int (i - j) t) (St s₀ h tk')) : wpAny (model PG w) A (binaryOp .Sub (.int i t) (.int j u)) Q E (St s₀ h tk) := sub_int (q _ _)
theorem bMod (hj : j ≠ 0) (q : ∀ t tk', Q (.int (i.fmod j) t) (St s₀ h tk')) : wpAny (model PG w) A (binaryOp .Mod (.int i t) (.int j u)) Q E (St s₀ h tk) := mod_int hj (q _ _)
theorem bDiv (hj : j ≠ 0) (hp : Builtin.divisionGoesByPylong i j = false) (q : ∀ t tk', Q (.int (i.fdiv j) t) (St s₀ h tk')) : wpAny (model PG w) A (binaryOp .FloorDiv (.int i t) (.int j u)) Q E (St s₀ h tk) := floordiv_int hj (q _ _) (.inl hp)
theorem cLt (q : Q (.bool (decide (i < j))) (St s₀ h tk)) : wpAny (model PG w) A (compareOp .Lt (.int i t) (.int j u)) Q E (St s₀ h tk) := lt_int q
theorem cGt (q : Q (.bool (decide (j < i))) (St s₀ h tk)) : wpAny (model PG w) A (compareOp .Gt (.int i t) (.int j u)) Q E (St s₀ h tk) := gt_int q

/-- an expression statement whose value is None -/
theorem xExpr {e : Expr} {pos : Pos} {Q : Flow → Shared → Prop} {s : Shared} (q : wpAny (model PG w) A (eval e env) (fun v s' => v = .none ∧ Q .next s') E s)
    (hi : interactive env = false := by rfl) (hs : swapsWith e none pos.line env = pure false := by rfl) : wpAny (model PG w) A (exec (.Expr e pos) env) Q E s :=
  wpAny_Expr (wpAny_mono q (fun v s' ⟨e, q⟩ => by subst e; exact q) fun _ _ q => q) hi hs

/-- a call of one of the text's defs without cells -/
theorem callFn' {i : Nat} {name : Str} {a : Addr} {args : List Value} {binds : List (Str × Value)}
    (T : Tp w hg mg mb) (fn : FnAt hg mg i name a) (B : Bs hg h) (hX : ∀ a ∈ X, hg.get? a = none ∧ a < h.objs.size) (hroom : A.depth < recursionLimit)
    (hbind : ∀ pm cd, bindArgs (Calls.docDef name (parOf (stAt i)) (bodOf (stAt i)) (scpOf (stAt i)) pm cd .none) ⟨args, []⟩ = pure binds)
    (hloc : (binds.all fun x => decide ((scpOf (stAt i)).names.lookup x.1 = some .local)) = true)
    (hco : (scpOf (stAt i)).isCoroutine = false) (hgen : (scpOf (stAt i)).isGenerator = false) (hk : (scpOf (stAt i)).kind = .function)
    (hcell : ∀ x ∈ (scpOf (stAt i)).names, x.2 ≠ .cell)
    (q : ∀ cd h₁ tk, Bs hg (hideAll h X) → Sit X (hideAll h X) h.objs.size (fun x => binds.reverse.lookup x) [] (fun _ _ => False) h₁ →
      wpAny (model PG w) (A.deeper (envOf name (scpOf (stAt i)) h.objs.size a cd)) (execs (bodOf (stAt i)) (envOf name (scpOf (stAt i)) h.objs.size a cd))
        (fun f s' => Q (match f with | .ret v => v | _ => .none) s') (fun _ _ => False) (St s₀ h₁ tk)) :
    wpAny (model PG w) A (PySem.call (.ref a) args) Q E (St s₀ h tk) := callFn T fn B hX hroom hbind (locs hloc) hco hgen hk hcell q
end
end Mj
end

section
open PySem PySem.W PyProof.Rows
namespace Mj
section
variable {X : List Addr} {h₀ h h' : Heap} {L : Addr} {m m' : Str → Option Value} {own : List (Addr × Obj)} {fz fz' : Addr → Obj → Prop}

/-- the first own object changes and is not asked any more -/
theorem Sit.lose {p : Addr × Obj} (S : Sit X h₀ L m (p :: own) fz h) (hs : Heap.ExtBut p.1 h h') : Sit X h₀ L m own fz h' := by
  obtain ⟨a, o⟩ := p
  have z := S.os _ (.head _)
  refine ⟨⟨S.F.ns.at' fun o e => hs _ _ (Ne.symm z.2.1) e, fun b o e => hs _ _ (fun q => ?_) (S.F.keep b o e), S.F.above⟩, S.hid, fun p hp => ?_, (List.nodup_cons.mp S.nd).2, fun b o' q => ?_⟩
  · rw [q, z.2.2.1] at e; cases e
  · have y := S.os p (List.mem_cons_of_mem _ hp)
    exact ⟨hs _ _ (fun q => (List.nodup_cons.mp S.nd).1 (List.mem_map.mpr ⟨p, hp, q⟩)) y.1, y.2⟩
  · have y := S.kz b o' q
    exact ⟨hs _ _ (fun q => y.2.2.2 _ (.head _) q.symm) y.1, y.2.1, y.2.2.1, fun p hp => y.2.2.2 p (List.mem_cons_of_mem _ hp)⟩

variable {w : World} {mg mb : Str → Option Value} {hg : Heap} {A : Around} {E : Value → Shared → Prop} {s₀ : Shared} {tk : Nat} {name : Str} {scope : Scope} {a : Addr} {cd : Value} {env : Env}
variable {Q : Value → Shared → Prop}

theorem isList_of {D : Addr} {vs : List Value} {n : Nat} (e : h.get? D = some (lstO vs n)) : h.IsList D vs.toArray := ⟨_, e, rfl, n, rfl⟩
theorem isTup_of {D : Addr} {vs : List Value} (e : h.get? D = some (tupO vs)) : IsTup h D vs.toArray := ⟨_, e, rfl, 0, rfl⟩

/-- for x in l: .. with an invariant over names, own objects, facts -/
theorem forS {x : Str} {px : Pos} {iter : Expr} {body : List Stmt} {pos : Pos} {l : Addr} {vs : List Value} {n : Nat} {Q : Flow → Shared → Prop} {s : Shared}
    (J : Nat → (Str → Option Value) → List (Addr × Obj) → (Addr → Obj → Prop) → Prop) (hh : A.handled = none)
    (hiter : wpAny (model PG w) A (eval iter (envOf name scope L a cd)) (fun v s₁ => ∃ h₁ tk₁ m₁ own₁ fz₁, v = .ref l ∧ s₁ = St s₀ h₁ tk₁ ∧ Sit X h₀ L m₁ own₁ fz₁ h₁ ∧ J 0 m₁ own₁ fz₁) E s)
    (hl : ∀ i m own fz, J i m own fz → fz l (lstO vs n))
    (turn : ∀ i v I o m own fz h tk, vs[i]? = some v → J i m own fz → Sit X h₀ L (fun y => if y = x then some v else m y) ((I, o) :: own) fz h →
      wpAny (model PG w) A (execs body (envOf name scope L a cd)) (fun f s₃ => (f = .next ∨ f = .cont) ∧ ∃ h' tk' m' own' fz', s₃ = St s₀ h' tk' ∧ Sit X h₀ L m' ((I, o) :: own') fz' h' ∧ J (i + 1) m' own' fz') (fun _ _ => False) (St s₀ h tk))
    (done : ∀ m own fz h tk, J vs.length m own fz → Sit X h₀ L m own fz h → Q .next (St s₀ h tk))
    (hk : scope.kind = .function := by rfl) (hx : (envOf name scope L a cd).kindOf x = some .local := by rfl) 
    (hs : ∀ x, foldedSetIterable iter (envOf name scope L a cd) x = pure x := by intro _; rfl) :
    wpAny (model PG w) A (exec (.For (.Name x px) iter body [] pos) (envOf name scope L a cd)) Q E s := by
  refine wpAny_For (wpAny_mono hiter (fun v s₁ q => ?_) fun _ _ q => q) hs
  obtain ⟨h₁, tk₁, m₁, own₁, fz₁, rfl, rfl, S, j⟩ := q
  refine wpAny_pyIter_list (isList_of (S.get (hl _ _ _ _ j))) ?_
  refine codeAny_forLoop (fun k s => ∃ i h tk m own fz o, s = St s₀ h tk ∧ i ≤ vs.length ∧ k = vs.length + 1 - i ∧ Sit X h₀ L m ((h₁.objs.size, o) :: own) fz h ∧ h.IsListIter h₁.objs.size l i ∧ J i m own fz) ?_ (vs.length + 1)
    ⟨0, _, tk₁, m₁, own₁, fz₁, _, rfl, Nat.zero_le _, rfl, S.push _, ⟨_, Heap.get?_push_size _ rfl, rfl, rfl⟩, j⟩
  rintro k _ ⟨i, h, tk, m, own, fz, o, rfl, hi, rfl, S, it, j⟩
  by_cases hlt : i < vs.length
  · refine wpAny_pyNext_list_item it (isList_of (S.get (hl _ _ _ _ j))) (x := vs[i]) (by simp [hlt]) (fun h₂ it₂ hs₂ => ?_)
    obtain ⟨o₂, e₂, r₂⟩ := it₂
    have S₂ := S.upd hs₂.extBut e₂
    refine wpAny_assign_Name (stS (s₀ := s₀) S₂ (fun h₃ tk₃ S₃ => ?_) hk hx)
    refine wpAny_mono (turn i _ _ _ _ _ _ h₃ tk₃ (by simp [hlt]) j S₃) (fun f s₃ q => ?_) fun _ _ q => q.elim
    obtain ⟨hf, h', tk', m', own', fz', rfl, S', j'⟩ := q
    have fin : ∃ m_1, m_1 < vs.length + 1 - i ∧ ∃ i h tk m own fz o, St s₀ h' tk' = St s₀ h tk ∧ i ≤ vs.length ∧ m_1 = vs.length + 1 - i ∧ Sit X h₀ L m ((h₁.objs.size, o) :: own) fz h ∧ h.IsListIter h₁.objs.size l i ∧ J i m own fz :=
      ⟨vs.length + 1 - (i + 1), by omega, i + 1, h', tk', m', own', fz', o₂, rfl, hlt, rfl, S', ⟨o₂, S'.ownGet (.head _), r₂⟩, j'⟩
    rcases hf with rfl | rfl <;> exact fin
  · obtain rfl : i = vs.length := Nat.le_antisymm hi (Nat.not_lt.mp hlt)
    exact wpAny_pyNext_list_end hh it (isList_of (S.get (hl _ _ _ _ j))) (by simp) (fun h₂ hs₂ => wpAny_execs_nil (done _ _ _ h₂ tk j (S.lose hs₂)))

theorem eGlob {x : Str} {pos : Pos} {v : Value} (T : Tp w hg mg mb) (B : Bs hg h₀) (S : Sit X h₀ L m own fz h) (hv : mg x = some v) (q : Q v (St s₀ h tk))
    (hk : scope.kind = .function := by rfl) (hx : (envOf name scope L a cd).kindOf x = some .globalImplicit := by rfl) (hd : (x == ("__debug__" : Str)) = false := by decide) :
    wpAny (model PG w) A (eval (.Name x pos) (envOf name scope L a cd)) Q E (St s₀ h tk) := ld_global_at S.F (T.g.keeps B) hv q hk hx hd
theorem eBi {x : Str} {pos : Pos} {v : Value} (T : Tp w hg mg mb) (B : Bs hg h₀) (S : Sit X h₀ L m own fz h) (hmiss : mg x = none) (hv : bootBuiltins x = some v) (hn : x ≠ "__name__") (q : Q v (St s₀ h tk))
    (hk : scope.kind = .function := by rfl) (hx : (envOf name scope L a cd).kindOf x = some .globalImplicit := by rfl) (hd : (x == ("__debug__" : Str)) = false := by decide) :
    wpAny (model PG w) A (eval (.Name x pos) (envOf name scope L a cd)) Q E (St s₀ h tk) := ld_builtin_at S.F (T.g.keeps B) hmiss (T.b.keeps B) ((T.builtins x hn).trans hv) q hk hx hd

theorem subList {value slice : Expr} {D : Addr} {vs : List Value} {n : Nat} {k : Int} {u : Tok} {x : Value} (e : h.get? D = some (lstO vs n)) (h0 : 0 ≤ k) (hfit : k < 2 ^ 63) (hx : vs[k.toNat]? = some x) (q : Q x (St s₀ h tk))
    (hs : subscripted slice false (.ref D) (.int k u) = operate [.ref D, .int k u] (getItem (.ref D) (.int k u)) := by with_unfolding_all rfl) :
    wpAny (model PG w) A (subscriptTail value slice (.ref D) (.int k u)) Q E (St s₀ h tk) :=
  tail_any (isList_of (h := (St s₀ h tk).heap) e).typeIs slot_list_getitem.lookup (wpAny_getItem_list (isList_of e) h0 hfit (by simpa using hx) q) hs
theorem subTup {value slice : Expr} {D : Addr} {vs : List Value} {k : Nat} {u : Tok} {x : Value} (e : h.get? D = some (tupO vs)) (hx : vs[k]? = some x) (hfit : k < 2 ^ 62) (q : Q x (St s₀ h tk))
    (hs : subscripted slice false (.ref D) (.int k u) = operate [.ref D, .int k u] (getItem (.ref D) (.int k u)) := by with_unfolding_all rfl) :
    wpAny (model PG w) A (subscriptTail value slice (.ref D) (.int k u)) Q E (St s₀ h tk) :=
  item_tupleT (isTup_of e) (by omega) (by omega) (j := k) (by
    have hk : k < vs.length := by
      rcases Nat.lt_or_ge k vs.length with q | q
      · exact q
      · rw [List.getElem?_eq_none q] at hx; cases hx
    unfold seqIndex?
    simp
    omega) hx q hs

variable {x y : Str} {t u : Tok}
theorem cEqStr (q : Q (.bool (x == y)) (St s₀ h tk)) : wpAny (model PG w) A (compareOp .Eq (.str x t) (.str y u)) Q E (St s₀ h tk) := eq_str q
theorem bAddStr (hsz : x.length + y.length ≤ sizeLine) (q : ∀ t tk', Q (.str (x ++ y) t) (St s₀ h tk')) : wpAny (model PG w) A (binaryOp .Add (.str x t) (.str y u)) Q E (St s₀ h tk) := add_str (fun t tk => q t tk) hsz
end
end Mj
end

section
open PySem PySem.W PyProof.Rows
namespace Mj
/-- no starred item -/
def plainE : Expr → Bool
  | .Starred _ _ => false
  | _ => true
theorem starEach_plain {e : Expr} {rest : List Expr} {env : Env} (h : plainE e = true) : starEach (e :: rest) env = (false, eval e env) :: starEach rest env := by
  cases e <;> first | rfl | cases h
/-- no comprehension -/
def noComp : Expr → Bool
  | .ListComp .. => false
  | .SetComp .. => false
  | .DictComp .. => false
  | _ => true
theorem swaps_no {e : Expr} {t : Option Expr} {l : Nat} {env : Env} (h : noComp e = true) : swapsWith e t l env = pure false := by cases e <;> first | rfl | cases h
section
variable {X : List Addr} {h₀ h h' : Heap} {L : Addr} {m m' : Str → Option Value} {own : List (Addr × Obj)} {fz fz' : Addr → Obj → Prop}
variable {w : World} {mg mb : Str → Option Value} {hg : Heap} {A : Around} {E : Value → Shared → Prop} {s₀ s : Shared} {tk : Nat} {name : Str} {scope : Scope} {a : Addr} {cd : Value} {env : Env}
variable {Q : Value → Shared → Prop}

theorem cutNext {st : Stmt} {rest : List Stmt} {Q : Flow → Shared → Prop} (P : Shared → Prop) (h1 : wpAny (model PG w) A (exec st env) (fun f s' => f = .next ∧ P s') E s)
    (h2 : ∀ s', P s' → wpAny (model PG w) A (execs rest env) Q E s') : wpAny (model PG w) A (execs (st :: rest) env) Q E s :=
  wpAny_execs_cons (wpAny_mono h1 (fun f s' q => by obtain ⟨rfl, q⟩ := q; exact h2 s' q) fun _ _ q => q)

theorem splE {e : Expr} {rest : List Expr} {pos : Pos} {Q : List Value → Shared → Prop}
    (q : wpAny (model PG w) A (eval e env) (fun v s₁ => wpAny (model PG w) A (spliced (backTo pos (starEach rest env))) (fun vs s₂ => Q (v :: vs) s₂) E s₁) E s)
    (he : plainE e = true := by with_unfolding_all rfl) : wpAny (model PG w) A (spliced (backTo pos (starEach (e :: rest) env))) Q E s := by
  rw [starEach_plain he]
  exact Calls.spliced_cons q
theorem splN {pos : Pos} {Q : List Value → Shared → Prop} (q : Q [] s) : wpAny (model PG w) A (spliced (backTo pos (starEach [] env))) Q E s := Calls.spliced_nil q

theorem asgS {x : Str} {pos' pos : Pos} {value : Expr} {Q : Flow → Shared → Prop}
    (q : wpAny (model PG w) A (eval value env) (fun v s₁ => wpAny (model PG w) A (storeName env x v) (fun _ => Q .next) E s₁) E s)
    (hs : noComp value = true := by with_unfolding_all rfl) : wpAny (model PG w) A (exec (.Assign [.Name x pos'] value pos) env) Q E s := wpAny_Assign_Name q (swaps_no hs)
theorem exprS {e : Expr} {pos : Pos} {Q : Flow → Shared → Prop} (q : wpAny (model PG w) A (eval e env) (fun v s' => v = .none ∧ Q .next s') E s)
    (hi : interactive env = false := by with_unfolding_all rfl) (hs : noComp e = true := by with_unfolding_all rfl) : wpAny (model PG w) A (exec (.Expr e pos) env) Q E s := xExpr q hi (swaps_no hs)

theorem callNm {x : Str} {np : Pos} {args : List Expr} {pos : Pos}
    (q : wpAny (model PG w) A (eval (.Name x np) env) (fun f s₁ => wpAny (model PG w) A (callWith pos f [] (backTo pos (starEach args env)) []) Q E s₁) E s) :
    wpAny (model PG w) A (eval (.Call (.Name x np) args [] pos) env) Q E s := Call_ q
theorem callTy1 {pos : Pos} {T : String} {e : Expr}
    (q : wpAny (model PG w) A (eval e env) (fun v s₁ => wpAny (model PG w) A (PySem.call (.type T) [v]) Q E s₁) E s) (he : plainE e = true := by with_unfolding_all rfl) :
    wpAny (model PG w) A (callWith pos (.type T) [] (backTo pos (starEach [e] env)) []) Q E s :=
  Pv.callWith_type1 (splE (wpAny_mono q (fun _ _ r => splN r) fun _ _ r => r) he) (starEach_plain he) rfl
theorem callTy2 {pos : Pos} {T : String} {e f : Expr}
    (q : wpAny (model PG w) A (eval e env) (fun v s₁ => wpAny (model PG w) A (eval f env) (fun u s₂ => wpAny (model PG w) A (PySem.call (.type T) [v, u]) Q E s₂) E s₁) E s)
    (he : plainE e = true := by with_unfolding_all rfl) (hf : plainE f = true := by with_unfolding_all rfl) :
    wpAny (model PG w) A (callWith pos (.type T) [] (backTo pos (starEach [e, f] env)) []) Q E s :=
  Pv.callWith_type1 (splE (wpAny_mono q (fun _ _ r => splE (wpAny_mono r (fun _ _ r => splN r) fun _ _ r => r) hf) fun _ _ r => r) he) (starEach_plain he) (by rw [starEach_plain hf]; rfl)
theorem callBi1 {pos : Pos} {T : String} {e : Expr}
    (q : wpAny (model PG w) A (eval e env) (fun v s₁ => wpAny (model PG w) A (PySem.call (.builtin T) [v]) Q E s₁) E s) (he : plainE e = true := by with_unfolding_all rfl) :
    wpAny (model PG w) A (callWith pos (.builtin T) [] (backTo pos (starEach [e] env)) []) Q E s :=
  callWith_builtin1 (splE (wpAny_mono q (fun _ _ r => splN r) fun _ _ r => r) he) (starEach_plain he) rfl
/-- a heap that holds a function at f -/
def HasFn (h : Heap) (f : Addr) : Prop := PySem.W.FnAt f h
theorem HasFn.mk {f : Addr} {o : Obj} {fd : FuncData} (e : h.get? f = some o) (d : o.data = .func fd) : HasFn h f := by
  obtain ⟨c, od, dt, sl⟩ := o
  cases d
  exact ⟨_, _, _, _, e⟩
theorem callRf1 {pos : Pos} {f : Addr} {e : Expr} 
    (q : wpAny (model PG w) A (eval e env) (fun v s₁ => HasFn s₁.heap f ∧ wpAny (model PG w) A (PySem.call (.ref f) [v]) Q E s₁) E s)
    (he : plainE e = true := by with_unfolding_all rfl) : wpAny (model PG w) A (callWith pos (.ref f) [] (backTo pos (starEach [e] env)) []) Q E s :=
  (callWith_of (P := fun h => HasFn h f) (hplain := by rw [starEach_plain he]; rfl) keeps_F (by rw [starEach_plain he]; exact Calls.evalArgs_plain (Calls.spliced_cons (wpAny_mono q (fun _ _ r => splN r) fun _ _ r => r))))
theorem callRf2 {pos : Pos} {f : Addr} {e e' : Expr} 
    (q : wpAny (model PG w) A (eval e env) (fun v s₁ => wpAny (model PG w) A (eval e' env) (fun u s₂ => HasFn s₂.heap f ∧ wpAny (model PG w) A (PySem.call (.ref f) [v, u]) Q E s₂) E s₁) E s)
    (he : plainE e = true := by with_unfolding_all rfl) (he' : plainE e' = true := by with_unfolding_all rfl) : wpAny (model PG w) A (callWith pos (.ref f) [] (backTo pos (starEach [e, e'] env)) []) Q E s :=
  (callWith_of (P := fun h => HasFn h f) (hplain := by rw [starEach_plain he, starEach_plain he']; rfl) keeps_F (by rw [starEach_plain he]; exact Calls.evalArgs_plain (Calls.spliced_cons (wpAny_mono q (fun _ _ r => splE (wpAny_mono r (fun _ _ r => splN r) fun _ _ r => r) he') fun _ _ r => r))))

theorem Sit.hasFn {i : Nat} {name : Str} {a : Addr} (S : Sit X h₀ L m own fz h) (B : Bs hg h₀) (fn : FnAt hg mg i name a) : HasFn h a := by
  obtain ⟨_, o, _, _, e, d, _⟩ := fn
  exact .mk (S.F.keep _ _ (B _ _ e)) d

theorem eLocG {x : Str} {pos : Pos} {v : Value} (S : Sit X h₀ L m own fz h) (hv : m x = some v) (q : Q v (St s₀ h tk))
    (hk : env.scope.kind = .function := by rfl) (hL : env.locals = L := by rfl) (hl : env.kindOf x = some .local := by rfl) (hd : (x == ("__debug__" : Str)) = false := by decide) :
    wpAny (model PG w) A (eval (.Name x pos) env) Q E (St s₀ h tk) := by
  subst hL
  exact wpAny_Name (wpAny_loadName_local hk hl S.F.ns hv q) hd

theorem stG {x : Str} {v : Value} {Q : Unit → Shared → Prop} (S : Sit X h₀ L m own fz h)
    (q : ∀ h' tk', Sit X h₀ L (fun y => if y = x then some v else m y) own fz h' → Q () (St s₀ h' tk'))
    (hk : env.scope.kind = .function := by rfl) (hL : env.locals = L := by rfl) (hl : env.kindOf x = some .local := by rfl) :
    wpAny (model PG w) A (storeName env x v) Q E (St s₀ h tk) := by
  subst hL
  exact wpAny_storeName_local hl S.F.ns (fun h' hn hs => q h' _ (S.set hn hs)) (by rw [hk]; rfl)
theorem eGlobG {x : Str} {pos : Pos} {v : Value} (T : Tp w hg mg mb) (B : Bs hg h₀) (S : Sit X h₀ L m own fz h) (hv : mg x = some v) (q : Q v (St s₀ h tk))
    (hk : env.scope.kind = .function := by rfl) (hG : env.globals = mainGlobals := by rfl) (hx : env.kindOf x = some .globalImplicit := by rfl) (hd : (x == ("__debug__" : Str)) = false := by decide) :
    wpAny (model PG w) A (eval (.Name x pos) env) Q E (St s₀ h tk) :=
  Calls.Name_function_global hk hx (Calls.loadGlobal_global (hG ▸ (T.g.keeps B).keeps S.F.keep) hv q) hd
theorem eBiG {x : Str} {pos : Pos} {v : Value} (T : Tp w hg mg mb) (B : Bs hg h₀) (S : Sit X h₀ L m own fz h) (hmiss : mg x = none) (hv : bootBuiltins x = some v) (hn : x ≠ "__name__") (q : Q v (St s₀ h tk))
    (hk : env.scope.kind = .function := by rfl) (hG : env.globals = mainGlobals := by rfl) (hBn : env.builtins = builtinsNs := by rfl) (hx : env.kindOf x = some .globalImplicit := by rfl) (hd : (x == ("__debug__" : Str)) = false := by decide) :
    wpAny (model PG w) A (eval (.Name x pos) env) Q E (St s₀ h tk) :=
  Calls.Name_function_global hk hx (Calls.loadGlobal_builtin (hG ▸ (T.g.keeps B).keeps S.F.keep) hmiss (hBn ▸ (T.b.keeps B).keeps S.F.keep) ((T.builtins x hn).trans hv) q) hd

/-- for x in l: .. with an invariant over names, own objects, facts -/
theorem forG {x : Str} {px : Pos} {iter : Expr} {body : List Stmt} {pos : Pos} {Q : Flow → Shared → Prop} (hh : A.handled = none)
    (hiter : wpAny (model PG w) A (eval iter env) (fun v s₁ => ∃ (J : Nat → (Str → Option Value) → List (Addr × Obj) → (Addr → Obj → Prop) → Prop) (l : Addr) (vs : List Value) (n : Nat) (h₁ : Heap) (tk₁ : Nat) (m₁ : Str → Option Value) (own₁ : List (Addr × Obj)) (fz₁ : Addr → Obj → Prop),
      v = .ref l ∧ s₁ = St s₀ h₁ tk₁ ∧ Sit X h₀ L m₁ own₁ fz₁ h₁ ∧ J 0 m₁ own₁ fz₁ ∧
      (∀ i m own fz, J i m own fz → fz l (lstO vs n)) ∧
      (∀ i v I o m own fz h tk, vs[i]? = some v → J i m own fz → Sit X h₀ L (fun y => if y = x then some v else m y) ((I, o) :: own) fz h →
        wpAny (model PG w) A (execs body env) (fun f s₃ => (f = .next ∨ f = .cont) ∧ ∃ h' tk' m' own' fz', s₃ = St s₀ h' tk' ∧ Sit X h₀ L m' ((I, o) :: own') fz' h' ∧ J (i + 1) m' own' fz') (fun _ _ => False) (St s₀ h tk)) ∧
      (∀ m own fz h tk, J vs.length m own fz → Sit X h₀ L m own fz h → Q .next (St s₀ h tk))) E s)
    (hk : env.scope.kind = .function := by rfl) (hL : env.locals = L := by rfl) (hx : env.kindOf x = some .local := by rfl)
    (hs : ∀ x, foldedSetIterable iter env x = pure x := by intro _; rfl) :
    wpAny (model PG w) A (exec (.For (.Name x px) iter body [] pos) env) Q E s := by
  refine wpAny_For (wpAny_mono hiter (fun v s₁ q => ?_) fun _ _ q => q) hs
  obtain ⟨J, l, vs, n, h₁, tk₁, m₁, own₁, fz₁, rfl, rfl, S, j, hl, turn, done⟩ := q
  refine wpAny_pyIter_list (isList_of (S.get (hl _ _ _ _ j))) ?_
  refine codeAny_forLoop (fun k s => ∃ i h tk m own fz o, s = St s₀ h tk ∧ i ≤ vs.length ∧ k = vs.length + 1 - i ∧ Sit X h₀ L m ((h₁.objs.size, o) :: own) fz h ∧ h.IsListIter h₁.objs.size l i ∧ J i m own fz) ?_ (vs.length + 1)
    ⟨0, _, tk₁, m₁, own₁, fz₁, _, rfl, Nat.zero_le _, rfl, S.push _, ⟨_, Heap.get?_push_size _ rfl, rfl, rfl⟩, j⟩
  rintro k _ ⟨i, h, tk, m, own, fz, o, rfl, hi, rfl, S, it, j⟩
  by_cases hlt : i < vs.length
  · refine wpAny_pyNext_list_item it (isList_of (S.get (hl _ _ _ _ j))) (x := vs[i]) (by simp [hlt]) (fun h₂ it₂ hs₂ => ?_)
    obtain ⟨o₂, e₂, r₂⟩ := it₂
    have S₂ := S.upd hs₂.extBut e₂
    refine wpAny_assign_Name (stG (s₀ := s₀) S₂ (fun h₃ tk₃ S₃ => ?_) hk hL hx)
    refine wpAny_mono (turn i _ _ _ _ _ _ h₃ tk₃ (by simp [hlt]) j S₃) (fun f s₃ q => ?_) fun _ _ q => q.elim
    obtain ⟨hf, h', tk', m', own', fz', rfl, S', j'⟩ := q
    have fin : ∃ m_1, m_1 < vs.length + 1 - i ∧ ∃ i h tk m own fz o, St s₀ h' tk' = St s₀ h tk ∧ i ≤ vs.length ∧ m_1 = vs.length + 1 - i ∧ Sit X h₀ L m ((h₁.objs.size, o) :: own) fz h ∧ h.IsListIter h₁.objs.size l i ∧ J i m own fz :=
      ⟨vs.length + 1 - (i + 1), by omega, i + 1, h', tk', m', own', fz', o₂, rfl, hlt, rfl, S', ⟨o₂, S'.ownGet (.head _), r₂⟩, j'⟩
    rcases hf with rfl | rfl <;> exact fin
  · obtain rfl : i = vs.length := Nat.le_antisymm hi (Nat.not_lt.mp hlt)
    exact wpAny_pyNext_list_end hh it (isList_of (S.get (hl _ _ _ _ j))) (by simp) (fun h₂ hs₂ => wpAny_execs_nil (done _ _ _ h₂ tk j (S.lose hs₂)))
end
end Mj
end

section
open PySem PySem.W PyProof.Rows
namespace Mj

/-- the codes of a number, one by one -/
def codesGo (n : Nat) : List Int := if h : n = 0 then [] else (((n - 1) % 80 : Nat) : Int) :: codesGo ((n - 1) / 80)
termination_by n
decreasing_by omega
def codesOf (x : Int) : List Int := codesGo (x.fmod 41478481).toNat
theorem codesGo_zero : codesGo 0 = [] := by unfold codesGo; rfl
theorem codesGo_pos {n : Nat} (h : n ≠ 0) : codesGo n = (((n - 1) % 80 : Nat) : Int) :: codesGo ((n - 1) / 80) := by rw [codesGo, dif_neg h]

theorem codesGo_len : ∀ (k n : Nat), n ≤ 80 ^ k → (codesGo n).length ≤ k + 1
  | 0, n, h => by
    by_cases h0 : n = 0
    · subst h0; rw [codesGo_zero]; exact Nat.zero_le _
    · have : n = 1 := by simp at h; omega
      subst this
      rw [codesGo_pos (by decide), show (1 - 1) / 80 = 0 by rfl, codesGo_zero]
      exact Nat.le_refl _
  | k + 1, n, h => by
    by_cases h0 : n = 0
    · subst h0; rw [codesGo_zero]; exact Nat.zero_le _
    · rw [codesGo_pos h0, List.length_cons]
      have := codesGo_len k ((n - 1) / 80) (by
        rw [Nat.pow_succ] at h
        have : (n - 1) / 80 ≤ (80 ^ k * 80) / 80 := Nat.div_le_div_right (by omega)
        rwa [Nat.mul_div_cancel _ (by decide)] at this)
      omega

theorem codesOf_len (x : Int) : (codesOf x).length ≤ 6 := by
  have hx1 : x.fmod 41478481 < 41478481 := Int.fmod_lt_of_pos _ (by decide)
  exact codesGo_len 5 _ (by omega)

section
variable {w : World} {mg mb : Str → Option Value} {hg h : Heap} {A : Around} {E : Value → Shared → Prop} {s₀ : Shared} {tk : Nat} {Q : Value → Shared → Prop}

theorem ints_snoc {vs : List Value} {ns : List Int} (x : IntsAre vs ns) (i : Int) (t : Tok) : IntsAre (vs ++ [.int i t]) (ns ++ [i]) := by
  induction x with
  | nil => exact .cons i t .nil
  | cons j u _ ih => exact .cons j u ih

theorem codes_ok (T : Tp w hg mg mb) (B : Bs hg h) (hroom : A.depth + 2 < recursionLimit) {x : Int} {t : Tok}
    (hQ : ∀ D vs n h' tk, KeepBut [] h h' → h.objs.size ≤ D → h'.get? D = some (lstO vs n) → IntsAre vs (codesOf x) → Q (.ref D) (St s₀ h' tk)) :
    wpAny (model PG w) A (PySem.call (.ref 58) [.int x t]) Q E (St s₀ h tk) := by
  refine callFn' (X := []) (binds := [("x", .int x t)]) T T.hCodes B (fun _ q => nomatch q) (by omega) (fun _ _ => rfl) rfl rfl rfl rfl (by decide) (fun cd h₁ tk₁ B₁ S₁ => ?_)
  refine wpAny_execs_cons (wpAny_Assign_Name (wpAny_BinOp (eLoc S₁ rfl (eInt fun _ _ => (bMod (by decide) fun t₂ _ => stS S₁ fun h₂ tk₂ S₂ => ?_)))))
  refine wpAny_execs_cons (wpAny_Assign_Name (List_ (Calls.spliced_nil (newListS S₂ (fun D h₃ hD _ S₃ => stS S₃ fun h₄ tk₄ S₄ => ?_)))))
  refine wpAny_execs_cons (wpAny_While ?_)
  have hx0 : 0 ≤ x.fmod 41478481 := Int.fmod_nonneg_of_pos _ (by decide)
  have hx1 : x.fmod 41478481 < 41478481 := Int.fmod_lt_of_pos _ (by decide)
  refine codeAny_whileLoop (fun n s => ∃ h' tk m vs ns k t, s = St s₀ h' tk ∧ Sit [] (hideAll h []) h.objs.size m [(D, lstO vs k)] (fun _ _ => False) h' ∧ IntsAre vs ns ∧ ns ++ codesGo n = codesOf x ∧ m "left" = some (.int n t) ∧ m "codes" = some (.ref D))
    (fun n s ⟨h₅, tk₅, m₅, vs, ns, k, t₅, e, S₅, hI, hc, m1, m2⟩ => ?_) (x.fmod 41478481).toNat
    ⟨h₄, tk₄, _, [], [], 0, t₂, rfl, S₄, .nil, rfl, by show some _ = some _; rw [Int.toNat_of_nonneg hx0], rfl⟩
  subst e
  refine wpAny_isTrue_Compare1 (eLoc S₅ m1 (eInt fun _ _ => cGt (wpAny_truthy_bool ?_)))
  have hlen := hI.length
  by_cases h0 : n = 0
  · subst h0
    rw [if_neg (by simp)]
    refine wpAny_execs_nil (wpAny_execs_cons (wpAny_Return_some (eLoc S₅ m2 ?_)))
    refine hQ D vs k h₅ _ (S₅.keepX rfl) (Nat.le_trans S₂.size hD) (S₅.ownGet (.head _)) ?_
    rw [codesGo_zero, List.append_nil] at hc
    exact hc ▸ hI
  · rw [if_pos (by simp; omega)]
    refine wpAny_execs_cons (wpAny_Assign_Name (wpAny_BinOp (eLoc S₅ m1 (eInt fun _ _ => bSub fun t₆ _ => stS S₅ fun h₆ tk₆ S₆ => ?_))))
    have h16 : ((n : Int) - 1).fmod 80 = (((n - 1) % 80 : Nat) : Int) := by
      rw [Int.fmod_eq_emod_of_nonneg _ (by decide)]; omega
    have h17 : ((n : Int) - 1).fdiv 80 = (((n - 1) / 80 : Nat) : Int) := by
      rw [Int.fdiv_eq_ediv_of_nonneg _ (by decide)]; omega
    refine wpAny_execs_cons (xExpr (eAppend (eLoc S₆ (show _ = _ from m2) ⟨rfl, S₆.ownGet (.head _), wpAny_BinOp (eLoc S₆ rfl (eInt fun _ _ => bMod (by decide) fun t₇ _ => appS S₆ (fun h₇ S₇ => ⟨rfl, ?_⟩) ?_))⟩)))
    · refine wpAny_execs_cons (wpAny_Assign_Name (wpAny_BinOp (eLoc S₇ rfl (eInt fun _ _ => bDiv (by decide) (PyProof.noPylong_small (by decide)) fun t₈ _ => stS S₇ fun h₈ tk₈ S₈ => ?_))))
      rw [h16, h17] at S₈
      rw [codesGo_pos h0] at hc
      exact wpAny_execs_nil ⟨(n - 1) / 80, by omega, h₈, tk₈, _, _, _, _, t₈, rfl, S₈, ints_snoc hI _ t₇, by rw [List.append_assoc]; exact hc, rfl, m2⟩
    · have l1 := congrArg List.length hc
      have l2 := codesOf_len x
      rw [List.length_append] at l1
      simp only [sizeLine]; omega
end
end Mj
end

section
open PySem PySem.W PyProof.Rows
namespace Mj

/-- a number or a word -/
abbrev Sc := Sum Int Str
def ScIs (v : Value) : Sc → Prop
  | .inl n => ∃ t, v = .int n t
  | .inr x => ∃ t, v = .str x t

inductive All2 {α β : Type} (R : α → β → Prop) : List α → List β → Prop where
  | nil : All2 R [] []
  | cons {a b as bs} : R a b → All2 R as bs → All2 R (a :: as) (b :: bs)
theorem All2.length {α β : Type} {R : α → β → Prop} {as : List α} {bs : List β} (x : All2 R as bs) : as.length = bs.length := by
  induction x with
  | nil => rfl
  | cons _ _ ih => simp [ih]
theorem All2.get {α β : Type} {R : α → β → Prop} {as : List α} {bs : List β} (x : All2 R as bs) : ∀ {k : Nat} {b : β}, bs[k]? = some b → ∃ a, as[k]? = some a ∧ R a b := by
  induction x with
  | nil => intro k b e; cases e
  | cons r _ ih =>
    intro k b e
    cases k with
    | zero => exact ⟨_, rfl, by cases e; exact r⟩
    | succ k => exact ih e
theorem All2.snoc {α β : Type} {R : α → β → Prop} {as : List α} {bs : List β} (x : All2 R as bs) {a : α} {b : β} (r : R a b) : All2 R (as ++ [a]) (bs ++ [b]) := by
  induction x with
  | nil => exact .cons r .nil
  | cons r' _ ih => exact .cons r' ih
theorem All2.mono {α β : Type} {R R' : α → β → Prop} {as : List α} {bs : List β} (x : All2 R as bs) (f : ∀ a b, R a b → R' a b) : All2 R' as bs := by
  induction x with
  | nil => exact .nil
  | cons r _ ih => exact .cons (f _ _ r) ih

def namesL (x : Int) : List Str := ["0", "7", "10", "007", Str.ofString (toString (x.fmod 1000)), "dev", "alpha", "a", "beta", "b", "c", "RC", "rc", "pl", "p", "x"]
def ranksL : List Int := [6, 6, 6, 6, 6, 1, 2, 2, 3, 3, 4, 5, 5, 7, 7, 0]
def sizesL (x : Int) : List Int := [0, 7, 10, 7, x.fmod 1000]
def marksL : List Str := [".", "-", "_", "+", ""]

structure EntS where
  ver : Str
  key : List (Int × Sc)
  last : Option Bool
def markOf (c : Int) (last : Option Bool) : Str :=
  if (marksL.getD (c.fdiv 16).toNat "" == ("" : Str)) && (last == some (decide (c.fmod 16 < 5))) then "." else marksL.getD (c.fdiv 16).toNat ""
def entStep (x : Int) (st : EntS) (c : Int) : EntS where
  ver := st.ver ++ markOf c st.last ++ (namesL x).getD (c.fmod 16).toNat ""
  key := st.key ++ [(ranksL.getD (c.fmod 16).toNat 0, if c.fmod 16 < 5 then .inl ((sizesL x).getD (c.fmod 16).toNat 0) else .inr ((namesL x).getD (c.fmod 16).toNat ""))]
  last := some (decide (c.fmod 16 < 5))
def entryOf (x : Int) : EntS := (codesOf x).foldl (entStep x) ⟨"", [], none⟩

/-- the value at v is a pair (rank, number or word) -/
def TupIs (fz : Addr → Obj → Prop) (v : Value) (kd : Int × Sc) : Prop := ∃ a t v2, v = .ref a ∧ fz a (tupO [.int kd.1 t, v2]) ∧ ScIs v2 kd.2
theorem TupIs.mono {fz fz' : Addr → Obj → Prop} (hf : ∀ a o, fz a o → fz' a o) {v : Value} {kd : Int × Sc} (x : TupIs fz v kd) : TupIs fz' v kd :=
  let ⟨a, t, v2, e, q, r⟩ := x; ⟨a, t, v2, e, hf _ _ q, r⟩

theorem codesGo_bound (n : Nat) : ∀ c ∈ codesGo n, 0 ≤ c ∧ c < 80 := by
  induction n using Nat.strongRecOn with
  | ind n ih =>
    intro c hc
    by_cases h0 : n = 0
    · subst h0; rw [codesGo_zero] at hc; cases hc
    · rw [codesGo_pos h0] at hc
      rcases List.mem_cons.mp hc with rfl | hc
      · omega
      · exact ih _ (by omega) c hc

theorem ints_get {vs : List Value} {ns : List Int} (x : IntsAre vs ns) : ∀ {k : Nat} {v : Value}, vs[k]? = some v → ∃ n t, ns[k]? = some n ∧ v = .int n t := by
  induction x with
  | nil => intro k v e; cases e
  | cons i t _ ih =>
    intro k v e
    cases k with
    | zero => exact ⟨i, t, rfl, by cases e; rfl⟩
    | succ k => exact ih e

theorem small_text : ∀ n : Fin 1000, (Str.ofString (toString ((n.val : Nat) : Int))).length ≤ 3 := by decide +kernel
theorem small_text' (x : Int) : (Str.ofString (toString (x.fmod 1000))).length ≤ 3 := by
  have h0 : 0 ≤ x.fmod 1000 := Int.fmod_nonneg_of_pos _ (by decide)
  have h1 : x.fmod 1000 < 1000 := Int.fmod_lt_of_pos _ (by decide)
  have := small_text ⟨(x.fmod 1000).toNat, by omega⟩
  simpa [Int.toNat_of_nonneg h0] using this
theorem getD_mem {α : Type} (P : α → Prop) {l : List α} {d : α} (hl : ∀ a ∈ l, P a) (hd : P d) (k : Nat) : P (l.getD k d) := by
  rw [List.getD_eq_getElem?_getD]
  cases e : l[k]? with
  | none => exact hd
  | some a => exact hl a (List.mem_of_getElem? e)
theorem names_len (x : Int) (k : Nat) : ((namesL x).getD k "").length ≤ 5 := by
  have h3 := small_text' x
  refine getD_mem (fun s : Str => s.length ≤ 5) (fun s hs => ?_) (by decide) k
  unfold namesL at hs
  generalize Str.ofString (toString (x.fmod 1000)) = y at hs h3
  simp only [List.mem_cons, List.not_mem_nil, or_false] at hs
  rcases hs with rfl | rfl | rfl | rfl | rfl | rfl | rfl | rfl | rfl | rfl | rfl | rfl | rfl | rfl | rfl | rfl <;> first | exact Nat.le_trans h3 (by decide) | decide
theorem mark_len (c : Int) (l : Option Bool) : (markOf c l).length ≤ 1 := by
  unfold markOf
  split
  · decide
  · exact getD_mem (fun s : Str => s.length ≤ 1) (by decide) (by decide) _
end Mj
end

section
open PySem PySem.W PyProof.Rows
namespace Mj
def lastV : Option Bool → Value
  | none => .none
  | some b => .bool b
def StrsAre (vs : List Value) (l : List Str) : Prop := All2 (fun v s => ∃ t, v = Value.str s t) vs l
def IntsA (vs : List Value) (l : List Int) : Prop := All2 (fun v s => ∃ t, v = Value.int s t) vs l
def entAt (x : Int) (i : Nat) : EntS := ((codesOf x).take i).foldl (entStep x) ⟨"", [], none⟩
theorem entAt_succ {x : Int} {i : Nat} {c : Int} (h : (codesOf x)[i]? = some c) : entAt x (i + 1) = entStep x (entAt x i) c := by
  unfold entAt
  rw [List.take_add_one, h, List.foldl_append]; rfl
theorem entAt_ver (x : Int) : ∀ i, (entAt x i).ver.length ≤ 6 * i
  | 0 => by unfold entAt; exact Nat.le_refl _
  | i + 1 => by
    cases h : (codesOf x)[i]? with
    | none =>
      have : entAt x (i + 1) = entAt x i := by unfold entAt; rw [List.take_add_one, h]; simp
      rw [this]; have := entAt_ver x i; omega
    | some c =>
      rw [entAt_succ h]
      have := entAt_ver x i
      have := names_len x (c.fmod 16).toNat
      have := mark_len c (entAt x i).last
      have e : ∀ a b : Str, (a ++ b).length = a.length + b.length := fun a b => by
        show (a.cps ++ b.cps).size = _; rw [Array.size_append]; rfl
      simp only [entStep, e]
      omega
theorem entAt_key (x : Int) : ∀ i, (entAt x i).key.length ≤ i
  | 0 => by unfold entAt; simp
  | i + 1 => by
    cases h : (codesOf x)[i]? with
    | none =>
      have : entAt x (i + 1) = entAt x i := by unfold entAt; rw [List.take_add_one, h]; simp
      rw [this]; have := entAt_key x i; omega
    | some c =>
      rw [entAt_succ h]
      have := entAt_key x i
      simp only [entStep, List.length_append, List.length_cons, List.length_nil]
      omega
theorem entAt_end (x : Int) : entAt x (codesOf x).length = entryOf x := by unfold entAt entryOf; rw [List.take_length]

section
variable {X : List Addr} {h₀ h h' : Heap} {L : Addr} {m m' : Str → Option Value} {own : List (Addr × Obj)} {fz fz' : Addr → Obj → Prop}
variable {w : World} {mg mb : Str → Option Value} {hg : Heap} {A : Around} {E : Value → Shared → Prop} {s₀ : Shared} {tk : Nat} {name : Str} {scope : Scope} {a : Addr} {cd : Value} {env : Env}
variable {Q : Value → Shared → Prop}

theorem eStrI {i : Int} {t : Tok} (h0 : 0 ≤ i) (h1 : i < 1000) (q : ∀ t tk', Q (.str (Str.ofString (toString i)) t) (St s₀ h tk')) : wpAny (model PG w) A (PySem.call (.type "str") [.int i t]) Q E (St s₀ h tk) :=
  P.str_of_int (shown (N := 1000) (by omega) (by omega) (by decide +kernel)) (q _ _)
theorem cEqLast {l : Option Bool} {d : Bool} (q : Q (.bool (l == some d)) (St s₀ h tk)) : wpAny (model PG w) A (compareOp .Eq (lastV l) (.bool d)) Q E (St s₀ h tk) := by
  cases l with
  | none => exact EqNone.eq_none_bool q
  | some b => exact eq_bool (by simpa using q)

theorem StrsAre.at {vs : List Value} {l : List Str} (x : StrsAre vs l) {k : Nat} (hk : k < l.length) : ∃ t, vs[k]? = some (.str (l.getD k "") t) := by
  obtain ⟨v, e, t, r⟩ := All2.get x (k := k) (b := l[k]) (List.getElem?_eq_getElem hk)
  refine ⟨t, ?_⟩
  rw [e, r, List.getD_eq_getElem?_getD, List.getElem?_eq_getElem hk]; rfl
theorem IntsA.at {vs : List Value} {l : List Int} (x : IntsA vs l) {k : Nat} (hk : k < l.length) : ∃ t, vs[k]? = some (.int (l.getD k 0) t) := by
  obtain ⟨v, e, t, r⟩ := All2.get x (k := k) (b := l[k]) (List.getElem?_eq_getElem hk)
  refine ⟨t, ?_⟩
  rw [e, r, List.getD_eq_getElem?_getD, List.getElem?_eq_getElem hk]; rfl
theorem str_len (a b : Str) : (a ++ b).length = a.length + b.length := by
  show (a.cps ++ b.cps).size = _; rw [Array.size_append]; rfl

/-- the turn's state -/
structure EntJ (x : Int) (A1 A2 A3 K CL : Addr) (cvs : List Value) (cn : Nat) (i : Nat) (m : Str → Option Value) (own : List (Addr × Obj)) (fz : Addr → Obj → Prop) : Prop where
  own : ∃ ks n, own = [(K, lstO ks n)] ∧ All2 (TupIs fz) ks (entAt x i).key
  names : m "names" = some (.ref A1)
  ranks : m "ranks" = some (.ref A2)
  sizes : m "sizes" = some (.ref A3)
  version : ∃ t, m "version" = some (.str (entAt x i).ver t)
  key : m "key" = some (.ref K)
  last : m "last" = some (lastV (entAt x i).last)
  fnames : ∃ vs n, fz A1 (lstO vs n) ∧ StrsAre vs (namesL x)
  franks : ∃ vs n, fz A2 (lstO vs n) ∧ IntsA vs ranksL
  fsizes : ∃ vs n, fz A3 (lstO vs n) ∧ IntsA vs (sizesL x)
  fcodes : fz CL (lstO cvs cn)

/-- statement k of the for loop's body -/
def entFor : List Stmt := match (bodOf (stAt 9)).getD 6 (.Pass default) with
  | .For _ _ b _ _ => b
  | _ => []

set_option maxHeartbeats 1000000 in
theorem ent_turn {x : Int} {A1 A2 A3 K CL : Addr} {cvs : List Value} {cn i : Nat} {v : Value} {I : Addr} {o : Obj} {c : Int} {t : Tok}
    (hv : v = .int c t) (hc : (codesOf x)[i]? = some c)
    (j : EntJ x A1 A2 A3 K CL cvs cn i m own fz)
    (S : Sit [] h₀ L (fun y => if y = ("code" : Str) then some v else m y) ((I, o) :: own) fz h) :
    wpAny (model PG w) A (execs entFor (envOf "_law_entry" (scpOf (stAt 9)) L 65 cd)) (fun f s₃ => (f = .next ∨ f = .cont) ∧ ∃ h' tk' m' own' fz', s₃ = St s₀ h' tk' ∧ Sit [] h₀ L m' ((I, o) :: own') fz' h' ∧ EntJ x A1 A2 A3 K CL cvs cn (i + 1) m' own' fz') (fun _ _ => False) (St s₀ h tk) := by
  subst hv
  have hb := codesGo_bound _ c (List.mem_of_getElem? hc)
  have p0 : 0 ≤ c.fmod 16 := Int.fmod_nonneg_of_pos _ (by decide)
  have p1 : c.fmod 16 < 16 := Int.fmod_lt_of_pos _ (by decide)
  have q0 : 0 ≤ c.fdiv 16 := Int.fdiv_nonneg hb.1 (by decide)
  have q1 : c.fdiv 16 < 5 := by rw [Int.fdiv_eq_ediv_of_nonneg _ (by decide)]; omega
  -- piece
  refine wpAny_execs_cons ?_
  with_reducible refine asgS (wpAny_BinOp ?_)
  refine eLoc S rfl ?_
  with_reducible refine eInt fun _ _ => ?_
  refine bMod (by decide) fun t₁ _ => ?_
  refine stS S fun h₁ tk₁ S₁ => ?_
  clear S
  -- mark
  refine wpAny_execs_cons ?_
  with_reducible refine asgS (Subscript_ (List_ ?_))
  iterate 5 with_reducible refine splE (eStr fun _ _ => ?_)
  with_reducible refine splN ?_
  refine newListS S₁ fun M h₂ _ _ S₂ => ?_
  with_reducible refine wpAny_BinOp ?_
  refine eLoc S₂ rfl ?_
  with_reducible refine eInt fun _ _ => ?_
  refine bDiv (by decide) (PyProof.noPylong_small (by decide)) fun t₂ _ => ?_
  obtain ⟨t₃, e₃⟩ := StrsAre.at (l := marksL) (.cons ⟨_, rfl⟩ (.cons ⟨_, rfl⟩ (.cons ⟨_, rfl⟩ (.cons ⟨_, rfl⟩ (.cons ⟨_, rfl⟩ .nil))))) (k := (c.fdiv 16).toNat) (by show _ < 5; omega)
  refine subList (S₂.ownGet (.head _)) q0 (by omega) e₃ ?_
  refine stS S₂.drop fun h₃ tk₃ S₃ => ?_
  clear S₁ S₂ e₃
  -- if mark == ''
  refine cutNext (fun s' => ∃ h' tk' m' t', s' = St s₀ h' tk' ∧ Sit [] h₀ L m' ((I, o) :: own) fz h' ∧ m' "mark" = some (.str (markOf c (entAt x i).last) t') ∧ m' "piece" = some (.int (c.fmod 16) t₁) ∧
    m' "names" = m "names" ∧ m' "ranks" = m "ranks" ∧ m' "sizes" = m "sizes" ∧ m' "version" = m "version" ∧ m' "key" = m "key") ?_ ?_
  · with_reducible refine wpAny_If ?_
    with_reducible refine isTrue_and ?_
    with_reducible refine wpAny_isTrue_Compare1 ?_ (by with_unfolding_all rfl)
    refine eLoc S₃ rfl ?_
    with_reducible refine eStr fun _ _ => ?_
    refine cEqStr (wpAny_truthy_bool ?_)
    by_cases hm : (marksL.getD (c.fdiv 16).toNat "" == ("" : Str)) = true
    · rw [hm, if_pos rfl]
      with_reducible refine isTrue_and ?_
      with_reducible refine wpAny_isTrue_Compare1 ?_ (by with_unfolding_all rfl)
      refine eLoc S₃ j.last ?_
      with_reducible refine wpAny_Compare1 ?_ (by with_unfolding_all rfl)
      refine eLoc S₃ rfl ?_
      with_reducible refine eInt fun _ _ => ?_
      refine cLt ?_
      refine cEqLast (wpAny_truthy_bool ?_)
      by_cases hl : ((entAt x i).last == some (decide (c.fmod 16 < 5))) = true
      · rw [hl, if_pos rfl]
        refine isTrue_and_nil ?_
        rw [if_pos rfl]
        refine wpAny_execs_cons ?_
        with_reducible refine asgS ?_
        with_reducible refine eStr fun t₄ _ => ?_
        refine stS S₃ fun h₄ tk₄ S₄ => wpAny_execs_nil ⟨rfl, h₄, tk₄, _, t₄, rfl, S₄, ?_, rfl, rfl, rfl, rfl, rfl, rfl⟩
        show some _ = some _
        unfold markOf; rw [hm, hl]; rfl
      · have hl' := Bool.eq_false_iff.mpr hl
        rw [hl', if_neg Bool.false_ne_true, if_neg Bool.false_ne_true]
        refine wpAny_execs_nil ⟨rfl, _, _, _, t₃, rfl, S₃, ?_, rfl, rfl, rfl, rfl, rfl, rfl⟩
        show some _ = some _
        unfold markOf; rw [hl', Bool.and_false, if_neg Bool.false_ne_true]
    · have hm' := Bool.eq_false_iff.mpr hm
      rw [hm', if_neg Bool.false_ne_true, if_neg Bool.false_ne_true]
      refine wpAny_execs_nil ⟨rfl, _, _, _, t₃, rfl, S₃, ?_, rfl, rfl, rfl, rfl, rfl, rfl⟩
      show some _ = some _
      unfold markOf; rw [hm', Bool.false_and, if_neg Bool.false_ne_true]
  rintro _ ⟨h₅, tk₅, m₅, t₅, rfl, S₅, k1, k2, k3, k4, k5, k6, k7⟩
  clear S₃
  have hver := entAt_ver x i
  have hil : i < (codesOf x).length := by
    rcases Nat.lt_or_ge i (codesOf x).length with q | q
    · exact q
    · rw [List.getElem?_eq_none q] at hc; cases hc
  have hlen := codesOf_len x
  have hnl := names_len x (c.fmod 16).toNat
  have hml := mark_len c (entAt x i).last
  obtain ⟨tv, hv⟩ := j.version
  obtain ⟨nvs, nn, hn1, hn2⟩ := j.fnames
  obtain ⟨rvs, rn, hr1, hr2⟩ := j.franks
  obtain ⟨svs, sn, hs1, hs2⟩ := j.fsizes
  obtain ⟨t₆, e₆⟩ := hn2.at (k := (c.fmod 16).toNat) (by show _ < 16; omega)
  obtain ⟨t₇, e₇⟩ := hr2.at (k := (c.fmod 16).toNat) (by show _ < 16; omega)
  -- version
  refine wpAny_execs_cons ?_
  with_reducible refine asgS (wpAny_BinOp (wpAny_BinOp ?_))
  refine eLoc S₅ (k6.trans hv) ?_
  refine eLoc S₅ k1 ?_
  refine bAddStr (by simp only [sizeLine]; omega) fun _ _ => ?_
  with_reducible refine Subscript_ ?_
  refine eLoc S₅ (k3.trans j.names) ?_
  refine eLoc S₅ k2 ?_
  refine subList (S₅.get hn1) p0 (by omega) e₆ ?_
  refine bAddStr (by rw [str_len]; simp only [sizeLine]; omega) fun t₈ _ => ?_
  refine stS S₅ fun h₈ tk₈ S₈ => ?_
  clear S₅
  -- key
  obtain ⟨ks, n, rfl, hks⟩ := j.own
  have hkl := entAt_key x i
  have hkl' := hks.length
  refine cutNext (fun s' => ∃ h' tk' ks' n' fz' m', s' = St s₀ h' tk' ∧ Sit [] h₀ L m' ((I, o) :: [(K, lstO ks' n')]) fz' h' ∧ (∀ a o, fz a o → fz' a o) ∧ All2 (TupIs fz') ks' (entStep x (entAt x i) c).key ∧ m' "version" = some (.str (entStep x (entAt x i) c).ver t₈) ∧ m' "piece" = some (.int (c.fmod 16) t₁) ∧
    m' "names" = m "names" ∧ m' "ranks" = m "ranks" ∧ m' "sizes" = m "sizes" ∧ m' "key" = m "key") ?_ ?_
  · with_reducible refine wpAny_If ?_
    with_reducible refine wpAny_isTrue_Compare1 ?_ (by with_unfolding_all rfl)
    refine eLoc S₈ (show _ = _ from k2) ?_
    with_reducible refine eInt fun _ _ => ?_
    refine cLt (wpAny_truthy_bool ?_)
    by_cases hp : c.fmod 16 < 5
    · obtain ⟨t₉, e₉⟩ := hs2.at (k := (c.fmod 16).toNat) (by show _ < 5; omega)
      rw [if_pos (decide_eq_true hp)]
      refine wpAny_execs_cons ?_
      with_reducible refine exprS ?_
      refine eAppend (D := K) (vs := ks) (n := n) ?_
      refine eLoc S₈ (show _ = _ from k7.trans j.key) ⟨rfl, S₈.ownGet (.tail _ (.head _)), ?_⟩
      with_reducible refine Tuple_ ?_
      with_reducible refine splE (Subscript_ ?_)
      refine eLoc S₈ (show _ = _ from k4.trans j.ranks) ?_
      refine eLoc S₈ (show _ = _ from k2) ?_
      refine subList (S₈.get hr1) p0 (by omega) e₇ ?_
      with_reducible refine splE (Subscript_ ?_)
      refine eLoc S₈ (show _ = _ from k5.trans j.sizes) ?_
      refine eLoc S₈ (show _ = _ from k2) ?_
      refine subList (S₈.get hs1) p0 (by omega) e₉ ?_
      with_reducible refine splN ?_
      refine newTupS S₈ fun T h₉ _ _ S₉ => ?_
      refine appS S₉.freeze.swap (fun h₁₀ S₁₀ => ⟨rfl, wpAny_execs_nil ⟨rfl, h₁₀, _, _, _, _, _, rfl, S₁₀.swap, fun _ _ q => .inl q, ?_, rfl, k2, k3, k4, k5, k7⟩⟩) (by simp only [sizeLine]; omega)
      refine (hks.mono fun _ _ q => q.mono fun _ _ q => .inl q).snoc ⟨T, t₇, _, rfl, .inr ⟨rfl, rfl⟩, ?_⟩
      show ScIs _ (if _ then _ else _)
      rw [if_pos hp]; exact ⟨t₉, rfl⟩
    · rw [if_neg (by simpa using hp)]
      refine wpAny_execs_cons ?_
      with_reducible refine exprS ?_
      refine eAppend (D := K) (vs := ks) (n := n) ?_
      refine eLoc S₈ (show _ = _ from k7.trans j.key) ⟨rfl, S₈.ownGet (.tail _ (.head _)), ?_⟩
      with_reducible refine Tuple_ ?_
      with_reducible refine splE (Subscript_ ?_)
      refine eLoc S₈ (show _ = _ from k4.trans j.ranks) ?_
      refine eLoc S₈ (show _ = _ from k2) ?_
      refine subList (S₈.get hr1) p0 (by omega) e₇ ?_
      with_reducible refine splE (Subscript_ ?_)
      refine eLoc S₈ (show _ = _ from k3.trans j.names) ?_
      refine eLoc S₈ (show _ = _ from k2) ?_
      refine subList (S₈.get hn1) p0 (by omega) e₆ ?_
      with_reducible refine splN ?_
      refine newTupS S₈ fun T h₉ _ _ S₉ => ?_
      refine appS S₉.freeze.swap (fun h₁₀ S₁₀ => ⟨rfl, wpAny_execs_nil ⟨rfl, h₁₀, _, _, _, _, _, rfl, S₁₀.swap, fun _ _ q => .inl q, ?_, rfl, k2, k3, k4, k5, k7⟩⟩) (by simp only [sizeLine]; omega)
      refine (hks.mono fun _ _ q => q.mono fun _ _ q => .inl q).snoc ⟨T, t₇, _, rfl, .inr ⟨rfl, rfl⟩, ?_⟩
      show ScIs _ (if _ then _ else _)
      rw [if_neg hp]; exact ⟨t₆, rfl⟩
  rintro _ ⟨h₁₁, tk₁₁, ks', n', fz', m₁₁, rfl, S₁₁, hf, hk', l1, l2, l3, l4, l5, l7⟩
  -- last
  refine wpAny_execs_cons ?_
  with_reducible refine asgS ?_
  with_reducible refine wpAny_Compare1 ?_ (by with_unfolding_all rfl)
  refine eLoc S₁₁ l2 ?_
  with_reducible refine eInt fun _ _ => ?_
  refine cLt ?_
  refine stS S₁₁ fun h₁₂ tk₁₂ S₁₂ => wpAny_execs_nil ⟨.inl rfl, h₁₂, tk₁₂, _, _, _, rfl, S₁₂, ?_⟩
  refine ⟨⟨_, _, rfl, by rw [entAt_succ hc]; exact hk'⟩, l3.trans j.names, l4.trans j.ranks, l5.trans j.sizes, ⟨t₈, by rw [entAt_succ hc]; exact l1⟩, l7.trans j.key, by rw [entAt_succ hc]; rfl, ⟨_, _, hf _ _ hn1, hn2⟩, ⟨_, _, hf _ _ hr1, hr2⟩, ⟨_, _, hf _ _ hs1, hs2⟩, hf _ _ j.fcodes⟩
end
end Mj
end

section
open PySem PySem.W PyProof.Rows
namespace Mj
section
variable {h : Heap} {w : World} {mg mb : Str → Option Value} {hg : Heap} {A : Around} {E : Value → Shared → Prop} {s₀ : Shared} {tk : Nat} {Q : Value → Shared → Prop}
set_option maxHeartbeats 1000000 in
theorem entry_ok (T : Tp w hg mg mb) (B : Bs hg h) (hroom : A.depth + 4 < recursionLimit) (hh : A.handled = none) {x : Int} {t : Tok}
    (hQ : ∀ D K ks n t' h' tk, KeepBut [] h h' → h.objs.size ≤ D → h.objs.size ≤ K → h'.get? D = some (tupO [.ref K, .str (entryOf x).ver t']) → h'.get? K = some (lstO ks n) →
      All2 (TupIs fun a o => h'.get? a = some o) ks (entryOf x).key → Q (.ref D) (St s₀ h' tk)) :
    wpAny (model PG w) A (PySem.call (.ref 65) [.int x t]) Q E (St s₀ h tk) := by
  refine callFn' (X := []) (binds := [("x", .int x t)]) T T.hEntry B (fun _ q => nomatch q) (by omega) (fun _ _ => rfl) rfl rfl rfl rfl (by decide) (fun cd h₁ tk₁ B₁ S₁ => ?_)
  have hx0 : 0 ≤ x.fmod 1000 := Int.fmod_nonneg_of_pos _ (by decide)
  have hx1 : x.fmod 1000 < 1000 := Int.fmod_lt_of_pos _ (by decide)
  refine wpAny_execs_cons ?_
  with_reducible refine asgS (List_ ?_)
  iterate 4 with_reducible refine splE (eStr fun _ _ => ?_)
  with_reducible refine splE (callNm ?_)
  refine eBi (v := .type "str") T B₁ S₁ T.nStr (by decide) (by decide) ?_
  with_reducible refine callTy1 (wpAny_BinOp ?_)
  refine eLoc S₁ rfl ?_
  with_reducible refine eInt fun _ _ => ?_
  refine bMod (by decide) fun _ _ => ?_
  with_reducible refine eStrI hx0 hx1 fun _ _ => ?_
  iterate 11 with_reducible refine splE (eStr fun _ _ => ?_)
  with_reducible refine splN ?_
  refine newListS S₁ fun A1 h₂ _ _ S₂ => ?_
  refine stS S₂.freeze fun h₃ tk₃ S₃ => ?_
  refine wpAny_execs_cons ?_
  with_reducible refine asgS (List_ ?_)
  iterate 16 with_reducible refine splE (eInt fun _ _ => ?_)
  with_reducible refine splN ?_
  refine newListS S₃ fun A2 h₄ _ _ S₄ => ?_
  refine stS S₄.freeze fun h₅ tk₅ S₅ => ?_
  refine wpAny_execs_cons ?_
  with_reducible refine asgS (List_ ?_)
  iterate 4 with_reducible refine splE (eInt fun _ _ => ?_)
  with_reducible refine splE (wpAny_BinOp ?_)
  refine eLoc S₅ rfl ?_
  with_reducible refine eInt fun _ _ => ?_
  refine bMod (by decide) fun _ _ => ?_
  with_reducible refine splN ?_
  refine newListS S₅ fun A3 h₆ _ _ S₆ => ?_
  refine stS S₆.freeze fun h₇ tk₇ S₇ => ?_
  refine wpAny_execs_cons ?_
  with_reducible refine asgS ?_
  with_reducible refine eStr fun t₈ _ => ?_
  refine stS S₇ fun h₈ tk₈ S₈ => ?_
  refine wpAny_execs_cons ?_
  with_reducible refine asgS (List_ ?_)
  with_reducible refine splN ?_
  refine newListS S₈ fun K h₉ hK _ S₉ => ?_
  refine stS S₉ fun h₁₀ tk₁₀ S₁₀ => ?_
  refine wpAny_execs_cons ?_
  with_reducible refine asgS (wpAny_Constant_none ?_)
  refine stS S₁₀ fun h₁₁ tk₁₁ S₁₁ => ?_
  refine wpAny_execs_cons ?_
  refine wpAny_mono (Q := fun f s' => f = .next ∧ ∃ CL cvs cn h' tk' m' own' fz', s' = St s₀ h' tk' ∧ Sit [] (hideAll h []) h.objs.size m' own' fz' h' ∧ EntJ x A1 A2 A3 K CL cvs cn (codesOf x).length m' own' fz') ?_ ?_ (fun _ _ q => q)
  · refine forG (X := []) (h₀ := hideAll h []) (L := h.objs.size) (s₀ := s₀) hh ?_
    with_reducible refine callNm ?_
    refine eGlobG T B₁ S₁₁ T.hCodes.1 ?_
    with_reducible refine callRf1 ?_
    refine eLocG S₁₁ rfl ⟨S₁₁.hasFn B₁ T.hCodes, ?_⟩
    refine codes_ok T (fun b o e => S₁₁.F.keep _ _ (B₁ _ _ e)) (by show A.depth + 1 + 2 < _; omega) fun CL cvs cn h₁₂ tk₁₂ hk hCL eCL hI => ?_
    have S₁₂ := S₁₁.call hk
    refine ⟨EntJ x A1 A2 A3 K CL cvs cn, CL, cvs, cn, h₁₂, tk₁₂, _, _, _, rfl, rfl, S₁₂, ?_, fun _ _ _ _ j => j.fcodes, ?_, ?_⟩
    · refine ⟨⟨_, _, rfl, .nil⟩, rfl, rfl, rfl, ⟨t₈, rfl⟩, rfl, rfl, ⟨_, _, .inl (.inl (.inl (.inr ⟨rfl, rfl⟩))), (.cons ⟨_, rfl⟩ (.cons ⟨_, rfl⟩ (.cons ⟨_, rfl⟩ (.cons ⟨_, rfl⟩ (.cons ⟨_, rfl⟩ (.cons ⟨_, rfl⟩ (.cons ⟨_, rfl⟩ (.cons ⟨_, rfl⟩ (.cons ⟨_, rfl⟩ (.cons ⟨_, rfl⟩ (.cons ⟨_, rfl⟩ (.cons ⟨_, rfl⟩ (.cons ⟨_, rfl⟩ (.cons ⟨_, rfl⟩ (.cons ⟨_, rfl⟩ (.cons ⟨_, rfl⟩ .nil))))))))))))))))⟩, ⟨_, _, .inl (.inl (.inr ⟨rfl, rfl⟩)), (.cons ⟨_, rfl⟩ (.cons ⟨_, rfl⟩ (.cons ⟨_, rfl⟩ (.cons ⟨_, rfl⟩ (.cons ⟨_, rfl⟩ (.cons ⟨_, rfl⟩ (.cons ⟨_, rfl⟩ (.cons ⟨_, rfl⟩ (.cons ⟨_, rfl⟩ (.cons ⟨_, rfl⟩ (.cons ⟨_, rfl⟩ (.cons ⟨_, rfl⟩ (.cons ⟨_, rfl⟩ (.cons ⟨_, rfl⟩ (.cons ⟨_, rfl⟩ (.cons ⟨_, rfl⟩ .nil))))))))))))))))⟩, ⟨_, _, .inl (.inr ⟨rfl, rfl⟩), (.cons ⟨_, rfl⟩ (.cons ⟨_, rfl⟩ (.cons ⟨_, rfl⟩ (.cons ⟨_, rfl⟩ (.cons ⟨_, rfl⟩ .nil)))))⟩, .inr ⟨eCL, hCL⟩⟩
    · intro i v I o m own fz h tk hv j S
      obtain ⟨c, t, hc, rfl⟩ := ints_get hI hv
      exact ent_turn rfl hc j S
    · intro m own fz h tk j S
      rw [hI.length] at j
      exact ⟨rfl, CL, cvs, cn, h, tk, m, own, fz, rfl, S, j⟩
  rintro _ _ ⟨rfl, CL, cvs, cn, h', tk', m', own', fz', rfl, S', j⟩
  refine wpAny_execs_cons ?_
  with_reducible refine wpAny_Return_some (Tuple_ ?_)
  obtain ⟨t', ht'⟩ := j.version
  obtain ⟨ks, n, rfl, hks⟩ := j.own
  with_reducible refine splE ?_
  refine eLoc S' j.key ?_
  with_reducible refine splE ?_
  refine eLoc S' ht' ?_
  with_reducible refine splN ?_
  refine newTupS S' fun D h₁₃ hD hk S₁₃ => ?_
  rw [entAt_end] at S₁₃
  refine hQ D K ks n t' h₁₃ tk' (S₁₃.keepX rfl) (Nat.le_trans S'.size hD) (Nat.le_trans S₈.size hK) (S₁₃.ownGet (.head _)) (S₁₃.ownGet (.tail _ (.head _))) ?_
  rw [entAt_end] at hks
  exact hks.mono fun _ _ q => q.mono fun _ _ q => S₁₃.get q
end
end Mj
end

section
open PySem PySem.W PyProof.Rows
namespace Mj

def dig (c : Nat) : Bool := 48 ≤ c && c ≤ 57
def mrk (c : Nat) : Bool := c == 43 || c == 45 || c == 46 || c == 95

theorem acc_dig (c : Nat) (seen : Sre.Seen) : ∃ seen', Sre.accepts CODE 13 c seen = .ok (dig c, seen') := by
  cases h : dig c with
  | true =>
    exact ⟨_, show (if (decide (48 ≤ c) && decide (c ≤ 57)) = true then Except.ok (true, _) else _) = Except.ok (true, _) from if_pos h⟩
  | false =>
    exact ⟨_, show (if (decide (48 ≤ c) && decide (c ≤ 57)) = true then Except.ok (true, _) else Except.ok (false, _)) = Except.ok (false, _) from if_neg (by rw [show (decide (48 ≤ c) && decide (c ≤ 57)) = dig c from rfl, h]; exact Bool.false_ne_true)⟩
theorem mrk_small : ∀ c : Fin 256, ((CODE.getD (26 + c.val / 32) 0).testBit (c.val % 32)) = mrk c.val := by decide +kernel
theorem acc_mrk (c : Nat) (seen : Sre.Seen) : ∃ seen', Sre.accepts CODE 23 c seen = .ok (mrk c, seen') := by
  have e : (decide (c < 256) && (CODE.getD (25 + (1 + c / 32)) 0).testBit (c % 32)) = mrk c := by
    by_cases hc : c < 256
    · have := mrk_small ⟨c, hc⟩
      rw [decide_eq_true hc, Bool.true_and, ← this]
      show (CODE.getD (25 + (1 + c / 32)) 0).testBit (c % 32) = (CODE.getD (26 + c / 32) 0).testBit (c % 32)
      rw [show 25 + (1 + c / 32) = 26 + c / 32 by omega]
    · rw [decide_eq_false hc, Bool.false_and]
      unfold mrk
      simp; omega
  cases h : mrk c with
  | true =>
    exact ⟨_, show (if (decide (c < 256) && (CODE.getD (25 + (1 + c / 32)) 0).testBit (c % 32)) = true then Except.ok (true, _) else _) = Except.ok (true, _) from if_pos (e.trans h)⟩
  | false =>
    exact ⟨_, show (if (decide (c < 256) && (CODE.getD (25 + (1 + c / 32)) 0).testBit (c % 32)) = true then Except.ok (true, _) else Except.ok (false, _)) = Except.ok (false, _) from if_neg (by rw [e, h]; exact Bool.false_ne_true)⟩

/-- digits from p on, n at most -/
def digN (text : Array Nat) : (n p : Nat) → Nat
  | 0, _ => 0
  | n + 1, p => if dig (text.getD p 0) then digN text n (p + 1) + 1 else 0
theorem run_dig (text : Array Nat) : ∀ (n p found : Nat) (seen : Sre.Seen), ∃ seen', Sre.run CODE text 13 n p found seen = .ok (found + digN text n p, seen')
  | 0, p, found, seen => ⟨seen, rfl⟩
  | n + 1, p, found, seen => by
    obtain ⟨s1, e1⟩ := acc_dig (text.getD p 0) seen
    unfold Sre.run digN
    rw [e1]
    cases h : dig (text.getD p 0) with
    | true =>
      obtain ⟨s2, e2⟩ := run_dig text n (p + 1) (found + 1) s1
      refine ⟨s2, ?_⟩
      show Sre.run CODE text 13 n (p + 1) (found + 1) s1 = _
      rw [e2, if_pos rfl]
      congr 2; omega
    | false => exact ⟨s1, rfl⟩

/-- the machine at the start of a try at s -/
def mA (text : Array Nat) (lim s : Nat) (first : Bool) (marks : Array (Option Nat)) (seen : Sre.Seen) : Sre.M :=
  { code := CODE, text, lim, start := s, lastStart := lim, wholeText := false, mustAdvance := false, pc := 5, pos := s, handed := s, outermost := first, marks, lastmark := -1, lastindex := -1,
    loops := #[], inner := none, frames := [{ wait := .nextStart, pc := 5, pos := s, outermost := first }], weight := 1, answer := none, seen, outcome := none }

/-- k steps -/
def Goes (k : Nat) (m m' : Sre.M) : Prop := ∀ n, Sre.M.runFor (k + n) m = Sre.M.runFor n m'
theorem Goes.trans {j k : Nat} {a b c : Sre.M} (x : Goes j a b) (y : Goes k b c) : Goes (j + k) a c := fun n => by rw [Nat.add_assoc, x, y]
theorem Goes.one {m m' : Sre.M} (h : m.outcome = none) (e : m.step = m') : Goes 1 m m' := fun n => by
  rw [Nat.add_comm]
  show (if m.outcome.isSome then m else Sre.M.runFor n m.step) = _
  rw [h, e]; rfl

section
variable {text : Array Nat} {lim s : Nat} {first : Bool} {marks : Array (Option Nat)} {seen : Sre.Seen}
def mB (text : Array Nat) (lim s : Nat) (first : Bool) (marks : Array (Option Nat)) (seen : Sre.Seen) : Sre.M :=
  { mA text lim s first marks seen with marks := marks.setIfInBounds 0 (some s), lastmark := 0, pc := 7 }
theorem goB : ∃ seen', Goes 1 (mA text lim s first marks seen) (mB text lim s first marks seen') := ⟨_, .one rfl rfl⟩
def kB : Sre.Kept := { lastmark := 0, lastindex := -1, whole := false, marks := #[] }
def mC (text : Array Nat) (lim s : Nat) (first : Bool) (marks : Array (Option Nat)) (seen : Sre.Seen) : Sre.M :=
  { mB text lim s first marks seen with frames := { wait := .nextBranch, pc := 8, pos := s, outermost := first, kept := kB } :: (mA text lim s first marks seen).frames, weight := 2, pc := 9 }
theorem goC : ∃ seen', Goes 1 (mB text lim s first marks seen) (mC text lim s first marks seen') := ⟨_, .one rfl rfl⟩

/-- a look that has failed, at the first alternative -/
def mF (text : Array Nat) (lim s : Nat) (first : Bool) (marks : Array (Option Nat)) (seen : Sre.Seen) : Sre.M := { mC text lim s first marks seen with answer := some false }
theorem goF (h : lim ≤ s ∨ dig (text.getD s 0) = false) : ∃ seen', Goes 1 (mC text lim s first marks seen) (mF text lim s first marks seen') := by
  by_cases hr : ((1 : Nat) : Int) > (lim : Int) - (s : Nat)
  · refine ⟨seen.add 24, .one rfl ?_⟩
    show (if ((1 : Nat) : Int) > (lim : Int) - (s : Nat) then _ else _) = _
    rw [if_pos hr]; rfl
  · have hs : s < lim := by omega
    have hd : dig (text.getD s 0) = false := h.resolve_left (by omega)
    obtain ⟨s', e⟩ := run_dig text (min 4294967295 ((lim : Int) - (s : Nat)).toNat) s 0 ((seen.add 24).add 13)
    have hz : digN text (min 4294967295 ((lim : Int) - (s : Nat)).toNat) s = 0 := by
      obtain ⟨k, hk⟩ : ∃ k, min 4294967295 ((lim : Int) - (s : Nat)).toNat = k + 1 := ⟨min 4294967295 ((lim : Int) - (s : Nat)).toNat - 1, by omega⟩
      rw [hk]; unfold digN; rw [hd]; rfl
    rw [hz] at e
    refine ⟨s', .one rfl ?_⟩
    show (if ((1 : Nat) : Int) > (lim : Int) - (s : Nat) then _ else match Sre.run CODE text 13 (min 4294967295 ((lim : Int) - (s : Nat)).toNat) s 0 ((seen.add 24).add 13) with | .error why => _ | .ok (n, seen) => _) = _
    rw [if_neg hr, e]
    rfl

/-- the second alternative -/
def mD (text : Array Nat) (lim s : Nat) (first : Bool) (marks : Array (Option Nat)) (seen : Sre.Seen) : Sre.M :=
  { mC text lim s first marks seen with frames := { wait := .nextBranch, pc := 22, pos := s, outermost := first, kept := kB } :: (mA text lim s first marks seen).frames, pc := 23 }
theorem goD : Goes 1 (mF text lim s first marks seen) (mD text lim s first marks seen) := .one rfl rfl
theorem goG (h : lim ≤ s ∨ mrk (text.getD s 0) = false) : ∃ seen', Goes 1 (mD text lim s first marks seen) { mD text lim s first marks seen' with answer := some false } := by
  by_cases hr : s ≥ lim
  · refine ⟨seen.add 13, .one rfl ?_⟩
    show (if s ≥ lim then _ else _) = _
    rw [if_pos hr]; rfl
  · obtain ⟨s', e⟩ := acc_mrk (text.getD s 0) (seen.add 13)
    rw [h.resolve_left hr] at e
    refine ⟨s', .one rfl ?_⟩
    show (if s ≥ lim then _ else match Sre.accepts CODE 23 (text.getD s 0) (seen.add 13) with | .error why => _ | .ok (false, seen) => _ | .ok (true, seen) => _) = _
    rw [if_neg hr, e]; rfl
/-- no alternative is left -/
def mN (text : Array Nat) (lim s : Nat) (first : Bool) (marks : Array (Option Nat)) (seen : Sre.Seen) : Sre.M :=
  { mB text lim s first marks seen with answer := some false, pc := 22 }
theorem goN : Goes 1 { mD text lim s first marks seen with answer := some false } (mN text lim s first marks seen) := .one rfl rfl
theorem goA (h : s < lim) : Goes 1 (mN text lim s first marks seen) (mA text lim (s + 1) false (marks.setIfInBounds 0 (some s)) seen) := by
  refine .one rfl ?_
  show (if s < lim then _ else _) = _
  rw [if_pos h]; rfl
/-- the next place -/
theorem go_next (hs : s < lim) (h1 : dig (text.getD s 0) = false) (h2 : mrk (text.getD s 0) = false) :
    ∃ seen', Goes 7 (mA text lim s first marks seen) (mA text lim (s + 1) false (marks.setIfInBounds 0 (some s)) seen') := by
  obtain ⟨s1, g1⟩ := goB (text := text) (lim := lim) (s := s) (first := first) (marks := marks) (seen := seen)
  obtain ⟨s2, g2⟩ := goC (text := text) (lim := lim) (s := s) (first := first) (marks := marks) (seen := s1)
  obtain ⟨s3, g3⟩ := goF (text := text) (lim := lim) (s := s) (first := first) (marks := marks) (seen := s2) (.inr h1)
  obtain ⟨s4, g4⟩ := goG (text := text) (lim := lim) (s := s) (first := first) (marks := marks) (seen := s3) (.inr h2)
  exact ⟨s4, ((((((g1.trans g2).trans g3).trans goD).trans g4).trans goN).trans (goA hs))⟩
/-- nothing is found -/
theorem go_fail (hs : lim ≤ s) : ∃ seen', Goes 8 (mA text lim s first marks seen) { mN text lim s first marks seen' with outcome := some .failed, frames := [], weight := 0, pc := 5 } := by
  obtain ⟨s1, g1⟩ := goB (text := text) (lim := lim) (s := s) (first := first) (marks := marks) (seen := seen)
  obtain ⟨s2, g2⟩ := goC (text := text) (lim := lim) (s := s) (first := first) (marks := marks) (seen := s1)
  obtain ⟨s3, g3⟩ := goF (text := text) (lim := lim) (s := s) (first := first) (marks := marks) (seen := s2) (.inl hs)
  obtain ⟨s4, g4⟩ := goG (text := text) (lim := lim) (s := s) (first := first) (marks := marks) (seen := s3) (.inl hs)
  refine ⟨s4, ((((((g1.trans g2).trans g3).trans goD).trans g4).trans goN).trans (.one (m' := { mN text lim s first marks s4 with frames := [], weight := 0, pc := 5 }) rfl ?_)).trans (.one rfl rfl)⟩
  show (if s < lim then _ else _) = _
  rw [if_neg (by omega)]; rfl

/-- what a found machine tells -/
structure Found (m : Sre.M) (s e : Nat) : Prop where
  out : m.outcome = some .matched
  start : m.start = s
  handed : m.handed = e
  lastmark : m.lastmark = 1
  m0 : m.marks.getD 0 none = some s
  m1 : m.marks.getD 1 none = some e

theorem marks_get {marks : Array (Option Nat)} (hm : marks.size = 2) (s e : Nat) :
    ((marks.setIfInBounds 0 (some s)).setIfInBounds 1 (some e)).getD 0 none = some s ∧ ((marks.setIfInBounds 0 (some s)).setIfInBounds 1 (some e)).getD 1 none = some e := by
  obtain ⟨l⟩ := marks
  match l, hm with
  | [a, b], _ => exact ⟨rfl, rfl⟩


/-- behind an item that fits: at pc, frames fs wait -/
def mG (text : Array Nat) (lim s : Nat) (first : Bool) (marks : Array (Option Nat)) (seen : Sre.Seen) (pos pc handed : Nat) (frames : List Sre.Frame) (weight : Nat) : Sre.M :=
  { mA text lim s first marks seen with marks := marks.setIfInBounds 0 (some s), lastmark := 0, pc, pos, handed, frames, weight }
def mH (text : Array Nat) (lim s : Nat) (first : Bool) (marks : Array (Option Nat)) (seen : Sre.Seen) (e pos pc handed : Nat) (frames : List Sre.Frame) (weight : Nat) (answer : Option Bool) (outcome : Option Sre.Outcome) : Sre.M :=
  { mA text lim s first marks seen with marks := (marks.setIfInBounds 0 (some s)).setIfInBounds 1 (some e), lastmark := 1, lastindex := 1, pc, pos, handed, frames, weight, answer, outcome }
variable {e pos handed weight : Nat} {frames : List Sre.Frame}
theorem goJ1 : ∃ seen', Goes 1 (mG text lim s first marks seen e 20 handed frames weight) (mG text lim s first marks seen' e 38 handed frames weight) := ⟨_, .one rfl rfl⟩
theorem goJ2 : ∃ seen', Goes 1 (mG text lim s first marks seen e 35 handed frames weight) (mG text lim s first marks seen' e 38 handed frames weight) := ⟨_, .one rfl rfl⟩
theorem goK : ∃ seen', Goes 1 (mG text lim s first marks seen e 38 handed frames weight) (mH text lim s first marks seen' e e 40 handed frames weight none none) := by
  refine ⟨seen.add 17, .one rfl ?_⟩
  show Sre.M.mark { mG text lim s first marks seen e 38 handed frames weight with seen := seen.add 17 } 1 = _
  show ({ mG text lim s first marks seen e 38 handed frames weight with seen := seen.add 17, marks := (if ((1 : Nat) : Int) ≤ 0 + 1 then marks.setIfInBounds 0 (some s) else _).setIfInBounds 1 (some e), lastmark := 1, lastindex := 1, pc := 40 } : Sre.M) = _
  rw [if_pos (by decide)]
  rfl
theorem goS : ∃ seen', Goes 1 (mH text lim s first marks seen e e 40 handed frames weight none none) (mH text lim s first marks seen' e e 40 e frames weight (some true) none) := by
  refine ⟨seen.add 1, .one rfl ?_⟩
  cases first <;> rfl
theorem goP {f : Sre.Frame} (hf : f.wait = .nextStart ∨ f.wait = .nextBranch ∨ f.wait = .giveBack) (hk : f.kept.marks = #[]) (ho : f.outermost = first) {pc : Nat} :
    Goes 1 (mH text lim s first marks seen e pos pc handed (f :: frames) (weight + 1) (some true) none) (mH text lim s first marks seen e f.pos f.pc handed frames weight (some true) none) := by
  refine .one rfl ?_
  obtain ⟨wt, fpc, fpos, fo, fc, fk, fl, fb⟩ := f
  obtain ⟨k1, k2, k3, k4⟩ := fk
  cases hk
  cases ho
  rcases hf with h | h | h <;> (cases h; rfl)
theorem goO {pc : Nat} : Goes 1 (mH text lim s first marks seen e pos pc handed [] weight (some true) none) (mH text lim s first marks seen e pos pc handed [] weight (some true) (some .matched)) := .one rfl rfl
theorem found_H {pc : Nat} {a : Option Bool} (hm : marks.size = 2) : Found (mH text lim s first marks seen e pos pc e frames weight a (some .matched)) s e :=
  ⟨rfl, rfl, rfl, rfl, (marks_get hm s e).1, (marks_get hm s e).2⟩

theorem go_mark (hm : marks.size = 2) (hs : s < lim) (h1 : dig (text.getD s 0) = false) (h2 : mrk (text.getD s 0) = true) :
    ∃ m', Goes 11 (mA text lim s first marks seen) m' ∧ Found m' s (s + 1) := by
  obtain ⟨s1, g1⟩ := goB (text := text) (lim := lim) (s := s) (first := first) (marks := marks) (seen := seen)
  obtain ⟨s2, g2⟩ := goC (text := text) (lim := lim) (s := s) (first := first) (marks := marks) (seen := s1)
  obtain ⟨s3, g3⟩ := goF (text := text) (lim := lim) (s := s) (first := first) (marks := marks) (seen := s2) (.inr h1)
  obtain ⟨s4, e⟩ := acc_mrk (text.getD s 0) (s3.add 13)
  rw [h2] at e
  have g4 : Goes 1 (mD text lim s first marks s3) (mG text lim s first marks s4 (s + 1) 35 s [{ wait := .nextBranch, pc := 22, pos := s, outermost := first, kept := kB }, { wait := .nextStart, pc := 5, pos := s, outermost := first }] 2) := by
    refine .one rfl ?_
    show (if s ≥ lim then _ else match Sre.accepts CODE 23 (text.getD s 0) (s3.add 13) with | .error why => _ | .ok (false, seen) => _ | .ok (true, seen) => _) = _
    rw [if_neg (Nat.not_le.mpr hs), e]; rfl
  obtain ⟨s5, g5⟩ := goJ2 (text := text) (lim := lim) (s := s) (first := first) (marks := marks) (seen := s4) (e := s + 1) (handed := s) (frames := [{ wait := .nextBranch, pc := 22, pos := s, outermost := first, kept := kB }, { wait := .nextStart, pc := 5, pos := s, outermost := first }]) (weight := 2)
  obtain ⟨s6, g6⟩ := goK (text := text) (lim := lim) (s := s) (first := first) (marks := marks) (seen := s5) (e := s + 1) (handed := s) (frames := [{ wait := .nextBranch, pc := 22, pos := s, outermost := first, kept := kB }, { wait := .nextStart, pc := 5, pos := s, outermost := first }]) (weight := 2)
  obtain ⟨s7, g7⟩ := goS (text := text) (lim := lim) (s := s) (first := first) (marks := marks) (seen := s6) (e := s + 1) (handed := s) (frames := [{ wait := .nextBranch, pc := 22, pos := s, outermost := first, kept := kB }, { wait := .nextStart, pc := 5, pos := s, outermost := first }]) (weight := 2)
  exact ⟨_, (((((((((g1.trans g2).trans g3).trans goD).trans g4).trans g5).trans g6).trans g7).trans (goP (f := { wait := .nextBranch, pc := 22, pos := s, outermost := first, kept := kB }) (.inr (.inl rfl)) rfl rfl)).trans (goP (f := { wait := .nextStart, pc := 5, pos := s, outermost := first }) (.inl rfl) rfl rfl)).trans goO, found_H hm⟩
theorem go_dig (hm : marks.size = 2) (hs : s < lim) (hl : lim < 4294967295) (h1 : dig (text.getD s 0) = true) :
    ∃ m', Goes 10 (mA text lim s first marks seen) m' ∧ Found m' s (s + digN text (lim - s) s) := by
  obtain ⟨s1, g1⟩ := goB (text := text) (lim := lim) (s := s) (first := first) (marks := marks) (seen := seen)
  obtain ⟨s2, g2⟩ := goC (text := text) (lim := lim) (s := s) (first := first) (marks := marks) (seen := s1)
  have hr : ¬ ((1 : Nat) : Int) > (lim : Int) - (s : Nat) := by omega
  obtain ⟨s3, e⟩ := run_dig text (min 4294967295 ((lim : Int) - (s : Nat)).toNat) s 0 ((s2.add 24).add 13)
  have hmin : min 4294967295 ((lim : Int) - (s : Nat)).toNat = lim - s := by omega
  have hn : digN text (lim - s) s ≠ 0 := by
    obtain ⟨k, hk⟩ : ∃ k, lim - s = k + 1 := ⟨lim - s - 1, by omega⟩
    rw [hk]; unfold digN; rw [h1]; exact Nat.succ_ne_zero _
  rw [Nat.zero_add] at e
  rw [hmin] at e
  generalize digN text (lim - s) s = n at *
  have g3 : Goes 1 (mC text lim s first marks s2) (mG text lim s first marks s3 (s + n) 20 (s + n) [{ wait := .giveBack, pc := 9, pos := s + n, outermost := first, count := n, kept := kB }, { wait := .nextBranch, pc := 8, pos := s, outermost := first, kept := kB }, { wait := .nextStart, pc := 5, pos := s, outermost := first }] 3) := by
    refine .one rfl ?_
    show (if ((1 : Nat) : Int) > (lim : Int) - (s : Nat) then _ else match Sre.run CODE text 13 (min 4294967295 ((lim : Int) - (s : Nat)).toNat) s 0 ((s2.add 24).add 13) with | .error why => _ | .ok (n, seen) => if n < 1 then _ else _) = _
    rw [if_neg hr, hmin, e]
    dsimp only
    rw [if_neg (by omega)]
    rfl
  obtain ⟨s5, g5⟩ := goJ1 (text := text) (lim := lim) (s := s) (first := first) (marks := marks) (seen := s3) (e := s + n) (handed := s + n) (frames := [{ wait := .giveBack, pc := 9, pos := s + n, outermost := first, count := n, kept := kB }, { wait := .nextBranch, pc := 8, pos := s, outermost := first, kept := kB }, { wait := .nextStart, pc := 5, pos := s, outermost := first }]) (weight := 3)
  obtain ⟨s6, g6⟩ := goK (text := text) (lim := lim) (s := s) (first := first) (marks := marks) (seen := s5) (e := s + n) (handed := s + n) (frames := [{ wait := .giveBack, pc := 9, pos := s + n, outermost := first, count := n, kept := kB }, { wait := .nextBranch, pc := 8, pos := s, outermost := first, kept := kB }, { wait := .nextStart, pc := 5, pos := s, outermost := first }]) (weight := 3)
  obtain ⟨s7, g7⟩ := goS (text := text) (lim := lim) (s := s) (first := first) (marks := marks) (seen := s6) (e := s + n) (handed := s + n) (frames := [{ wait := .giveBack, pc := 9, pos := s + n, outermost := first, count := n, kept := kB }, { wait := .nextBranch, pc := 8, pos := s, outermost := first, kept := kB }, { wait := .nextStart, pc := 5, pos := s, outermost := first }]) (weight := 3)
  exact ⟨_, (((((((((g1.trans g2).trans g3).trans g5).trans g6).trans g7).trans (goP (f := { wait := .giveBack, pc := 9, pos := s + n, outermost := first, count := n, kept := kB }) (.inr (.inr rfl)) rfl rfl)).trans (goP (f := { wait := .nextBranch, pc := 8, pos := s, outermost := first, kept := kB }) (.inr (.inl rfl)) rfl rfl)).trans (goP (f := { wait := .nextStart, pc := 5, pos := s, outermost := first }) (.inl rfl) rfl rfl)).trans goO), found_H hm⟩
end
end Mj
end

section
open PySem PySem.W PyProof.Rows
namespace Mj

/-- where the next match lies in l, and how long it is -/
def nextTok : List Nat → Option (Nat × Nat)
  | [] => none
  | c :: r => if dig c then some (0, ((c :: r).takeWhile dig).length) else if mrk c then some (0, 1) else (nextTok r).map fun x => (x.1 + 1, x.2)

theorem drop_get {text : Array Nat} {s c : Nat} {r : List Nat} (h : text.toList.drop s = c :: r) : text.getD s 0 = c ∧ text.toList.drop (s + 1) = r ∧ s < text.size := by
  have hs : s < text.toList.length := by
    rcases Nat.lt_or_ge s text.toList.length with q | q
    · exact q
    · rw [List.drop_eq_nil_of_le q] at h; cases h
  rw [List.drop_eq_getElem_cons hs] at h
  injection h with h1 h2
  have hs' : s < text.size := by rwa [Array.length_toList] at hs
  refine ⟨?_, h2, hs'⟩
  rw [Array.getD_eq_getD_getElem?, Array.getElem?_eq_getElem hs', ← h1]; rfl

theorem digN_take (text : Array Nat) : ∀ (l : List Nat) (s : Nat), text.toList.drop s = l → digN text l.length s = (l.takeWhile dig).length
  | [], s, _ => rfl
  | c :: r, s, h => by
    obtain ⟨h1, h2, _⟩ := drop_get h
    have := digN_take text r (s + 1) h2
    simp only [List.length_cons, digN, h1, List.takeWhile_cons]
    cases dig c with
    | true => simp [this]
    | false => rfl

/-- the search from s on -/
theorem search (text : Array Nat) (hl : text.size < 4294967295) : ∀ (l : List Nat) (s : Nat) (first : Bool) (marks : Array (Option Nat)) (seen : Sre.Seen), text.toList.drop s = l → s ≤ text.size → marks.size = 2 →
    match nextTok l with
    | none => ∃ k m', k ≤ 7 * l.length + 11 ∧ Goes k (mA text text.size s first marks seen) m' ∧ m'.outcome = some .failed
    | some (a, n) => ∃ k m', k ≤ 7 * l.length + 11 ∧ Goes k (mA text text.size s first marks seen) m' ∧ Found m' (s + a) (s + a + n)
  | [], s, first, marks, seen, h, hle, hm => by
    have hs : text.size ≤ s := by
      have := congrArg List.length h
      rw [List.length_drop, Array.length_toList] at this
      simp at this; omega
    obtain ⟨s', g⟩ := go_fail (text := text) (first := first) (marks := marks) (seen := seen) hs
    exact ⟨8, _, by simp, g, rfl⟩
  | c :: r, s, first, marks, seen, h, hle, hm => by
    obtain ⟨h1, h2, h3⟩ := drop_get h
    have hlen : (c :: r).length = text.size - s := by
      rw [← h, List.length_drop, Array.length_toList]
    unfold nextTok
    cases hd : dig c with
    | true =>
      obtain ⟨m', g, f⟩ := go_dig (text := text) (first := first) (seen := seen) hm h3 hl (by rw [h1]; exact hd)
      refine ⟨10, m', by omega, g, ?_⟩
      rw [← hlen, digN_take text _ s h] at f
      exact f
    | false =>
      cases hk : mrk c with
      | true =>
        obtain ⟨m', g, f⟩ := go_mark (text := text) (first := first) (seen := seen) hm h3 (by rw [h1]; exact hd) (by rw [h1]; exact hk)
        exact ⟨11, m', by omega, g, f⟩
      | false =>
        obtain ⟨s', g⟩ := go_next (text := text) (first := first) (marks := marks) (seen := seen) h3 (by rw [h1]; exact hd) (by rw [h1]; exact hk)
        have ih := search text hl r (s + 1) false (marks.setIfInBounds 0 (some s)) s' h2 h3 (by rw [Array.size_setIfInBounds]; exact hm)
        cases hn : nextTok r with
        | none =>
          rw [hn] at ih
          obtain ⟨k, m', hk, g', f⟩ := ih
          exact ⟨7 + k, m', by rw [List.length_cons]; omega, g.trans g', f⟩
        | some x =>
          rw [hn] at ih
          obtain ⟨a, n⟩ := x
          obtain ⟨k, m', hk, g', f⟩ := ih
          refine ⟨7 + k, m', by rw [List.length_cons]; omega, g.trans g', ?_⟩
          show Found m' (s + (a + 1)) (s + (a + 1) + n)
          rw [show s + (a + 1) = s + 1 + a by omega]
          exact f

theorem forSearch_in {text : Array Nat} {s : Nat} (h : s < text.size) : Sre.forSearch CODE text 1 s text.size false = mA text text.size s true #[none, none] (({} : Sre.Seen).add 14) := by
  show (if (decide (s > text.size) || decide (text.size - s < 1)) = true then _ else _) = _
  rw [if_neg (by simp; omega)]
  rfl
theorem forSearch_out {text : Array Nat} {s : Nat} (h : text.size ≤ s) : ∃ m', Goes 1 (Sre.forSearch CODE text 1 s text.size false) m' ∧ m'.outcome = some .failed := by
  have e : Sre.forSearch CODE text 1 s text.size false = { mA text text.size s true #[none, none] (({} : Sre.Seen).add 14) with lastStart := 0, frames := [], weight := 0, answer := some false } := by
    show (if (decide (s > text.size) || decide (text.size - s < 1)) = true then _ else _) = _
    rw [if_pos (by simp; omega)]
    rfl
  rw [e]
  exact ⟨_, .one rfl rfl, rfl⟩

/-- the search as the split calls it -/
theorem search_all (text : Array Nat) (hl : text.size < 4294967295) (s : Nat) (hs : s ≤ text.size) :
    match nextTok (text.toList.drop s) with
    | none => ∃ k m', k ≤ 7 * text.size + 11 ∧ Goes k (Sre.forSearch CODE text 1 s text.size false) m' ∧ m'.outcome = some .failed
    | some (a, n) => ∃ k m', k ≤ 7 * text.size + 11 ∧ Goes k (Sre.forSearch CODE text 1 s text.size false) m' ∧ Found m' (s + a) (s + a + n) := by
  by_cases h : s < text.size
  · have x := search text hl _ s true #[none, none] (({} : Sre.Seen).add 14) rfl hs rfl
    rw [forSearch_in h]
    have hlen : (text.toList.drop s).length ≤ text.size := by rw [List.length_drop, Array.length_toList]; omega
    cases hn : nextTok (text.toList.drop s) with
    | none =>
      rw [hn] at x
      obtain ⟨k, m', hk, r⟩ := x
      exact ⟨k, m', by omega, r⟩
    | some y =>
      rw [hn] at x
      obtain ⟨k, m', hk, r⟩ := x
      exact ⟨k, m', by omega, r⟩
  · have e : text.toList.drop s = [] := List.drop_eq_nil_of_le (by rw [Array.length_toList]; omega)
    rw [e]
    obtain ⟨m', g, f⟩ := forSearch_out (text := text) (s := s) (by omega)
    exact ⟨1, m', by omega, g, f⟩

theorem runFor_add (m : Sre.M) : ∀ a b, Sre.M.runFor (a + b) m = Sre.M.runFor b (Sre.M.runFor a m) := by
  intro a
  induction a generalizing m with
  | zero => intro b; rw [Nat.zero_add]; rfl
  | succ a ih =>
    intro b
    rw [Nat.add_right_comm]
    show (if m.outcome.isSome then m else Sre.M.runFor (a + b) m.step) = Sre.M.runFor b (if m.outcome.isSome then m else Sre.M.runFor a m.step)
    cases h : m.outcome.isSome with
    | true =>
      rw [if_pos rfl, if_pos rfl]
      cases b with
      | zero => rfl
      | succ b =>
        show _ = (if m.outcome.isSome then m else _)
        rw [h, if_pos rfl]
    | false => rw [if_neg Bool.false_ne_true, if_neg Bool.false_ne_true]; exact ih _ b
theorem runFor_done {m : Sre.M} (h : m.outcome.isSome = true) : ∀ b, Sre.M.runFor b m = m
  | 0 => rfl
  | b + 1 => by
    show (if m.outcome.isSome then m else _) = _
    rw [h, if_pos rfl]

section
variable {w : World} {A : Around} {E : Value → Shared → Prop} {s : Shared}
theorem drive {Q : Sre.M → Shared → Prop} {m' : Sre.M} (hm : m'.outcome.isSome = true) (q : Q m' s) : ∀ (turns k : Nat) (m : Sre.M), Goes k m m' → k < 4 * turns → wpAny (model PG w) A (Builtin.Re.reDrive turns m) Q E s
  | 0, k, m, g, hk => by omega
  | turns + 1, k, m, g, hk => by
    have e : Sre.M.runFor k m = m' := g 0
    unfold Builtin.Re.reDrive
    show wpAny (model PG w) A (if (Sre.M.runFor 4 m).outcome.isSome then pure (Sre.M.runFor 4 m) else do rule "sre.turn"; Builtin.Re.reDrive turns (Sre.M.runFor 4 m)) Q E s
    by_cases h4 : k ≤ 4
    · have e4 : Sre.M.runFor 4 m = m' := by
        rw [show 4 = k + (4 - k) by omega, runFor_add, e, runFor_done hm]
      rw [e4, if_pos hm]
      exact wpAny_pure q
    · by_cases h : (Sre.M.runFor 4 m).outcome.isSome = true
      · rw [if_pos h]
        have : Sre.M.runFor 4 m = m' := by
          rw [← e, show k = 4 + (k - 4) by omega, runFor_add, runFor_done h]
        rw [this]; exact wpAny_pure q
      · rw [if_neg h]
        refine wpAny_bind (wpAny_rule ?_)
        refine drive hm q turns (k - 4) _ (fun n => ?_) (by omega)
        have := g n
        rw [show k + n = 4 + (k - 4 + n) by omega, runFor_add] at this
        exact this

theorem runToEnd {Q : Option Sre.M → Shared → Prop} {m m' : Sre.M} {k : Nat} (g : Goes k m m') (hk : k < 4 * 2 ^ 64) (hm : m'.outcome = some .matched ∨ m'.outcome = some .failed) (q : Q (if m'.outcome matches some .matched then some m' else none) s) :
    wpAny (model PG w) A (Builtin.Re.reRunToEnd m) Q E s := by
  unfold Builtin.Re.reRunToEnd
  refine wpAny_bind (drive (by rcases hm with h | h <;> rw [h] <;> rfl) ?_ _ k m g hk)
  refine wpAny_bind (wpAny_forIn_list _ (fun _ _ s' => s' = s) _ (fun x rest b s₁ hs => ?_) (fun b s₁ hs => ?_) _ _ rfl)
  · subst hs
    by_cases hh : m'.seen.has x = true
    · rw [if_pos hh]; exact wpAny_bind (wpAny_rule (wpAny_pure rfl))
    · rw [if_neg hh]; exact wpAny_pure rfl
  · subst hs
    rcases hm with h | h <;> (rw [h] at q ⊢; exact wpAny_pure q)
end
end Mj
end

section
open PySem PySem.W PyProof.Rows
namespace Mj
def toS (l : List Nat) : Str := ⟨l.toArray⟩

def splitT (l : List Nat) : List (List Nat) :=
  match nextTok l with
  | none => [l]
  | some (a, n) => if _h : (l.drop (a + n)).length < l.length then l.take a :: (l.drop a).take n :: splitT (l.drop (a + n)) else [l]
termination_by l.length
decreasing_by exact _h
theorem splitT_none {l : List Nat} (h : nextTok l = none) : splitT l = [l] := by rw [splitT, h]
theorem splitT_some {l : List Nat} {a n : Nat} (h : nextTok l = some (a, n)) (hl : (l.drop (a + n)).length < l.length) : splitT l = l.take a :: (l.drop a).take n :: splitT (l.drop (a + n)) := by
  rw [splitT, h]
  simp only
  rw [dif_pos hl]
theorem nextTok_bound : ∀ {l : List Nat} {a n : Nat}, nextTok l = some (a, n) → 0 < n ∧ a + n ≤ l.length
  | [], a, n, h => by cases h
  | c :: r, a, n, h => by
    unfold nextTok at h
    cases hd : dig c with
    | true =>
      rw [hd, if_pos rfl] at h
      cases h
      refine ⟨by simp [hd], ?_⟩
      have := (List.takeWhile_prefix (p := dig) (l := c :: r)).length_le
      omega
    | false =>
      rw [hd, if_neg Bool.false_ne_true] at h
      cases hk : mrk c with
      | true => rw [hk, if_pos rfl] at h; cases h; simp
      | false =>
        rw [hk, if_neg Bool.false_ne_true] at h
        cases hn : nextTok r with
        | none => rw [hn] at h; cases h
        | some x =>
          obtain ⟨a', n'⟩ := x
          rw [hn] at h
          cases h
          have := nextTok_bound hn
          simp; omega
theorem splitT_len (l : List Nat) : (splitT l).length ≤ 2 * l.length + 1 := by
  induction hk : l.length using Nat.strongRecOn generalizing l with
  | ind k ih =>
    cases hn : nextTok l with
    | none => rw [splitT_none hn]; simp
    | some y =>
      obtain ⟨a, n⟩ := y
      have hb := nextTok_bound hn
      have hlt : (l.drop (a + n)).length < l.length := by rw [List.length_drop]; omega
      rw [splitT_some hn hlt]
      have := ih _ (hk ▸ hlt) _ rfl
      rw [List.length_drop] at this
      simp only [List.length_cons, List.length_drop]
      omega
theorem extract_toS (text : Array Nat) (b e : Nat) : (⟨text.extract b e⟩ : Str) = toS ((text.toList.drop b).take (e - b)) := by
  unfold toS
  congr 1
  apply Array.ext'
  simp [Array.toList_extract, List.extract_eq_take_drop]

section
variable {h h' : Heap} {w : World} {mg mb : Str → Option Value} {hg : Heap} {A : Around} {E : Value → Shared → Prop} {s₀ : Shared} {tk : Nat}
theorem slice_ok {text : Array Nat} {b e : Nat} {Q : Value → Shared → Prop} (hs : text.size ≤ sizeLine) (q : ∀ t tk', Q (.str (toS ((text.toList.drop b).take (e - b))) t) (St s₀ h tk')) :
    wpAny (model PG w) A (Builtin.Re.reSlice text 0 b e) Q E (St s₀ h tk) := by
  show wpAny (model PG w) A (mkStr ⟨text.extract b e⟩) Q E (St s₀ h tk)
  refine wpAny_mkStr ?_ ?_
  · rw [extract_toS]; exact q _ _
  · show (text.extract b e).size ≤ sizeLine
    rw [Array.size_extract]; omega

theorem split_body {ver : Str} {t : Tok} {Q : Fin → Shared → Prop} (T : Tp w hg mg mb) (B : Bs hg h) (hv : ver.cps.size < 1000)
    (q : ∀ vs h' tk', StrsAre vs ((splitT ver.cps.toList).map toS) → h' = h.push (lstO vs 0) → Q (.done (.ret (.ref h.objs.size))) (St s₀ h' tk')) :
    wpAny (model PG w) A (Builtin.«re.Pattern.split» ⟨[.ref 36, .str ver t], []⟩) Q E (St s₀ h tk) := by
  have en : Builtin.Re.reNamed "re.Pattern.split" "split" ["string", "maxsplit"] 1 [.str ver t] [] = pure [some (.str ver t), none] := by rfl
  unfold Builtin.«re.Pattern.split»
  refine wpAny_bind (m := Builtin.Re.reNamed "re.Pattern.split" "split" ["string", "maxsplit"] 1 [.str ver t] []) ?_
  rw [en]
  refine wpAny_pure ?_
  dsimp only
  refine wpAny_bind (wpAny_pure ?_)
  refine wpAny_bind (m := Builtin.Re.reWholeTarget (.ref 36) (.str ver t)) ?_
  unfold Builtin.Re.reWholeTarget
  obtain ⟨v0, v1, hp⟩ := T.pat
  obtain ⟨xs, hx, hcode⟩ := T.code
  refine wpAny_bind (wpAny_fieldsOf (B _ _ hp) rfl ?_)
  refine wpAny_bind (m := Builtin.Re.reTextOf (.str ver t)) ?_
  unfold Builtin.Re.reTextOf
  refine wpAny_bind (m := asStr? (.str ver t)) (wpAny_pure ?_)
  refine wpAny_pure ?_
  refine wpAny_bind (m := Builtin.Re.reNoCollectionInside (.str ver t) 0) (wpAny_pure ?_)
  refine wpAny_bind (m := Builtin.Re.reRawItems (.ref 35)) ?_
  unfold Builtin.Re.reRawItems seqItems?
  refine wpAny_bind (wpAny_bind (wpAny_load (B _ _ hx) (wpAny_pure (wpAny_pure ?_))))
  refine wpAny_pure ?_
  rw [show (Array.map (fun x : Int => x.toNat) ((some xs : Option (Array Value)).getD #[] |>.map Builtin.Re.reRawOf)) = CODE from hcode]
  have hsz : ver.cps.size ≤ sizeLine := Nat.le_trans (Nat.le_of_lt hv) (by decide)
  generalize hX : ver.cps.toList = L at q
  have hL : L.length = ver.cps.size := by rw [← hX, Array.length_toList]
  refine wpAny_bind (wpAny_forIn_list _ (fun rest (b : Array Value × Nat × Nat × Bool × Int × Bool) s' => ∃ (tk' : Nat) (pieces : List (List Nat)), s' = St s₀ h tk' ∧ StrsAre b.1.toList (pieces.map toS) ∧ b.2.2.1 ≤ L.length ∧
      ((b.2.2.2.2.2 = false ∧ b.2.1 = b.2.2.1 ∧ b.2.2.2.1 = false ∧ (L.length - b.2.2.1) + 2 ≤ rest.length ∧ pieces ++ splitT (L.drop b.2.2.1) = splitT L) ∨ (b.2.2.2.2.2 = true ∧ pieces ++ [L.drop b.2.2.1] = splitT L)))
    (fun b s' => wpAny (model PG w) A _ _ _ s') ?_ ?_ _ _ ⟨tk, [], rfl, .nil, Nat.zero_le _, .inl ⟨rfl, rfl, rfl, ?_, rfl⟩⟩)
  · rintro x rest ⟨out, start, last, must, n, over⟩ s' ⟨tk', pieces, rfl, hs, hle, hI⟩
    dsimp only at hs hle hI ⊢
    rcases hI with ⟨rfl, rfl, rfl, hr, hp⟩ | ⟨rfl, hp⟩
    · refine wpAny_bind ?_
      show wpAny (model PG w) A (Builtin.Re.reNextFound _ start false) _ _ _
      unfold Builtin.Re.reNextFound
      have hs := search_all ver.cps (by omega) start (by omega)
      rw [hX] at hs
      cases hn : nextTok (L.drop start) with
      | none =>
        rw [hn] at hs
        obtain ⟨k, m', hk, g, f⟩ := hs
        refine runToEnd g (by omega) (.inr f) ?_
        rw [f]
        refine wpAny_pure ?_
        exact ⟨tk', pieces, rfl, ‹_›, hle, .inr ⟨rfl, by rw [← hp, splitT_none hn]⟩⟩
      | some y =>
        obtain ⟨a, len⟩ := y
        rw [hn] at hs
        obtain ⟨k, m', hk, g, f⟩ := hs
        refine runToEnd g (by omega) (.inl f.out) ?_
        rw [f.out]
        show wpAny (model PG w) A (Builtin.Re.reSlice ver.cps 0 start m'.start >>= _) _ _ _
        refine wpAny_bind (slice_ok hsz fun t₁ tk₁ => ?_)
        refine wpAny_bind ?_
        show wpAny (model PG w) A (forIn [0] _ _) _ _ _
        rw [List.forIn_cons]
        refine wpAny_bind (wpAny_bind ?_)
        unfold Builtin.Re.reMachineGroup
        rw [if_neg (by rw [f.lastmark]; decide)]
        show wpAny (model PG w) A (match m'.marks.getD 0 none, m'.marks.getD 1 none with | some b, some e => if e < b then _ else _ | _, _ => _) _ _ _
        rw [f.m0, f.m1]
        dsimp only
        rw [if_neg (by omega)]
        refine slice_ok hsz fun t₂ tk₂ => ?_
        refine wpAny_pure (wpAny_pure (wpAny_pure ?_))
        have hb := nextTok_bound hn
        rw [List.length_drop] at hb
        have hlt : ((L.drop start).drop (a + len)).length < (L.drop start).length := by simp only [List.length_drop]; omega
        have hp2 := splitT_some hn hlt
        rw [List.drop_drop, List.drop_drop] at hp2
        refine ⟨tk₂, pieces ++ [(L.drop start).take a, (L.drop (start + a)).take len], rfl, ?_, ?_, .inl ⟨rfl, rfl, ?_, ?_, ?_⟩⟩
        · dsimp only
          rw [Array.toList_push, Array.toList_push, List.map_append, hX, f.start, Nat.add_sub_cancel_left, Nat.add_sub_cancel_left, List.append_assoc]
          have := (All2.snoc hs (a := Value.str (toS ((L.drop start).take a)) t₁) (b := toS ((L.drop start).take a)) ⟨_, rfl⟩).snoc (a := Value.str (toS ((L.drop (start + a)).take len)) t₂) (b := toS ((L.drop (start + a)).take len)) ⟨_, rfl⟩
          rw [List.append_assoc, List.append_assoc] at this
          exact this
        · dsimp only; rw [f.handed]; omega
        · dsimp only; rw [f.handed, f.start]; exact beq_eq_false_iff_ne.mpr (by omega)
        · dsimp only; rw [f.handed]; rw [List.length_cons] at hr; omega
        · dsimp only; rw [f.handed, ← hp, hp2, List.append_assoc, Nat.add_assoc]; rfl
    · refine wpAny_pure ?_
      exact ⟨tk', pieces, rfl, hs, hle, .inr ⟨rfl, hp⟩⟩
  · rintro ⟨out, start, last, must, n, over⟩ s' ⟨tk', pieces, rfl, hs, hle, hI⟩
    dsimp only at hs hle hI ⊢
    rcases hI with ⟨_, _, _, hr, _⟩ | ⟨rfl, hp⟩
    · simp at hr
    show wpAny (model PG w) A (Builtin.Re.reSlice ver.cps 0 last ver.cps.size >>= _) _ _ _
    refine wpAny_bind (slice_ok hsz fun t₁ tk₁ => ?_)
    refine wpAny_bind ?_
    have hst : StrsAre (out.push (Value.str (toS (List.take (ver.cps.size - last) (List.drop last ver.cps.toList))) t₁)).toList ((splitT L).map toS) := by
      rw [Array.toList_push, ← hp, List.map_append, hX]
      refine All2.snoc hs ⟨t₁, ?_⟩
      rw [List.take_of_length_le (by rw [List.length_drop]; omega)]
    refine wpAny_newObj_type ?_ ?_
    · exact wpAny_pure (q _ _ _ hst rfl)
    · have := All2.length hst
      rw [List.length_map] at this
      have := splitT_len L
      show (List.toArray _).size ≤ _
      rw [List.size_toArray]
      simp only [sizeLine]; omega
  · simp [Builtin.Re.reMostMatches]; omega
end
end Mj
end

section
open PySem PySem.W PyProof.Rows
namespace Mj
open PySem PySem.Spec PySem.Calls PyProof.Rows PySem.W
/-- the context of the claim's own call -/
abbrev Ctx0 : PySem.Ctx := ⟨.builtin "claim.caller" {}, none, none, [], none⟩

section
variable {c : ClaimW} {w : World} {s s₁ : Shared} {args : List WData} {vs : List Value} {free : Addr → Prop} {gens : Prop} {kept : Heap → Prop}
/-- what the claim asks of an end -/
abbrev EndOk (c : ClaimW) (s s₁ : Shared) (args : List WData) (vs : List Value) (kept : Heap → Prop) (r : Result) (s' : Shared) : Prop :=
  c.Ends s args vs s₁ r s' ∧ s'.os = s.os ∧ AllBare s'.gens ∧ kept s'.heap

/-- a run under the claim's own caller ends the claim's call -/
theorem callFrom_caller {tree : List Value → Sem Fin} (hz : s.asleep) (hg : s.gens = #[])
    (spec : ∀ args, c.pre args = true → WData.layableAll args = true → ∀ ord : List DictEntry → List DictEntry, (∀ l, (ord l).Perm l) →
      ∃ vs s₁, layAllW c.records (classAt s.heap) w.params ord args s = some (vs, s₁) ∧
        Sem.wp (model c.prog w) Ctx0 (tree vs) (fun fin _ s' => ∃ f, fin = .done f ∧ EndOk c s s₁ args vs kept (.ok f) s') (fun e _ s' => EndOk c s s₁ args vs kept (.error e) s') default s₁) :
    c.CallFrom (fun vs => ⟨tree vs, .builtin "claim.caller" {}, default, []⟩) w free gens kept s := by
  intro args hpre hlay ord hord
  obtain ⟨vs, s₁, hlaid, hwp⟩ := spec args hpre hlay ord hord
  have rest := layAllW_rest _ _ _ hlaid
  have hwp' : Sem.wp (model c.prog w) Ctx0 (tree vs) (Sem.finPost (model c.prog w) Ctx0 fun r s' => EndOk c s s₁ args vs kept r s' ∧ leftWithCleanup s'.gens = false)
      (fun e _ s' => EndOk c s s₁ args vs kept (.error e) s' ∧ leftWithCleanup s'.gens = false) default s₁ := by
    refine Sem.wp_mono _ _ _ (fun fin p' s' q => ?_) (fun e p' s' q => ⟨q, leftWithCleanup_false_of_bare q.2.2.1⟩) _ _ hwp
    obtain ⟨f, rfl, q⟩ := q
    exact ⟨q, leftWithCleanup_false_of_bare q.2.2.1⟩
  obtain ⟨n, r, sR, s', hsched, hrun, hforget, hends, hos, _, hkept⟩ := wp_halts_full (Shared.asleep_of_life rest.2.2.2 hz) hwp'
  obtain ⟨eh, _, _, eo, _⟩ := Shared.forget_eq hforget
  have hends' : c.Ends s args vs s₁ r s' := hends.congr eh
  have hlife : s'.heap.life = s.heap.life := (runN_life _ _ _ hrun).trans rest.2.2.2
  refine ⟨vs, s₁, hlaid, n, _, s', hsched, ?_, (fun _ i x hx => by rw [hg] at hx; simp at hx), ?_, by rw [hlife], Shared.rest_eq ?_⟩
  · rcases hends' with ⟨v, rfl, d1, d2, d3, d4, d5⟩ | ⟨e, ob, cls, rfl, d1, d2, d3, d4, d5⟩
    · exact .inl ⟨v, rfl, d1, d2, d3, fun b o y _ => d4 b o y, d5⟩
    · exact .inr ⟨e, ob, cls, rfl, d1, d2, d3, d4, fun b o y _ => d5 b o y⟩
  · rw [eh]; exact hkept
  · rw [eo]; exact hos
end

/-- the walk, at the caller's own context alone -/
abbrev WalkC (q : Program) (loose : List PySem.Str) (XP : (PySem.Str → Option Value) → Heap → Prop) (YP : World → Heap → Prop) (r : RowW) (d : DefRec) (kwd : List (PySem.Str × Expr)) : Prop :=
  ∀ (w : World) (s₀ s₁ : Shared) (mg mb : PySem.Str → Option Value), Ground q loose r.records XP w s₀ mg mb s₁.heap → YP w s₁.heap → ∀ (a : Addr) (o : Obj) (pm cd doc dV kV : Value), s₁.heap.get? a = some o →
    o.data = .func { docDef d.name d.params d.body d.scope pm cd doc with defaults := dV, kwdefaults := kV } → s₁.heap.CodeRec cd d.name → Dflts mg s₁.heap d.params kwd dV kV → mg d.name = some (.ref a) → s₁.gens = #[] →
    ∀ (args : List WData) (vals : List Value) (as : List Addr), r.claim.pre args = true → WData.layableAll args = true → ReadsAllW r.records (classAt s₀.heap) s₁.heap vals args as → WellAll w.params s₁.heap vals args → (∀ a ∈ as, (a == sysModules) = false) →
      ∀ p, Sem.wp (model r.prog w) Ctx0 (PySem.call (.ref a) vals) (fun v _ s' => GoodWG r.claim (classAt s₀.heap) (ExcName.means s₀.heap) args s₁ (.ok (.ret v)) s')
        (fun e _ s' => GoodWG r.claim (classAt s₀.heap) (ExcName.means s₀.heap) args s₁ (.error e) s') p s₁

theorem holds_caller {r : OpenRow} {q : Program} {loose : List PySem.Str} {Xt : Shared → Bool} {XP : (PySem.Str → Option Value) → Heap → Prop} {α : Type} {Yf : Shared → α} {Ya : World → α} {YP : World → Heap → Prop} {d : DefRec} {kwd : List (PySem.Str × Expr)} {N : Nat}
    (left : LeftO r.prog q loose Xt Yf Ya N) (hY : ∀ w s, Yf s = Ya w → YP w s.heap) (hYk : ∀ w h h', YP w h → (∀ b o, h.get? b = some o → h'.get? b = some o) → YP w h')
    (hX : ∀ s, Xt s = true → XP (s.heap.nsMap mainGlobals) s.heap) (hXk : ∀ mg h h', XP mg h → (∀ b o, h.get? b = some o → h'.get? b = some o) → XP mg h')
    (hdef : defOf q r.name = some (d, kwd)) (hp : r.prog.theDef r.name = some (d.params, d.body, d.scope)) (hk : kwWritten? d.params.kwonlyargs d.params.kw_defaults = some kwd) (hRf : ∀ s, Xt s = true → RecFacts r.records s.heap) (hwr : (!r.writes || r.records.isEmpty) = true)
    (k1 : r.wellSaid = true) (ok : (chainsOk q && opensWell r.prog && (frees r.toRowW && r.within.isEmpty)) = true) (hb : r.prog.bare) (hw : r.toRowW.promised)
    (walk : WalkC q loose XP YP r.toRowW d kwd) : r.Holds := by
  simp only [Bool.and_eq_true] at ok
  obtain ⟨⟨hch, hopen⟩, hfree, hwithin⟩ := ok
  obtain ⟨hsame, hu, ha, hap, hm⟩ := frees_parts hfree
  refine ⟨k1, hw, ⟨hb, hopen, by show r.toRowW.makers.map _ = []; rw [hm]; rfl⟩, hw.witness, fun w => ?_⟩
  have beh := left.behind (XP := fun mg h => XP mg h ∧ RecFacts r.records h) (fun s hs => ⟨hX s hs, hRf s hs⟩) hch w
  refine ⟨beh.1, fun s' hs' => ?_⟩
  obtain ⟨s₀, hf, hg0, s, hT, hz, hgens, hg, G', y⟩ := beh.2 s' hs'
  have RF := G'.X.2
  have G0 : Ground q loose [] XP w s (s.heap.nsMap mainGlobals) (s.heap.nsMap builtinsNs) s.heap := { G' with X := G'.X.1 }
  have hgens : s.gens = #[] := Array.eq_empty_of_size_eq_zero (beq_iff_eq.mp hgens)
  refine ⟨s₀, hf, hg0, s, hT, fun n hn => ?_, RF.1, RF.2.1, callFrom_caller hz hgens fun args hpre hlay ord hord => ?_⟩
  · obtain rfl : n = r.name := by split at hn <;> simp_all
    exact pinned_of_view hg G0 hdef hp hk
  have G := RF.ground G0
  obtain ⟨⟨vs, s₁⟩, hlaid⟩ := Option.isSome_iff_exists.mp (layAllW_isSome (P := w.params) (ord := ord) G.has args r.toRowW.args s (pre_splitW hpre).1)
  have keeps := layAllW_keeps _ _ _ hlaid
  have rest := layAllW_rest _ _ _ hlaid
  obtain ⟨as, hrd, hin, hold⟩ := reads_layAllW hord _ _ _ hlaid hlay s₁.heap (fun _ _ e => e)
  have L : Laid r.records w s s₁ args vs as := ⟨⟨ord, hord, hlaid⟩, hrd, hin, hold, keeps, rest.1.trans hgens, rest.2.2.1⟩
  have G₁ := G.keeps hXk keeps
  obtain ⟨a, o, pm, cd, doc, dV, kV, e1, e2, e3, e4, e5⟩ := G₁.fn hdef
  have run := walk w s s₁ _ _ G₁ (hYk _ _ _ (hY w s y) keeps) a o pm cd doc dV kV e2 e3 e4 e5 (defOf_name hdef ▸ e1) L.gens args vs as hpre hlay L.reads L.well (L.low G.low)
  have fin : ∀ (kps : List PySem.Str) res s'', GoodWG r.toRowW.claim (classAt s.heap) (ExcName.means s.heap) args s₁ res s'' → EndOk r.toRowW.claim s s₁ args vs (fun h' => r.writes = true → namesKept r.toRowW.claim.prog kps s.heap h' ∧ ∀ x ∈ r.toRowW.claim.records, ∀ a, classAt s.heap x.1 = some a → recordClass h' a x.1 (x.2.map (·.1)) = true) res s'' := fun kps res s'' g =>
    have z := g.laid (c := r.toRowW.claim) hsame (List.isEmpty_iff.mp hwithin) (ident_freeW hu ha hap) L
    ⟨z.1, z.2.1, z.2.2, fun qq => ⟨namesKept_of hT hg kps keeps g.2.1.old, noTable hwr qq⟩⟩
  refine ⟨vs, s₁, hlaid, ?_⟩
  simp only [Sem.wp_bind']
  refine (Sem.wp_nsGet (model r.prog w) Ctx0 _ _ s₁ G₁.T.g r.name _).mpr ?_
  rw [e1]
  simp only [Sem.wp_bind']
  exact Sem.wp_mono _ _ _ (fun v p' s'' g => ⟨_, rfl, fin _ _ _ g⟩) (fun e p' s'' g => fin _ _ _ g) _ _ (run _)
end Mj
end

section
open PySem PySem.W PyProof.Rows
namespace Mj
/-- the claim's caller stands below -/
def HasB (Γ : PySem.Ctx) : Prop := (Γ.below.map (·.1)).any Code.isCaller = true
/-- the claim's caller stands on the stack -/
def HasC (Γ : PySem.Ctx) : Prop := Γ.code.isCaller = true ∨ HasB Γ
theorem HasC.enter {Γ : PySem.Ctx} (x : HasC Γ) (c : Code) (h : Option Value) (p : Pos) : HasB (Γ.enter c h p) := by
  unfold HasB
  show (Γ.code :: Γ.below.map (·.1)).any Code.isCaller = true
  rw [List.any_cons]
  rcases x with x | x
  · rw [x]; rfl
  · rw [show (Γ.below.map (·.1)).any Code.isCaller = true from x, Bool.or_true]

/-- as wpAny, over the contexts alone that hold the claim's caller -/
def wpC {α : Type} (M : Model) (A : Around) (t : Sem α) (Q : α → Shared → Prop) (E : Value → Shared → Prop) (s : Shared) : Prop :=
  ∀ Γ p, PySem.Ctx.In Γ A → HasC Γ → Sem.wp M Γ t (fun a _ s' => Q a s') (fun e _ s' => E e s') p s
def codeC (M : Model) (A : Around) (c : Code) (R : Result → Shared → Prop) (s : Shared) : Prop :=
  ∀ Γ p, Γ.code = c → PySem.Ctx.Below Γ A → HasB Γ → wpCode M Γ R p s

section
variable {α β : Type} {M : Model} {A : Around} {E : Value → Shared → Prop} {s : Shared} {env : Env}
theorem wpC.of {t : Sem α} {Q : α → Shared → Prop} (h : wpAny M A t Q E s) : wpC M A t Q E s := fun Γ p hΓ _ => h Γ p hΓ
theorem codeC.of {c : Code} {R : Result → Shared → Prop} (h : codeAny M A c R s) : codeC M A c R s := fun Γ p hc hΓ _ => h Γ p hc hΓ
theorem wpC.mono {t : Sem α} {Q Q' : α → Shared → Prop} {E' : Value → Shared → Prop} (h : wpC M A t Q E s) (hQ : ∀ a s, Q a s → Q' a s) (hE : ∀ e s, E e s → E' e s) : wpC M A t Q' E' s :=
  fun Γ p hΓ hc => Sem.wp_mono M Γ t (fun a _ s => hQ a s) (fun e _ s => hE e s) p s (h Γ p hΓ hc)
theorem wpC.bind {m : Sem α} {f : α → Sem β} {Q : β → Shared → Prop} (h : wpC M A m (fun a s' => wpC M A (f a) Q E s') E s) : wpC M A (m >>= f) Q E s := fun Γ p hΓ hc => by
  rw [Sem.wp_bind']
  exact Sem.wp_mono M Γ m (fun a p' s' h' => h' Γ p' hΓ hc) (fun _ _ _ h' => h') p s (h Γ p hΓ hc)
theorem wpC.pure {a : α} {Q : α → Shared → Prop} (h : Q a s) : wpC M A (Pure.pure a) Q E s := .of (wpAny_pure h)
/-- a first part that is known for all contexts -/
theorem wpC.first {m : Sem α} {f : α → Sem β} {Q : β → Shared → Prop} (h : wpAny M A m (fun a s' => wpC M A (f a) Q E s') E s) : wpC M A (m >>= f) Q E s := .bind (.of h)
theorem wpC.holding {vs : List Value} {m : Sem α} {Q : α → Shared → Prop} (h : wpC M A m Q E s) : wpC M A (PySem.holding vs m) Q E s :=
  fun Γ p hΓ hc => by rw [Sem.wp_holding]; exact h Γ p hΓ hc
theorem wpC.attempt {m : Sem α} {Q : Except Value α → Shared → Prop} (h : wpC M A m (fun a => Q (.ok a)) (fun e => Q (.error e)) s) : wpC M A m.attempt Q E s :=
  fun Γ p hΓ hc => by rw [Sem.wp_attempt]; exact h Γ p hΓ hc
theorem wpC.onRaise {m : Sem α} {k : Value → Sem Unit} {Q : α → Shared → Prop} (h : wpC M A m Q (fun e s' => wpC M A (k e) (fun _ s'' => E e s'') E s') s) : wpC M A (m.onRaise k) Q E s :=
  fun Γ p hΓ hc => by
    rw [Sem.wp_onRaise]
    exact Sem.wp_mono M Γ m (fun _ _ _ h' => h') (fun e p' s' h' => h' Γ p' hΓ hc) p s (h Γ p hΓ hc)
theorem wpC.keep {vs : List Value} {m : Sem α} {Q : α → Shared → Prop} (h : wpC M A m Q E s) : wpC M A (m.keep vs) Q E s := fun Γ p hΓ hc => by rw [Sem.wp_keep]; exact h Γ p hΓ hc
theorem wpC.run {c : Code} {h : Option Value} {Q : Flow → Shared → Prop} (hc : codeC M (A.mark h) c (fun r s' => match r with | .ok f => Q f s' | .error e => E e s') s) (hnb : h ≠ some byPass := by intro x; cases x) : wpC M A (PySem.run c h) Q E s :=
  fun Γ p hΓ hC => by rw [Sem.wp_run]; exact hc _ p rfl (hΓ.enter c h p hnb) (hC.enter c h p)
theorem wpC.call {f : Value} {pos : List Value} {kw : List (Str × Value)} {Q : Value → Shared → Prop} (hc : codeC M A (.call f ⟨pos, kw⟩) (fun r s' => match r with | .ok (.ret v) => Q v s' | .ok _ => False | .error e => E e s') s) : wpC M A (PySem.call f pos kw) Q E s :=
  fun Γ p hΓ hC => by
    show Sem.wp M Γ (runValue (.call f ⟨pos, kw⟩)) _ _ p s
    rw [Sem.wp_runValue]; exact hc _ p rfl (hΓ.enter _ none p (by intro x; cases x)) (hC.enter _ none p)
theorem codeC.mono {c : Code} {R R' : Result → Shared → Prop} (h : codeC M A c R s) (hR : ∀ r s, R r s → R' r s) : codeC M A c R' s := fun Γ p hc hΓ hB => wpCode_mono hR (h Γ p hc hΓ hB)
theorem codeC.tree {c : Code} {R : Result → Shared → Prop}
    (h : wpC M (A.under c) (M.den c) (fun fin s' => match fin with | .done f => R (.ok f) s' | .again c' => c'.quiet = true ∧ codeC M A c' R s') (fun e s' => R (.error e) s') s) : codeC M A c R s := fun Γ p hc hΓ hB => by
  rw [wpCode_iff_wp, hc]
  refine Sem.wp_mono M Γ _ (fun fin p' s' h' => ?_) (fun _ _ _ h' => h') p s (h Γ p (hc ▸ hΓ.in) (.inr hB))
  cases fin with
  | done f => exact h'
  | again c' => exact ⟨h'.1, h'.2 (Γ.goto c') p' rfl (hΓ.goto c') hB⟩
theorem codeC.loop {c : Code} {R : Result → Shared → Prop} (hq : c.quiet = true) (I : Nat → Shared → Prop)
    (turn : ∀ n s, I n s → wpC M (A.under c) (M.den c) (fun fin s' => match fin with | .done f => R (.ok f) s' | .again c' => (c' = c ∧ ∃ m, m < n ∧ I m s') ∨ (c'.quiet = true ∧ codeC M A c' R s')) (fun e s' => R (.error e) s') s)
    (n : Nat) (h : I n s) : codeC M A c R s := by
  induction n using Nat.strongRecOn generalizing s with
  | ind n ih =>
    refine codeC.tree ((turn n s h).mono (fun fin s' hf => ?_) fun _ _ h' => h')
    cases fin with
    | done f => exact hf
    | again c' =>
      rcases hf with ⟨rfl, m, hm, hI⟩ | hf
      · exact ⟨hq, ih m hm hI⟩
      · exact hf
end
end Mj
end

section
open PySem PySem.W PyProof.Rows
namespace Mj
abbrev NoE : Value → Shared → Prop := fun _ _ => False
section
variable {α : Type} {w : World} {A : Around} {s s₀ : Shared} {env : Env} {X : List Addr} {h₀ h : Heap} {L : Addr}

theorem wpC.quiet {m : Sem α} {k : Value → Sem Unit} {Q : α → Shared → Prop} (h : wpC (model PG w) A m Q NoE s) : wpC (model PG w) A (m.onRaise k) Q NoE s :=
  .onRaise (h.mono (fun _ _ q => q) fun _ _ q => q.elim)
theorem wpC.cons {st : Stmt} {rest : List Stmt} {Q : Flow → Shared → Prop} {E : Value → Shared → Prop}
    (h : wpC (model PG w) A (exec st env) (fun f s' => match f with | .next => wpC (model PG w) A (execs rest env) Q E s' | f => Q f s') E s) : wpC (model PG w) A (execs (st :: rest) env) Q E s := by
  show wpC (model PG w) A (do match ← exec st env with | .next => execs rest env | f => Pure.pure f) Q E s
  refine .bind (h.mono (fun f s' q => ?_) fun _ _ q => q)
  cases f <;> first | exact q | exact .pure q
theorem wpC.nil {Q : Flow → Shared → Prop} {E : Value → Shared → Prop} (h : Q .next s) : wpC (model PG w) A (execs [] env) Q E s := .of (wpAny_execs_nil h)
/-- a statement known for all contexts, the rest here -/
theorem wpC.consAny {st : Stmt} {rest : List Stmt} {Q : Flow → Shared → Prop} {E : Value → Shared → Prop} (P : Shared → Prop) (h : wpAny (model PG w) A (exec st env) (fun f s' => f = .next ∧ P s') E s)
    (k : ∀ s', P s' → wpC (model PG w) A (execs rest env) Q E s') : wpC (model PG w) A (execs (st :: rest) env) Q E s :=
  .cons (.of (wpAny_mono h (fun f s' q => by obtain ⟨rfl, q⟩ := q; exact k s' q) fun _ _ q => q))
theorem wpC.asg {x : Str} {pos' pos : Pos} {value : Expr} {Q : Flow → Shared → Prop} {E : Value → Shared → Prop}
    (h : wpC (model PG w) A (eval value env) (fun v s₁ => wpAny (model PG w) A (storeName env x v) (fun _ => Q .next) E s₁) E s) (hs : noComp value = true := by with_unfolding_all rfl) :
    wpC (model PG w) A (exec (.Assign [.Name x pos'] value pos) env) Q E s := by
  rw [exec_Assign_Name env x pos' value pos (swaps_no hs)]
  refine .first (wpAny_standAt (.bind (h.mono (fun v s₁ q => .first (wpAny_standAt (.of (wpAny_bind (wpAny_bindName (wpAny_mono q (fun _ _ r => wpAny_pure r) fun _ _ r => r)))))) fun _ _ q => q)))
theorem wpC.ite {test : Expr} {body orelse : List Stmt} {pos : Pos} {Q : Flow → Shared → Prop} {E : Value → Shared → Prop}
    (h : wpAny (model PG w) A (isTrue test env (eval test env)) (fun b s₂ => if b then wpC (model PG w) A (execs body env) Q E s₂ else wpC (model PG w) A (execs orelse env) Q E s₂) E s) :
    wpC (model PG w) A (exec (.If test body orelse pos) env) Q E s := by
  rw [exec_If]
  refine .first (wpAny_standAt (.first (wpAny_mono h (fun b s₂ q => ?_) fun _ _ q => q)))
  cases b <;> exact q
theorem wpC.try_ {body : List Stmt} {h₁ : ExceptHandler} {hs : List ExceptHandler} {pos : Pos} {Q : Flow → Shared → Prop} {E : Value → Shared → Prop}
    (h : wpC (model PG w) A (execs body env) Q (fun e s₁ => wpAny (model PG w) A (noteFrame e env) (fun _ s₂ => wpAny (model PG w) A (setFlight e none) (fun _ s₃ => wpAny (model PG w) A (handleBy e env (h₁ :: hs)) Q E s₃) E s₂) E s₁) s) :
    wpC (model PG w) A (exec (.Try body (h₁ :: hs) [] [] pos) env) Q E s := by
  rw [arm_exec_Try]
  refine .first (wpAny_standAt ?_)
  unfold tryStmt
  simp only [List.isEmpty_nil, if_true, List.isEmpty_cons, Bool.false_and, Bool.false_eq_true, if_false]
  refine .bind (.attempt (h.mono (fun f s₁ q => ?_) fun e s₁ q => ?_))
  · cases f <;> first | exact .of (wpAny_execs_nil q) | exact .pure q
  · exact .of (wpAny_bind (wpAny_mono q (fun _ _ r => wpAny_bind r) fun _ _ r => r))

theorem codeC.forLoop {R : Result → Shared → Prop} {target : Expr} {it : Value} {body : List Stmt} (I : Nat → Shared → Prop)
    (turn : ∀ n s, I n s → wpAny (model PG w) A (pyNext it) (fun r s₁ => match r with
      | none => R (.ok .next) s₁
      | some v => wpAny (model PG w) A (assign target env v) (fun _ s₂ => wpC (model PG w) A (execs body env) (fun f s₃ => (f = .next ∨ f = .cont) ∧ ∃ m, m < n ∧ I m s₃) NoE s₂) NoE s₁) NoE s)
    (n : Nat) (h : I n s) (ht : ∀ v, letOwnedTupleGo target it v = pure () := by intro _; rfl) : codeC (model PG w) A (.forLoop target it body [] env) R s := by
  refine codeC.loop rfl I (fun n s hI => ?_) n h
  show wpC _ _ ((forTurn target it body [] env).onRaise (fun x => do noteFrame x env; theTreesLotGoes x)) _ _ s
  refine wpC.onRaise ((?_ : wpC _ _ _ _ NoE s).mono (fun _ _ q => q) fun _ _ q => q.elim)
  simp only [forTurn]
  refine .first (wpAny_standAt (.bind (.quiet (.of (wpAny_mono (turn n s hI) (fun r s₁ h₁ => ?_) fun _ _ q => q)))))
  cases r with
  | none => exact .pure (.inr ⟨rfl, .of (codeAny_block (wpAny_execs_nil h₁))⟩)
  | some v =>
    refine .first (wpAny_of_eq (ht v) ?_)
    refine .first (wpAny_mono h₁ (fun _ s₂ h₂ => .bind (h₂.mono (fun f s₃ h₃ => ?_) fun _ _ q => q)) fun _ _ q => q)
    obtain ⟨rfl | rfl, h₃⟩ := h₃ <;> exact .pure (.inl ⟨rfl, h₃⟩)
end
end Mj
end

section
open PySem PySem.W PyProof.Rows
namespace Mj
section
variable {w : World} {A : Around} {s s₀ : Shared} {env : Env} {X : List Addr} {h₀ h : Heap} {L : Addr} {tk : Nat} {mg mb : Str → Option Value} {hg : Heap}

/-- for x in l: .. whose body is known under the caller alone -/
theorem forGC {x : Str} {px : Pos} {iter : Expr} {body : List Stmt} {pos : Pos} {Q : Flow → Shared → Prop} (hh : A.handled = none)
    (hiter : wpAny (model PG w) A (eval iter env) (fun v s₁ => ∃ (J : Nat → (Str → Option Value) → List (Addr × Obj) → (Addr → Obj → Prop) → Prop) (l : Addr) (vs : List Value) (n : Nat) (h₁ : Heap) (tk₁ : Nat) (m₁ : Str → Option Value) (own₁ : List (Addr × Obj)) (fz₁ : Addr → Obj → Prop),
      v = .ref l ∧ s₁ = St s₀ h₁ tk₁ ∧ Sit X h₀ L m₁ own₁ fz₁ h₁ ∧ J 0 m₁ own₁ fz₁ ∧
      (∀ i m own fz, J i m own fz → fz l (lstO vs n)) ∧
      (∀ i v I o m own fz h tk, vs[i]? = some v → J i m own fz → Sit X h₀ L (fun y => if y = x then some v else m y) ((I, o) :: own) fz h →
        wpC (model PG w) A (execs body env) (fun f s₃ => (f = .next ∨ f = .cont) ∧ ∃ h' tk' m' own' fz', s₃ = St s₀ h' tk' ∧ Sit X h₀ L m' ((I, o) :: own') fz' h' ∧ J (i + 1) m' own' fz') NoE (St s₀ h tk)) ∧
      (∀ m own fz h tk, J vs.length m own fz → Sit X h₀ L m own fz h → Q .next (St s₀ h tk))) NoE s)
    (hk : env.scope.kind = .function := by rfl) (hL : env.locals = L := by rfl) (hx : env.kindOf x = some .local := by rfl)
    (hs : ∀ x, foldedSetIterable iter env x = pure x := by intro _; rfl) :
    wpC (model PG w) A (exec (.For (.Name x px) iter body [] pos) env) Q NoE s := by
  rw [exec_For]
  refine .first (wpAny_standAt (.first (wpAny_mono hiter (fun v s₁ q => .first (wpAny_of_eq (hs v) (.first (wpAny_standAt (.first (wpAny_holding ?_)))))) fun _ _ q => q)))
  obtain ⟨J, l, vs, n, h₁, tk₁, m₁, own₁, fz₁, rfl, rfl, S, j, hl, turn, done⟩ := q
  refine wpAny_pyIter_list (isList_of (S.get (hl _ _ _ _ j))) ?_
  unfold runOwn
  refine .quiet (.run ?_)
  refine codeC.forLoop (fun k s => ∃ i h tk m own fz o, s = St s₀ h tk ∧ i ≤ vs.length ∧ k = vs.length + 1 - i ∧ Sit X h₀ L m ((h₁.objs.size, o) :: own) fz h ∧ h.IsListIter h₁.objs.size l i ∧ J i m own fz) ?_ (vs.length + 1)
    ⟨0, _, tk₁, m₁, own₁, fz₁, _, rfl, Nat.zero_le _, rfl, S.push _, ⟨_, Heap.get?_push_size _ rfl, rfl, rfl⟩, j⟩
  rintro k _ ⟨i, h, tk, m, own, fz, o, rfl, hi, rfl, S, it, j⟩
  by_cases hlt : i < vs.length
  · refine wpAny_pyNext_list_item it (isList_of (S.get (hl _ _ _ _ j))) (x := vs[i]) (by simp [hlt]) (fun h₂ it₂ hs₂ => ?_)
    obtain ⟨o₂, e₂, r₂⟩ := it₂
    have S₂ := S.upd hs₂.extBut e₂
    refine wpAny_assign_Name (stG (s₀ := s₀) S₂ (fun h₃ tk₃ S₃ => ?_) hk hL hx)
    refine (turn i _ _ _ _ _ _ h₃ tk₃ (by simp [hlt]) j S₃).mono (fun f s₃ q => ?_) fun _ _ q => q
    obtain ⟨hf, h', tk', m', own', fz', rfl, S', j'⟩ := q
    exact ⟨hf, vs.length + 1 - (i + 1), by omega, i + 1, h', tk', m', own', fz', o₂, rfl, hlt, rfl, S', ⟨o₂, S'.ownGet (.head _), r₂⟩, j'⟩
  · obtain rfl : i = vs.length := Nat.le_antisymm hi (Nat.not_lt.mp hlt)
    exact wpAny_pyNext_list_end hh it (isList_of (S.get (hl _ _ _ _ j))) (by simp) (fun h₂ hs₂ => done _ _ _ h₂ tk j (S.lose hs₂))

theorem codeC.func {R : Result → Shared → Prop} {body : List Stmt}
    (h : wpC (model PG w) (A.deeper env) (execs body env) (fun f s' => R (.ok (.ret (match f with | .ret v => v | _ => .none))) s') NoE s) : codeC (model PG w) A (.func body env) R s := by
  refine codeC.tree ?_
  show wpC _ (A.deeper env) (do point; match ← (execs body env).onRaise (leaving env) with | .ret v => ret v | _ => ret .none) _ _ s
  refine .first (wpAny_point (.bind (.onRaise (h.mono (fun f s' q => ?_) fun _ _ q => q.elim))))
  cases f <;> exact .pure q
theorem codeC.fn {R : Result → Shared → Prop} {a : Addr} {args : Args} {o : Obj} {fd : FuncData} {body : List Stmt} (hroom : A.depth < recursionLimit) (ho : s.heap.get? a = some o)
    (hd : o.data = .func fd) (hco : fd.scope.isCoroutine = false) (hgen : fd.scope.isGenerator = false) (hbody : fd.body = .stmts body) (hcd : s.heap.CodeRec fd.code fd.qualname)
    (h : wpAny (model PG w) A.in1 (bindArgs fd args) (fun binds s₁ =>
      wpAny (model PG w) A.in1 (newFunctionEnv fd.scope fd.globals fd.closure binds (fd.qualname ++ ".<locals>.") (some a) fd.code none fd.builtins)
        (fun env s₂ => s₂.heap.NoLimit ∧ codeC (model PG w) A (.func body env) R s₂) NoE s₁) NoE s) :
    codeC (model PG w) A (.call (.ref a) args) R s := by
  refine codeC.tree ((?_ : wpC _ _ _ _ NoE s).mono (fun _ _ q => q) fun _ _ q => q.elim)
  show wpC _ A.in1 (callAny (.ref a) args) _ _ s
  simp only [callAny]
  refine .first (wpAny_load ho ?_)
  obtain ⟨c, oc, vs, tq, hc, hoc, hdc, hq⟩ := hcd
  simp only [hd, callFunction, hco, hgen, hbody, hc]
  rw [hc] at h
  refine .first (m := field (.ref c) 1) (wpAny_field hoc hdc hq (.first (wpAny_pure ?_)))
  exact .first (wpAny_mono h (fun binds s₁ h₁ => .first (wpAny_mono h₁ (fun env s₂ h₂ => .first (wpAny_enterFrame h₂.1 hroom (.pure (And.intro rfl h₂.2)))) fun _ _ q => q)) fun _ _ q => q)

/-- a call of one of the text's defs without cells, its body known under the caller alone -/
theorem callFnC {i : Nat} {name : Str} {a : Addr} {args : List Value} {binds : List (Str × Value)} {Q : Value → Shared → Prop}
    (T : Tp w hg mg mb) (fn : FnAt hg mg i name a) (B : Bs hg h) (hX : ∀ a ∈ X, hg.get? a = none ∧ a < h.objs.size) (hroom : A.depth < recursionLimit)
    (hbind : ∀ pm cd, bindArgs (Calls.docDef name (parOf (stAt i)) (bodOf (stAt i)) (scpOf (stAt i)) pm cd .none) ⟨args, []⟩ = pure binds)
    (hloc : (binds.all fun x => decide ((scpOf (stAt i)).names.lookup x.1 = some .local)) = true)
    (hco : (scpOf (stAt i)).isCoroutine = false) (hgen : (scpOf (stAt i)).isGenerator = false) (hk : (scpOf (stAt i)).kind = .function)
    (hcell : ∀ x ∈ (scpOf (stAt i)).names, x.2 ≠ .cell)
    (q : ∀ cd h₁ tk, Bs hg (hideAll h X) → Sit X (hideAll h X) h.objs.size (fun x => binds.reverse.lookup x) [] (fun _ _ => False) h₁ → (∀ b o, h.get? b = some o → h₁.get? b = some o) →
      wpC (model PG w) (A.deeper (envOf name (scpOf (stAt i)) h.objs.size a cd)) (execs (bodOf (stAt i)) (envOf name (scpOf (stAt i)) h.objs.size a cd))
        (fun f s' => Q (match f with | .ret v => v | _ => .none) s') NoE (St s₀ h₁ tk)) :
    wpC (model PG w) A (PySem.call (.ref a) args) Q NoE (St s₀ h tk) := by
  obtain ⟨_, o, pm, cd, ho, hd, hc⟩ := fn
  have BX := B.hide (X := X) fun a ha => (hX a ha).1
  refine .call (codeC.fn (s := St s₀ h tk) (fd := Calls.docDef name (parOf (stAt i)) (bodOf (stAt i)) (scpOf (stAt i)) pm cd .none) (body := bodOf (stAt i)) hroom (B _ _ ho) hd hco hgen rfl (hc.keeps B) ?_)
  rw [hbind pm cd]
  refine wpAny_pure (wpAny_newFunctionEnv hcell (locs hloc) (fun h₁ hns hsb => ⟨(T.nolimit.keeps B).fresh _ hsb, ?_⟩) hk)
  have keep : ∀ b o, h.get? b = some o → h₁.get? b = some o := fun b o e => hsb.extBut b o (Nat.ne_of_lt (Heap.lt_size e)) (Heap.get?_push_of_some _ e)
  refine codeC.func (env := envOf name (scpOf (stAt i)) h.objs.size a cd) ((q cd h₁ _ BX ⟨⟨hns, fun b o e => keep b o (of_hideAll _ e), ?_⟩, fun a ha => ⟨hideAll_none _ ha, ?_⟩, (fun _ q => nomatch q), List.nodup_nil, (fun _ _ q => q.elim)⟩ keep).mono (fun f s' r => r) fun _ _ r => r)
  · exact Nat.le_of_eq (hideAll_size _ _)
  · rw [hideAll_size]; exact (hX a ha).2
end
end Mj
end

section
open PySem PySem.W PyProof.Rows PySem.NumText
namespace Mj
theorem typeCall2 (a b : Value) : checkTypeCall "int" ⟨[a, b], []⟩ = pure () := by kernel_rfl
theorem newCall2 (a b : Value) : checkBuiltinCall "int.__new__" ⟨[.type "int", a, b], []⟩ = pure () := by kernel_rfl
theorem initArgs3 (a b c : Value) : argsOk "object.__init__" ⟨[a, b, c], []⟩ := by
  unfold argsOk
  rw [signature?_of (id := "object.__init__") (n := ['_', '_', 't', 'i', 'n', 'i', '_', '_']) (o := ['t', 'c', 'e', 'j', 'b', 'o']) (by kernel_rfl) PySem.F.owner_object]
  kernel_rfl

/-- int.__new__ with a text and the base 10 is the reading of the text -/
theorem new_eq (x : Str) (u t : Tok) : Builtin.«int.__new__» ⟨[.type "int", .str x u, .int 10 t], []⟩ = ((int_private% "intFromText") (.str x u) (numTextOf x) 10 >>= fun v => ret v) := by
  unfold Builtin.«int.__new__»
  have f1 := PySem.F.conv_sub_int
  have f2 := PySem.F.madeHere_int
  simp only [f1, f2, pure_bind, isType]
  rfl

section
variable {w : World} {A : Around} {s s₀ : Shared} {h : Heap} {tk : Nat} {E : Value → Shared → Prop} {Q : Value → Shared → Prop}

theorem gives_text10 {x : Str} {u t : Tok} {n : Int} (hl : x.length ≤ 640) (hn : PySem.intText? x = some n) : Gives (Builtin.«int.__new__» ⟨[.type "int", .str x u, .int 10 t], []⟩) (.int n) :=
  .of_wp fun M A E s Q q => by
    rw [new_eq]
    have hs : (numSeenOf x).length ≤ 640 := Nat.le_trans (seen_length x) hl
    rcases read0 x hs with ⟨m, h1, h2, h3⟩ | ⟨h1, _⟩
    · rw [hn] at h1
      injection h1 with h1
      subst h1
      exact wpAny_bind (KIN.wp_text hs h3 h2 (wpAny_pure ⟨_, rfl, q⟩))
    · rw [hn] at h1
      cases h1
/-- int(x, 10), x a numeral -/
theorem int_val {x : Str} {u t : Tok} {n : Int} (hl : x.length ≤ 640) (hn : PySem.intText? x = some n) (q : ∀ t' tk', Q (.int n t') (St s₀ h tk')) :
    wpAny (model PG w) A (PySem.call (.type "int") [.str x u, .int 10 t]) Q E (St s₀ h tk) :=
  callType_new PySem.F.called_int PySem.F.newNe_int (typeCall2 _ _) (newCall2 _ _) (fun obj => initArgs3 obj _ _) PySem.F.entry_int_new (gives_text10 hl hn).meets
    (show (Made.int n).post _ (St s₀ h tk) from ⟨rfl, q _ _⟩)

theorem mark_C {own : List String} {e : Value} {Q : Unit → Shared → Prop} (q : Q () s) : wpC (model PG w) A (markTheRefusal own e) Q E s := fun Γ p hΓ hC => by
  have hn : pythonCodeMadeTheCall own (((Γ.code, p) :: Γ.below).map (·.1)) = false := by
    unfold pythonCodeMadeTheCall
    have hi : (Γ.code :: Γ.below.map (·.1)).any Code.isCaller = true := by
      rw [List.any_cons]
      rcases hC with x | x
      · rw [x]; rfl
      · rw [show (Γ.below.map (·.1)).any Code.isCaller = true from x, Bool.or_true]
    show (!((Γ.code :: Γ.below.map (·.1)).any Code.isCaller) && _ && _) = false
    rw [hi]; rfl
  unfold markTheRefusal
  rw [Sem.wp_bind']
  show Sem.wp _ Γ (if pythonCodeMadeTheCall own (((Γ.code, p) :: Γ.below).map (·.1)) then _ else _) _ _ p s
  rw [hn]
  exact q

/-- the reading of a text that is no numeral -/
theorem text_C {x : Str} {u : Tok} (hh : A.handled = none) (hl : x.length ≤ 640) (hr : (int_private% "readNumeral") 0 10 (numSeenOf x) = int_private% "Numeral.invalid") (hz : (reprText x).length ≤ 10000)
    (q : ∀ h' tk' e, Heap.NewExc h h' e "ValueError" → E (.ref e) (St s₀ h' tk')) : wpC (model PG w) A ((int_private% "intFromText") (.str x u) (numTextOf x) 10) Q E (St s₀ h tk) := by
  have hs : (numSeenOf x).length ≤ 640 := Nat.le_trans (seen_length x) hl
  show wpC (model PG w) A (if (numSeenOf x).length ≤ 640 then _ else _) Q E _
  rw [if_pos hs]
  refine .first (wpAny_pure ?_)
  dsimp only
  rw [show (int_private% "readNumeral") 0 10 (List.takeWhile (fun x => x != 0) (numTextOf x)) = int_private% "Numeral.invalid" from hr]
  dsimp only
  refine .first (wpAny_pure ?_)
  show wpC (model PG w) A (Bind.bind (rule "int.__new__.invalid-literal") _) Q E _
  refine .first (wpAny_rule (.first (wpAny_pure ?_)))
  dsimp only
  refine .first (wpAny_pyRepr_str ?_ (Nat.le_trans hz (by decide)))
  refine .first (wpAny_mkStr ?_ ?_)
  · refine .first (wpAny_newExc_plain plainExc_ValueError (fun h' e he => ?_) (Nat.le_trans (Nat.le_refl 1) (by decide)))
    refine .bind (mark_C ?_)
    exact .of (wpAny_raiseNew_none hh (q h' _ e he.newExc))
  · rw [str_len]
    have : (⟨(reprText x).cps.extract 0 200⟩ : Str).length ≤ 200 := by
      show ((reprText x).cps.extract 0 200).size ≤ 200
      rw [Array.size_extract]; omega
    have h2 : (Str.ofString (toString "invalid literal for int() with base " ++ toString 10 ++ toString ": ")).length ≤ 1000 := by decide +kernel
    exact Nat.le_trans (Nat.add_le_add h2 this) (by decide)

theorem codeC.builtin {R : Result → Shared → Prop} {id : String} {args : Args} {b : Builtin} (hb : entryFor table id = some b)
    (h : wpC (model PG w) (A.under (.builtin id args)) (b args) (fun fin s' => match fin with | .done f => R (.ok f) s' | .again c' => c'.quiet = true ∧ codeC (model PG w) A c' R s') (fun e s' => R (.error e) s') s) :
    codeC (model PG w) A (.builtin id args) R s := by
  refine codeC.tree ?_
  show wpC _ _ (match entryFor table id with | some b => b args | none => unsupported ((withoutEnding? id "#data").getD id)) _ _ s
  rw [hb]; exact h

/-- int(x, 10), x a word -/
theorem int_ref {x : Str} {u t : Tok} (hh : A.handled = none) (hl : x.length ≤ 640) (hr : (int_private% "readNumeral") 0 10 (numSeenOf x) = int_private% "Numeral.invalid") (hz : (reprText x).length ≤ 10000)
    (q : ∀ h' tk' e, Heap.NewExc h h' e "ValueError" → E (.ref e) (St s₀ h' tk')) : wpC (model PG w) A (PySem.call (.type "int") [.str x u, .int 10 t]) Q E (St s₀ h tk) := by
  refine .call (codeC.tree ?_)
  show wpC _ _ (callAny (.type "int") _) _ _ _
  refine .pure ⟨Code.quiet_builtin _ (by decide +kernel), codeC.builtin PySem.F.entry_type_call ?_⟩
  rw [Around.under_plain (weight_type_call_type "int" [.str x u, .int 10 t] []) (units_type_call_type "int" [.str x u, .int 10 t] [])]
  unfold Builtin.«type.__call__»
  dsimp only
  rw [if_neg (by decide)]
  rw [if_neg (by rw [PySem.F.called_int.canCreate]; exact Bool.false_ne_true)]
  refine .first (wpAny_of_eq (typeCall2 _ _) ?_)
  refine .first (wpAny_of_eq PySem.F.mro_int ?_)
  rw [if_neg (by decide)]
  refine .first (wpAny_of_eq PySem.F.called_int.made ?_)
  dsimp only
  refine .first (wpAny_pure ?_)
  refine .bind (.holding ((?_ : wpC (model PG w) A.in1 (PySem.call (.builtin "int.__new__") [.type "int", .str x u, .int 10 t]) (fun _ _ => False) E (St s₀ h tk)).mono (fun _ _ q => q.elim) fun _ _ q => q))
  refine .call (codeC.tree ?_)
  show wpC _ _ (callAny (.builtin "int.__new__") _) _ _ _
  refine .first (wpAny_of_eq (newCall2 _ _) ?_)
  refine .pure ⟨Code.quiet_builtin _ (by decide +kernel), codeC.builtin PySem.F.entry_int_new ?_⟩
  rw [new_eq]
  refine .bind (text_C ?_ hl hr hz q)
  exact hh
end
end Mj
end

section
open PySem PySem.W PyProof.Rows
namespace Mj
section
variable {X : List Addr} {h₀ h h' : Heap} {L Lf : Addr} {m : Str → Option Value} {own : List (Addr × Obj)} {fz : Addr → Obj → Prop} {oL of : Obj}
theorem hideAll_keep {b : Addr} {o : Obj} {l : List Addr} (e : h.get? b = some o) (hb : b ∉ l) : (hideAll h l).get? b = some o := hideAll_get _ e hb

/-- the frames' slots are laid anew, all else stays -/
theorem Sit.turn {sl sf : Array (Option Value)} (S : Sit X h₀ L m ((Lf, of) :: own) fz h) (hL : h.get? L = some oL) (st : (hideAll h [L, Lf]).StaysIn h') (eL : h'.get? L = some { oL with slots := sl }) (ef : h'.get? Lf = some { of with slots := sf }) :
    Sit X h₀ L m ((Lf, { of with slots := sf }) :: own) fz h' := by
  have zf := S.os _ (.head _)
  have st' : ∀ b o, h.get? b = some o → b ≠ L → b ≠ Lf → h'.get? b = some o := fun b o e h1 h2 => st b o (hideAll_keep e (by simp [h1, h2]))
  refine ⟨⟨?_, fun b o e => st' b o (S.F.keep b o e) (Nat.ne_of_lt (Nat.lt_of_lt_of_le (Heap.lt_size e) S.F.above)) (fun q => ?_), S.F.above⟩, S.hid, fun p hp => ?_, ?_, fun a o q => ?_⟩
  · obtain ⟨o, es, ep, ho, hd, r⟩ := S.F.ns
    rw [hL] at ho; cases ho
    exact ⟨_, es, ep, eL, hd, r⟩
  · rw [q, zf.2.2.1] at e; cases e
  · rcases List.mem_cons.mp hp with rfl | hp
    · exact ⟨ef, zf.2⟩
    · have y := S.os p (List.mem_cons_of_mem _ hp)
      exact ⟨st' _ _ y.1 y.2.1 (fun q => (List.nodup_cons.mp S.nd).1 (List.mem_map.mpr ⟨p, hp, q⟩)), y.2⟩
  · exact S.nd
  · have y := S.kz a o q
    refine ⟨st' _ _ y.1 y.2.1 (fun q => y.2.2.2 _ (.head _) q.symm), y.2.1, y.2.2.1, fun p hp => ?_⟩
    rcases List.mem_cons.mp hp with rfl | hp
    · exact y.2.2.2 (Lf, of) (.head _)
    · exact y.2.2.2 p (List.mem_cons_of_mem _ hp)
end

theorem ve_exc : isSubtype (.type "ValueError") (.type "BaseException") = pure true := by rw [isSubtype_type]; kernel_rfl
theorem ve_nt : isSubtype (.type ((Manifest.find? "ValueError").elim "type" fun x => x.metatype)) (.type "tuple") = pure false := by rw [isSubtype_type]; kernel_rfl
theorem ve_self : isSubtype (.type "ValueError") (.type "ValueError") = pure true := by rw [isSubtype_type]; kernel_rfl

section
variable {w : World} {A : Around} {s₀ : Shared} {env elaw : Env} {X : List Addr} {h₀ h h₁ : Heap} {L Lf e : Addr} {m : Str → Option Value} {own : List (Addr × Obj)} {fz : Addr → Obj → Prop} {of : Obj} {tk : Nat}

/-- a ValueError raised here is caught by the frame's own clause -/
theorem caughtS {t : Expr} {b₀ : Stmt} {suite : List Stmt} {pos : Pos} {Q : Flow → Shared → Prop} (hfr : A.frames = some [env, elaw]) (hkE : env.scope.kind ≠ .module) (hfE : env.frame = some L) (hkF : elaw.scope.kind ≠ .module) (hfF : elaw.frame = some Lf)
    (S : Sit X h₀ L m ((Lf, of) :: own) fz h) (hof : ∀ vs, of.data ≠ .fields vs) (hx : Heap.NewExc h h₁ e "ValueError")
    (hname : ∀ h' sl Q' E', Sit X h₀ L m ((Lf, { of with slots := sl }) :: own) fz h' → Q' (.type "ValueError") (St s₀ h' tk) → wpAny (model PG w) (A.mark (some (.ref e))) (eval t env) Q' E' (St s₀ h' tk))
    (k : ∀ h' sl, Sit X h₀ L m ((Lf, { of with slots := sl }) :: own) fz h' → wpAny (model PG w) (A.mark (some (.ref e))) (execs (b₀ :: suite) env) Q NoE (St s₀ h' tk)) :
    wpAny (model PG w) A (noteFrame (.ref e) env) (fun _ s₂ => wpAny (model PG w) A (setFlight (.ref e) none) (fun _ s₃ =>
      wpAny (model PG w) A (handleBy (.ref e) env [.ExceptHandler (some t) none (b₀ :: suite) pos]) Q NoE s₃) NoE s₂) NoE (St s₀ h₁ tk) := by
  obtain ⟨oL, es, ep, hL, hLd, hLr⟩ := id S.F.ns
  have hLn : ∀ vs, oL.data ≠ .fields vs := fun vs q => by rw [hLd] at q; cases q
  have zf := S.os _ (.head _)
  obtain ⟨oe, te, he, hc, hd⟩ := hx.there
  have hL₁ := hx.keeps _ _ hL
  have hF₁ := hx.keeps _ _ zf.1
  have st₁ : (hideAll h [L, Lf]).StaysIn h₁ := fun b o q => hx.keeps b o (of_hideAll _ q)
  have hen : (hideAll h [L, Lf]).get? e = none := by
    cases q : (hideAll h [L, Lf]).get? e with
    | none => rfl
    | some o => have := of_hideAll _ q; rw [hx.new] at this; cases this
  have ff : h₁.FunFrames (hideAll h [L, Lf]) [env, elaw] := ⟨hkE, ⟨L, oL, hfE, hideAll_none _ (by simp), hL₁, hLn⟩, hkF, ⟨Lf, of, hfF, hideAll_none _ (by simp), hF₁, hof⟩, trivial⟩
  unfold noteFrame
  simp only [hfE]
  refine wpAny_bind (wpAny_field he hd (x := .none) rfl ?_)
  rw [if_neg (by decide)]
  refine wpAny_entryW (base := hideAll h [L, Lf]) (s := St s₀ h₁ tk) (a0 := te) hfr ff hfE he st₁ hen hd (show 1 < 6 by decide) rfl fun h₂ ⟨n1, n2, n3, n4⟩ => ?_
  obtain ⟨sl2, eL2⟩ := n4 _ _ hL₁ hLn
  obtain ⟨sf2, eF2⟩ := n4 _ _ hF₁ hof
  refine wpAny_setFlight_noneW (s := St s₀ h₂ tk) n1 n2 n3 fun h₃ p1 p2 p3 p4 => ?_
  have S₃ := S.turn hL p1 (p4 _ _ eL2 hLn) (p4 _ _ eF2 hof)
  refine wpAny_handleBy_builtin (X := "ValueError") (T := "ValueError") (b := true) ve_exc ve_nt ve_self ?_
  refine hname h₃ _ _ _ S₃ ⟨rfl, ?_, ?_⟩
  · obtain ⟨ob, q1, q2⟩ := p3.at.there
    exact ⟨ob, q1, q2.trans hc⟩
  rw [if_pos rfl]
  refine wpAny_setFlight_noneW (s := St s₀ h₃ tk) p1 p2 p3.at fun h₄ r1 r2 r3 r4 => ?_
  have S₄ := S.turn hL r1 (r4 _ _ (p4 _ _ eL2 hLn) hLn) (r4 _ _ (p4 _ _ eF2 hof) hof)
  exact wpAny_mono (k h₄ _ S₄) (fun _ _ q => q) fun _ _ q => q.elim
end
end Mj
end

section
open PySem PySem.W PyProof.Rows
namespace Mj
def stagesD : List (Str × PyData) := [("dev", .int 10), ("alpha", .int 20), ("a", .int 20), ("beta", .int 30), ("b", .int 30), ("c", .int 40), ("RC", .int 50), ("rc", .int 50), ("pl", .int 200), ("p", .int 200)]
theorem stages_tab {w : World} {hg : Heap} {mg mb : Str → Option Value} (T : Tp w hg mg mb) : StrTab PG w hg 37 (stagesD.map fun p => (PyData.str p.1, p.2)) := by
  refine PyProof.Rows.KTD.strTab_of_look PG w (get := fun a => if a = 37 then some { cls := .type "dict", data := .dict (stagesEs w) 10 } else none) (fun a o e => ?_) rfl (by decide) rfl
  by_cases h : a = 37
  · subst h; rw [if_pos rfl] at e; cases e; exact T.stages
  · rw [if_neg h] at e; cases e

theorem slot_rp_split : Slot "re.Pattern" "split" "re.Pattern.split" :=
  .of (owner := "re.Pattern") (n := "split") (by rw [typeLookup_type, builtinLookup_eq_fast]; kernel_rfl) (by decide +kernel) (by decide +kernel) (by decide +kernel)
    (by first | exact .inl (by decide +kernel) | exact .inr (by decide +kernel)) (by rw [isSubtype_type]; kernel_rfl)
theorem type_rp_split : typeOf (.builtin "re.Pattern.split") = pure (.type "method_descriptor") := by show builtinType _ = _; rw [builtinType_eq_fast]; kernel_rfl
theorem entry_rp_split : entryFor table "re.Pattern.split" = some Builtin.«re.Pattern.split» := entryFor_of_tree (by kernel_rfl)
theorem attrs_rp : PlainAttrs "re.Pattern" := ⟨⟨"object.__getattribute__", by rw [typeLookup_type, builtinLookup_eq_fast]; kernel_rfl, by decide +kernel⟩, by rw [typeLookup_type, builtinLookup_eq_fast]; kernel_rfl⟩
theorem args_rp_split (a b : Value) : argsOk "re.Pattern.split" ⟨[a, b], []⟩ := by unfold argsOk; kernel_rfl

section
variable {w : World} {A : Around} {E : Value → Shared → Prop} {s s₀ : Shared} {env : Env} {X : List Addr} {h₀ h : Heap} {L : Addr} {m : Str → Option Value} {own : List (Addr × Obj)} {fz : Addr → Obj → Prop} {tk : Nat} {Q : Value → Shared → Prop}
/-- x.name(..) of a built-in method, x a name -/
theorem methNm {x name : Str} {np apos pos : Pos} {args : List Expr} {T id : String} (pa : PlainAttrs T) (slot : Slot T name id) (hty : typeOf (.builtin id) = pure (.type "method_descriptor"))
    (h : wpAny (model PG w) A (eval (.Name x np) env) (fun ov s₁ => s₁.TypeIs ov T ∧ (∀ a, ov = .ref a → ∃ o, s₁.heap.get? a = some o ∧ o.dict = none) ∧
      wpAny (model PG w) A (callWith pos (.builtin id) [ov] (backTo pos (starEach args env)) []) Q E s₁) E s)
    (hfew : methodCallForm args.length (backTo pos (starEach args env)) [] = true) (hline : (apos.endLine == pos.line) = true := by with_unfolding_all rfl) :
    wpAny (model PG w) A (eval (.Call (.Attribute (.Name x np) name apos) args [] pos) env) Q E s := by
  rw [arm_eval_Call]
  refine wpAny_bind (m := attributeBase (.Name x np) name env (eval (.Name x np) env)) ?_
  show wpAny (model PG w) A (eval (.Name x np) env) _ E s
  refine wpAny_mono h (fun ov s₁ q => ?_) fun _ _ q => q
  refine wpAny_bind (wpAny_standAt ?_)
  unfold methodCall
  have hf : methodCallForm (args.length + ([] : List Keyword).length) (backTo pos (starEach args env)) (backToKw pos (keywordEach [] env)) = true := hfew
  rw [hf]
  refine wpAny_bind (wpAny_holding ?_)
  show wpAny (model PG w) A (getMethod ov name _) _ _ _
  refine getMethod_builtin q.1 pa slot hty q.2.1 ?_
  have hp : methodCallPos true (.Name x np) env apos pos = pure pos := by unfold methodCallPos; simp [hline]
  exact wpAny_bind (wpAny_of_eq hp q.2.2)
theorem few1 {e : Expr} {pos : Pos} (he : plainE e = true) : methodCallForm [e].length (backTo pos (starEach [e] env)) [] = true := by rw [starEach_plain he]; rfl
theorem few2 {e f : Expr} {pos : Pos} (he : plainE e = true) (hf : plainE f = true) : methodCallForm [e, f].length (backTo pos (starEach [e, f] env)) [] = true := by rw [starEach_plain he, starEach_plain hf]; rfl
theorem methArg1 {pos : Pos} {id : String} {ov : Value} {e : Expr} (h : wpAny (model PG w) A (eval e env) (fun v s₁ => wpAny (model PG w) A (PySem.call (.builtin id) [ov, v]) Q E s₁) E s) (he : plainE e = true := by with_unfolding_all rfl) :
    wpAny (model PG w) A (callWith pos (.builtin id) [ov] (backTo pos (starEach [e] env)) []) Q E s := by
  rw [starEach_plain he]
  exact Calls.callWith_builtin rfl (Calls.evalArgs_plain (Calls.spliced_cons (wpAny_mono h (fun _ _ r => splN r) fun _ _ r => r)))
theorem methArg2 {pos : Pos} {id : String} {ov : Value} {e f : Expr}
    (h : wpAny (model PG w) A (eval e env) (fun v s₁ => wpAny (model PG w) A (eval f env) (fun u s₂ => wpAny (model PG w) A (PySem.call (.builtin id) [ov, v, u]) Q E s₂) E s₁) E s)
    (he : plainE e = true := by with_unfolding_all rfl) (hf : plainE f = true := by with_unfolding_all rfl) :
    wpAny (model PG w) A (callWith pos (.builtin id) [ov] (backTo pos (starEach [e, f] env)) []) Q E s := by
  rw [starEach_plain he]
  refine Calls.callWith_builtin (by rw [starEach_plain hf]; rfl) (Calls.evalArgs_plain (Calls.spliced_cons (wpAny_mono h (fun _ _ r => splE (wpAny_mono r (fun _ _ r => splN r) fun _ _ r => r) hf) fun _ _ r => r)))

/-- list.extend with a pair, the list the first own object -/
theorem extS {D P : Addr} {vs : List Value} {n : Nat} {a b : Value} (S : Sit X h₀ L m ((D, lstO vs n) :: own) fz h) (hp : h.get? P = some (tupO [a, b])) (hsz : vs.length + 2 ≤ 100000)
    (q : ∀ h' n', Sit X h₀ L m ((D, lstO (vs ++ [a, b]) n') :: own) fz h' → Q .none (St s₀ h' tk)) : wpAny (model PG w) A (PySem.call (.builtin "list.extend") [.ref D, .ref P]) Q E (St s₀ h tk) := by
  have hD := S.ownGet (.head _)
  have hsz' : vs.toArray.size + ([a, b] : List Value).toArray.size ≤ sizeLine := by
    rw [List.size_toArray, List.size_toArray]; exact Nat.le_trans hsz (by decide)
  refine call_meets PySem.F.slot_list_extend ⟨_, hD, rfl⟩ PySem.F.entry_list_extend (PySem.F.args_list_extend_2 _ _) (AutoSeq1.list_extend_list_tuple_0 D vs.toArray n P [a, b].toArray 0 (extend_door hsz') (Nat.le_trans (Nat.le_add_right _ _) hsz')) ⟨hD, hp, ?_⟩
  have e : vs.toArray ++ [a, b].toArray = (vs ++ [a, b]).toArray := by simp
  have ho' : (h.update D (Obj.mapSeq fun x => x ++ [a, b].toArray)).get? D = some (lstO (vs ++ [a, b]) (if (vs.toArray ++ [a, b].toArray).size == vs.toArray.size then n else n + 1)) := by
    rw [Heap.get?_update_self _ hD (by rw [mapSeq_app]; rfl), mapSeq_app, e]
  exact q _ _ (S.upd (Heap.SameBut.update ..).extBut ho')
end
end Mj
end

section
open PySem PySem.W PyProof.Rows PySem.NumText
namespace Mj
def stageAt (x : Str) : Int := match stagesD.lookup x with
  | some (.int n) => n
  | _ => 0
/-- what a piece of a version counts for -/
inductive PK (p : List Nat) : Option (Int × Sc) → Prop
  | skip : Txt.contains "._+-" (toS p) = true → PK p none
  | num (n : Int) : Txt.contains "._+-" (toS p) = false → PySem.intText? (toS p) = some n → (toS p).length ≤ 640 → PK p (some (100, .inl n))
  | word : Txt.contains "._+-" (toS p) = false → (int_private% "readNumeral") 0 10 (numSeenOf (toS p)) = (int_private% "Numeral.invalid") → (toS p).length ≤ 640 → (reprText (toS p)).length ≤ 10000 →
      (PySem.Spec.lookup (.str (toS p)) (stagesD.map fun p => (PyData.str p.1, p.2))).getD (.int 0) = .int (stageAt (toS p)) → PK p (some (stageAt (toS p), .inr (toS p)))
def flat1 : Option (Int × Sc) → List Sc
  | none => []
  | some k => [.inl k.1, k.2]
/-- the for loop's body -/
def cvFor : List Stmt := match (bodOf (stAt 4)).getD 2 (.Pass default) with
  | .For _ _ b _ _ => b
  | _ => []
section
variable {w : World} {A : Around} {s₀ : Shared} {elaw : Env} {h₀ h : Heap} {L Lf I R : Addr} {o of : Obj} {m mg mb : Str → Option Value} {hg : Heap} {fz : Addr → Obj → Prop} {tk n : Nat} {cd : Value} {vs : List Value} {p : List Nat} {ov : Option (Int × Sc)} {t : Tok}

theorem callTyC {x : Str} {np pos : Pos} {e f : Expr} {T : String} {env : Env} {s : Shared} {Q : Value → Shared → Prop} {E : Value → Shared → Prop}
    (h : wpAny (model PG w) A (eval (.Name x np) env) (fun fv s₁ => fv = .type T ∧ wpAny (model PG w) A (eval e env) (fun v s₂ => wpAny (model PG w) A (eval f env) (fun u s₃ => wpC (model PG w) A (PySem.call (.type T) [v, u]) Q E s₃) E s₂) E s₁) E s)
    (he : plainE e = true := by with_unfolding_all rfl) (hf : plainE f = true := by with_unfolding_all rfl) : wpC (model PG w) A (eval (.Call (.Name x np) [e, f] [] pos) env) Q E s := by
  show wpC (model PG w) A (do callWith pos (← eval (.Name x np) env) [] (backTo pos (starEach [e, f] env)) (backToKw pos (keywordEach [] env))) Q E s
  refine .first (wpAny_mono h (fun fv s₁ q => ?_) fun _ _ q => q)
  obtain ⟨rfl, q⟩ := q
  rw [starEach_plain he, starEach_plain hf]
  unfold callWith
  refine .bind (.holding (.of (Calls.evalArgs_plain (Calls.spliced_cons (wpAny_mono q (fun v s₂ r => Calls.spliced_cons (wpAny_mono r (fun u s₃ z => splN ?_) fun _ _ r => r)) fun _ _ r => r)))))
  refine .first (wpAny_standAt ?_)
  refine .first (m := keeperOf (.type T)) (wpAny_pure ?_)
  exact .bind (z.mono (fun r s₄ hr => .first (wpAny_holding (wpAny_point (.pure hr)))) fun _ _ r => r)

set_option maxHeartbeats 1000000 in
theorem cv_turn (T : Tp w hg mg mb) (B : Bs hg h₀) (hh : A.handled = none) (hfr : A.frames = some [envOf "_comparable_version" (scpOf (stAt 4)) L 44 cd, elaw]) (hkF : elaw.scope.kind ≠ .module) (hfF : elaw.frame = some Lf) (hof : ∀ vs, of.data ≠ .fields vs)
    (hp : PK p ov) (hvs : vs.length ≤ 5000) (mR : m "result" = some (.ref R))
    (S : Sit [] h₀ L (fun y => if y = ("v" : Str) then some (.str (toS p) t) else m y) [(I, o), (R, lstO vs n), (Lf, of)] fz h) :
    wpC (model PG w) A (execs cvFor (envOf "_comparable_version" (scpOf (stAt 4)) L 44 cd)) (fun f s₃ => (f = .next ∨ f = .cont) ∧ ∃ h' tk' m' new n' sl, s₃ = St s₀ h' tk' ∧
      Sit [] h₀ L m' [(I, o), (R, lstO (vs ++ new) n'), (Lf, { of with slots := sl })] fz h' ∧ m' "result" = some (.ref R) ∧ All2 ScIs new (flat1 ov)) NoE (St s₀ h tk) := by
  refine .cons (.ite ?_)
  with_reducible refine wpAny_isTrue_Compare1 ?_ (by with_unfolding_all rfl)
  refine eLocG S rfl ?_
  with_reducible refine eStr fun _ _ => ?_
  refine SB.notContains (wpAny_truthy_bool ?_)
  cases hp with
  | skip hc =>
    rw [hc, if_neg (by decide)]
    exact .nil (.nil ⟨.inl rfl, h, _, (fun y => if y = ("v" : Str) then some (.str (toS p) t) else m y), [], n, of.slots, rfl, by rw [List.append_nil]; exact S, mR, .nil⟩)
  | num k hc hk hl =>
    rw [hc, if_pos (by decide)]
    refine .cons (.try_ ?_)
    refine .cons (.of ?_)
    with_reducible refine asgS (callNm ?_)
    refine eBiG (v := .type "int") T B S T.nInt (by decide) (by decide) ?_
    with_reducible refine callTy2 ?_
    refine eLocG S rfl ?_
    with_reducible refine eInt fun _ _ => ?_
    refine int_val hl hk fun t₁ tk₁ => ?_
    refine stG S fun h₂ tk₂ S₂ => ?_
    refine .cons (.of ?_)
    with_reducible refine asgS ?_
    with_reducible refine eInt fun t₃ _ => ?_
    refine stG S₂ fun h₃ tk₃ S₃ => .nil ?_
    refine .cons (.of ?_)
    with_reducible refine exprS ?_
    refine methNm PySem.F.plainAttrs_list PySem.F.slot_list_extend PySem.F.type_list_extend ?_ (few1 (by with_unfolding_all rfl))
    refine eLocG S₃ (show _ = _ from mR) ⟨⟨_, S₃.ownGet (.tail _ (.head _)), rfl⟩, (fun a e => by cases e; exact ⟨_, S₃.ownGet (.tail _ (.head _)), rfl⟩), ?_⟩
    with_reducible refine methArg1 (Tuple_ ?_)
    with_reducible refine splE ?_
    refine eLocG S₃ rfl ?_
    with_reducible refine splE ?_
    refine eLocG S₃ rfl ?_
    with_reducible refine splN ?_
    refine newTupS S₃ fun P h₄ _ _ S₄ => ?_
    refine extS (S₄.freeze.swap) (S₄.ownGet (.head _)) (by omega) fun h₅ n₅ S₅ => ⟨rfl, .nil (.nil ⟨.inl rfl, h₅, _, _, _, n₅, of.slots, rfl, (S₅.swap).weaken fun _ _ q => .inl q, mR, .cons ⟨_, rfl⟩ (.cons ⟨_, rfl⟩ .nil)⟩)⟩
  | word hc hr hl hz hs =>
    rw [hc, if_pos (by decide)]
    refine .cons (.try_ ?_)
    refine .cons (.asg ?_)
    refine callTyC (T := "int") ?_
    refine eBiG (v := .type "int") T B S T.nInt (by decide) (by decide) ⟨rfl, ?_⟩
    refine eLocG S rfl ?_
    with_reducible refine eInt fun _ _ => ?_
    refine int_ref hh hl hr hz fun h₁ tk₁ e hx => ?_
    refine caughtS (env := envOf "_comparable_version" (scpOf (stAt 4)) L 44 cd) (elaw := elaw) hfr (show (scpOf (stAt 4)).kind ≠ .module by decide) rfl hkF hfF S.rot hof hx ?_ ?_
    · intro h' sl Q' E' S' q
      exact eBiG (v := .type "ValueError") T B S' T.nVE (by decide) (by decide) q
    · intro h₂ sl S₂
      refine wpAny_execs_cons ?_
      with_reducible refine asgS ?_
      refine methNm PySem.F.plainAttrs_dict PySem.F.slot_dict_get PySem.F.type_dict_get ?_ (few2 (by with_unfolding_all rfl) (by with_unfolding_all rfl))
      refine eGlobG T B S₂ T.gStages ?_
      have h37 := S₂.F.keep _ _ (B _ _ T.stages)
      refine ⟨⟨_, h37, rfl⟩, (fun a e => by cases e; exact ⟨_, h37, rfl⟩), ?_⟩
      with_reducible refine methArg2 ?_
      refine eLocG S₂ rfl ?_
      with_reducible refine eInt fun _ _ => ?_
      refine call_get2_tab PyProof.V.same_str (strKind_is PG w _ _) ((stages_tab T).keep fun b o e => S₂.F.keep _ _ (B _ _ e)) (PyProof.V.Flat.int 0 _) fun v hv => ?_
      rw [hs] at hv
      obtain ⟨t₃, rfl⟩ : ∃ t₃, v = .int (stageAt (toS p)) t₃ := by
        have := hv h₂
        cases this
        exact ⟨_, rfl⟩
      refine stG (s₀ := s₀) S₂ fun h₃ tk₃ S₃ => wpAny_execs_nil ?_
      refine .cons (.of ?_)
      with_reducible refine exprS ?_
      refine methNm PySem.F.plainAttrs_list PySem.F.slot_list_extend PySem.F.type_list_extend ?_ (few1 (by with_unfolding_all rfl))
      have hR := S₃.ownGet (.tail _ (.tail _ (.head _)))
      refine eLocG S₃ (show _ = _ from mR) ⟨⟨_, hR, rfl⟩, (fun a e => by cases e; exact ⟨_, hR, rfl⟩), ?_⟩
      with_reducible refine methArg1 (Tuple_ ?_)
      with_reducible refine splE ?_
      refine eLocG S₃ rfl ?_
      with_reducible refine splE ?_
      refine eLocG S₃ rfl ?_
      with_reducible refine splN ?_
      refine newTupS S₃ fun P h₄ _ _ S₄ => ?_
      refine extS (S₄.freeze.rot) (S₄.ownGet (.head _)) (by omega) fun h₅ n₅ S₅ => ⟨rfl, .nil (.nil ⟨.inl rfl, h₅, _, _, _, n₅, sl, rfl, (S₅.rot).weaken fun _ _ q => .inl q, mR, .cons ⟨_, rfl⟩ (.cons ⟨_, rfl⟩ .nil)⟩)⟩
end
end Mj
end

section
open PySem PySem.W PyProof.Rows PySem.NumText
namespace Mj
theorem Sit.unhide {h₀ h : Heap} {L Lf : Addr} {m : Str → Option Value} {fz : Addr → Obj → Prop} {of : Obj} (S : Sit [Lf] h₀ L m [] fz h) (e : h.get? Lf = some of) (hL : Lf < h₀.objs.size) : Sit [] h₀ L m [(Lf, of)] fz h where
  F := S.F
  hid := fun _ q => nomatch q
  os := fun p hp => by
    obtain rfl := List.mem_singleton.mp hp
    exact ⟨e, Nat.ne_of_lt (Nat.lt_of_lt_of_le hL S.F.above), (S.hid _ (.head _)).1, fun q => nomatch q⟩
  nd := by simp
  kz := fun a o q => ⟨(S.kz a o q).1, (S.kz a o q).2.1, (fun q => nomatch q), fun p hp => by
    obtain rfl := List.mem_singleton.mp hp
    intro e
    exact (S.kz a o q).2.2.1 (by rw [← e]; exact .head _)⟩
theorem all2_app {α β : Type} {R : α → β → Prop} {as as' : List α} {bs bs' : List β} (x : All2 R as bs) (y : All2 R as' bs') : All2 R (as ++ as') (bs ++ bs') := by
  induction x with
  | nil => exact y
  | cons r _ ih => exact .cons r ih
theorem all2_get {α β : Type} {R : α → β → Prop} {as : List α} {bs : List β} (x : All2 R as bs) : ∀ {k : Nat} {a : α}, as[k]? = some a → ∃ b, bs[k]? = some b ∧ R a b := by
  induction x with
  | nil => intro k a e; cases e
  | cons r _ ih =>
    intro k a e
    cases k with
    | zero => exact ⟨_, rfl, by cases e; exact r⟩
    | succ k => exact ih e
theorem flat1_len (o : Option (Int × Sc)) : (flat1 o).length ≤ 2 := by cases o <;> simp [flat1]
theorem flatMap_len (l : List (Option (Int × Sc))) : (l.flatMap flat1).length ≤ 2 * l.length := by
  induction l with
  | nil => simp
  | cons a l ih => have := flat1_len a; simp only [List.flatMap_cons, List.length_append, List.length_cons]; omega

section
variable {w : World} {A : Around} {s₀ : Shared} {elaw : Env} {h : Heap} {Lf : Addr} {of : Obj} {mg mb : Str → Option Value} {hg : Heap} {tk : Nat} {ver : Str} {t : Tok} {Q : Value → Shared → Prop} {os : List (Option (Int × Sc))}
set_option maxHeartbeats 1000000 in
theorem cv_ok (T : Tp w hg mg mb) (B : Bs hg h) (hroom : A.depth + 4 < recursionLimit) (hh : A.handled = none) (hfr : A.frames = some [elaw]) (hkF : elaw.scope.kind ≠ .module) (hfF : elaw.frame = some Lf) (hLf : h.get? Lf = some of) (hof : ∀ vs, of.data ≠ .fields vs) (hgn : hg.get? Lf = none)
    (hv : ver.cps.size < 1000) (hps : All2 PK (splitT ver.cps.toList) os)
    (hQ : ∀ D vs n sl h' tk', KeepBut [Lf] h h' → h'.get? Lf = some { of with slots := sl } → h.objs.size ≤ D → h'.get? D = some (lstO vs n) → All2 ScIs vs (os.flatMap flat1) → Q (.ref D) (St s₀ h' tk')) :
    wpC (model PG w) A (PySem.call (.ref 44) [.str ver t]) Q NoE (St s₀ h tk) := by
  have hLt := Heap.lt_size hLf
  refine callFnC (X := [Lf]) (binds := [("version", .str ver t)]) T T.hVer B (fun a ha => by obtain rfl := List.mem_singleton.mp ha; exact ⟨hgn, hLt⟩) (by omega) (fun _ _ => rfl) rfl rfl rfl rfl (by decide) (fun cd h₁ tk₁ B₁ S₁' keep => ?_)
  have S₁ := S₁'.unhide (keep _ _ hLf) (by rw [hideAll_size]; exact hLt)
  have hfr' : (A.deeper (envOf "_comparable_version" (scpOf (stAt 4)) h.objs.size 44 cd)).frames = some [envOf "_comparable_version" (scpOf (stAt 4)) h.objs.size 44 cd, elaw] := by
    show A.frames.map _ = _
    rw [hfr]; rfl
  refine .cons (.of ?_)
  with_reducible refine asgS ?_
  refine eGlobG T B₁ S₁ T.gPat ?_
  refine stG S₁ fun h₂ tk₂ S₂ => ?_
  refine .cons (.of ?_)
  with_reducible refine asgS (List_ ?_)
  with_reducible refine splN ?_
  refine newListS S₂ fun R h₃ hR _ S₃ => ?_
  refine stG S₃ fun h₄ tk₄ S₄ => ?_
  obtain ⟨v0, v1, hp⟩ := T.pat
  have h36 := S₄.F.keep _ _ (B₁ _ _ hp)
  refine .cons ?_
  refine (?_ : wpC _ _ _ (fun f s' => f = .next ∧ ∃ h' tk' m' vs n sl, s' = St s₀ h' tk' ∧ Sit [] (hideAll h [Lf]) h.objs.size m' [(R, lstO vs n), (Lf, { of with slots := sl })] (fun _ _ => False) h' ∧ m' "result" = some (.ref R) ∧ All2 ScIs vs (os.flatMap flat1)) NoE _).mono ?_ (fun _ _ q => q)
  · refine forGC (X := []) (h₀ := hideAll h [Lf]) (L := h.objs.size) (s₀ := s₀) hh ?_
    refine methNm attrs_rp slot_rp_split type_rp_split ?_ (few1 (by with_unfolding_all rfl))
    refine eLocG S₄ rfl ⟨⟨_, h36, rfl⟩, (fun a e => by cases e; exact ⟨_, h36, rfl⟩), ?_⟩
    with_reducible refine methArg1 ?_
    refine eLocG S₄ rfl ?_
    refine wpAny_call_entry slot_rp_split ⟨_, h36, rfl⟩ entry_rp_split ?_ (args_rp_split _ _)
    refine split_body (s₀ := s₀) T (fun b o e => S₄.F.keep _ _ (B₁ _ _ e)) hv fun pvs h₅ tk₅ hpv e₅ => ⟨_, rfl, ?_⟩
    subst e₅
    have S₅ := (S₄.push (lstO pvs 0)).freeze
    have hlen := hpv.length
    have hlen2 := splitT_len ver.cps.toList
    rw [List.length_map] at hlen
    have hvl : ver.cps.toList.length = ver.cps.size := Array.length_toList
    have hol := hps.length
    refine ⟨fun i m own fz => ∃ vs n sl, own = [(R, lstO vs n), (Lf, { of with slots := sl })] ∧ m "result" = some (.ref R) ∧ All2 ScIs vs ((os.take i).flatMap flat1) ∧ fz = fzAdd (fun _ _ => False) h₄.objs.size (lstO pvs 0), h₄.objs.size, pvs, 0, _, tk₅, _, _, _, rfl, rfl, S₅, ⟨[], 0, of.slots, rfl, rfl, .nil, rfl⟩, ?_, ?_, ?_⟩
    · rintro i m own fz ⟨_, _, _, _, _, _, rfl⟩
      exact .inr ⟨rfl, rfl⟩
    · rintro i v I o m own fz h' tk' hvi ⟨vs, n, sl, rfl, hm, hvs, rfl⟩ S
      obtain ⟨str, hs1, tt, rfl⟩ := all2_get hpv hvi
      rw [List.getElem?_map] at hs1
      cases hpi : (splitT ver.cps.toList)[i]? with
      | none => rw [hpi] at hs1; cases hs1
      | some p =>
        rw [hpi] at hs1
        cases hs1
        obtain ⟨ov, ho, hk⟩ := all2_get hps hpi
        have hl1 := hvs.length
        have hl2 := flatMap_len (os.take i)
        have hl3 : (os.take i).length ≤ os.length := by rw [List.length_take]; omega
        have hvs5 : vs.length ≤ 5000 := by omega
        refine (cv_turn (of := { of with slots := sl }) (A := A.deeper (envOf "_comparable_version" (scpOf (stAt 4)) h.objs.size 44 cd)) T B₁ hh hfr' hkF hfF hof hk hvs5 hm S).mono (fun f s₃ q => ?_) fun _ _ q => q
        obtain ⟨hf, h', tk', m', new, n', sl', rfl, S', hm', hnew⟩ := q
        refine ⟨hf, h', tk', m', _, _, rfl, S', _, n', sl', rfl, hm', ?_, rfl⟩
        rw [List.take_add_one, ho, List.flatMap_append]
        refine all2_app hvs ?_
        simpa using hnew
    · rintro m own fz h tk ⟨vs, n, sl, rfl, hm, hvs, rfl⟩ S
      rw [hlen, hol, List.take_length] at hvs
      exact ⟨rfl, h, tk, m, vs, n, sl, rfl, S.weaken fun _ _ q => q.elim, hm, hvs⟩
  · rintro _ _ ⟨rfl, h', tk', m', vs, n, sl, rfl, S', hm, hvs⟩
    refine .cons (.of ?_)
    refine wpAny_Return_some (eLocG S' hm ?_)
    exact hQ R vs n sl h' tk' (fun b o hb e => S'.F.keep b o (hideAll_keep e hb)) (S'.ownGet (.tail _ (.head _))) (by have := S₂.size; rw [hideAll_size] at this; omega) (S'.ownGet (.head _)) hvs
end
end Mj
end

section
open PySem PySem.W PyProof.Rows
namespace Mj
/-- u == v is b -/
def EqV (c : Nat) (w : World) (h : Heap) (u v : Value) (b : Bool) : Prop :=
  ∀ (A : Around) (E : Value → Shared → Prop) (Q : Bool → Shared → Prop) (s₀ : Shared) (tk : Nat), A.units + c < cLine → (∀ tk', Q b (St s₀ h tk')) → wpAny (model PG w) A (eqBool u v) Q E (St s₀ h tk)
/-- u op v is r -/
def CmpV (op : CmpOp) (c : Nat) (w : World) (h : Heap) (u v : Value) (r : Bool) : Prop :=
  ∀ (A : Around) (E : Value → Shared → Prop) (Q : Value → Shared → Prop) (s₀ : Shared) (tk : Nat), A.units + c < cLine → (∀ tk', Q (.bool r) (St s₀ h tk')) → wpAny (model PG w) A (richCompare op u v) Q E (St s₀ h tk)
/-- how two sequences compare: by the first pair that differs, else by their sizes -/
inductive Lex (op : CmpOp) (c : Nat) (w : World) (h : Heap) : List Value → List Value → Bool → Prop
  | nil : Lex op c w h [] [] false
  | left {y : Value} {ys : List Value} : Lex op c w h [] (y :: ys) (op == .Lt)
  | right {x : Value} {xs : List Value} : Lex op c w h (x :: xs) [] (op == .Gt)
  | same {x y : Value} {xs ys : List Value} {r : Bool} : EqV c w h x y true → Lex op c w h xs ys r → Lex op c w h (x :: xs) (y :: ys) r
  | diff {x y : Value} {xs ys : List Value} {r : Bool} : EqV c w h x y false → CmpV op c w h x y r → Lex op c w h (x :: xs) (y :: ys) r

section
variable {c : Nat} {w : World} {h : Heap} {A : Around} {E : Value → Shared → Prop} {s₀ : Shared} {tk : Nat} {Q : Value → Shared → Prop}
/-- a call of a built-in that goes on in another one -/
theorem callAgain {T : String} {name : Str} {id : String} {b : Builtin} {self : Value} {rest : List Value} {s : Shared} (sl : Slot T name id) (hT : s.TypeIs self T) (hb : entryFor table id = some b) (ha : argsOk id ⟨self :: rest, []⟩)
    (hc : wpAny (model PG w) A.in1 (b ⟨self :: rest, []⟩) (fun fin s' => match fin with
      | .done f => ∃ v, f = .ret v ∧ Q v s'
      | .again c' => c'.quiet = true ∧ codeAny (model PG w) A c' (fun r s' => match r with | .ok (.ret v) => Q v s' | .ok _ => False | .error e => E e s') s') E s) :
    wpAny (model PG w) A (PySem.call (.builtin id) (self :: rest)) Q E s := by
  refine wpAny_call (codeAny_call_builtin sl.plain hb (sl.check _ _ _ _ _ _ _ _ hT ha (wpAny_mono hc (fun fin s' q => ?_) fun _ _ q => q)))
  cases fin with
  | done f => obtain ⟨v, rfl, q⟩ := q; exact q
  | again c' => exact q

theorem drop_cons {vs : List Value} {i : Nat} {x : Value} {xs : List Value} (e : vs.drop i = x :: xs) : vs.toArray[((i : Nat) : Int).toNat]? = some x ∧ vs.drop (i + 1) = xs := by
  have h1 : vs[i]? = some x := by
    have := congrArg List.head? e
    rw [List.head?_drop] at this
    exact this
  refine ⟨by simpa using h1, ?_⟩
  rw [← List.drop_drop, e]; rfl
theorem drop_nil {vs : List Value} {i : Nat} (e : vs.drop i = []) : vs.toArray[((i : Nat) : Int).toNat]? = none ∧ vs.length ≤ i := by
  have h1 := List.drop_eq_nil_iff.mp e
  exact ⟨by simpa using h1, h1⟩

theorem lexLt_loop {a b : Addr} {vs us : List Value} {n n' : Nat} {R : Result → Shared → Prop} (ha : h.get? a = some (lstO vs n)) (hb : h.get? b = some (lstO us n')) {xs ys : List Value} {r : Bool} (x : Lex .Lt c w h xs ys r) :
    ∀ (i tk : Nat) (A : Around), vs.drop i = xs → us.drop i = ys → i ≤ vs.length → i ≤ us.length → A.units + c + 2 < cLine → (∀ tk', R (.ok (.ret (.bool r))) (St s₀ h tk')) →
      codeAny (model PG w) A (.builtin "list.__eq__.loop" ⟨[.ref a, .ref b, rawInt i, rawInt 0], []⟩) R (St s₀ h tk) := by
  have size : ∀ (i tk : Nat) (A : Around) (r : Bool), (vs.toArray[((i : Nat) : Int).toNat]? = none ∨ us.toArray[((i : Nat) : Int).toNat]? = none) → decide (vs.length < us.length) = r → (∀ tk', R (.ok (.ret (.bool r))) (St s₀ h tk')) →
      codeAny (model PG w) A (.builtin "list.__eq__.loop" ⟨[.ref a, .ref b, rawInt i, rawInt 0], []⟩) R (St s₀ h tk) := by
    intro i tk A r hn hr q
    refine codeAny_builtin MeetsSeq3.entry_eq_loop ?_
    rw [Around.under_plainId MeetsSeq3.plain_eq_loop _]
    have fin : R (.ok (.ret (.bool (decide (vs.toArray.size < us.toArray.size))))) (St s₀ h tk) := by
      rw [List.size_toArray, List.size_toArray, hr]; exact q tk
    unfold St at fin ⊢
    wp_walk using wpAny_loadPart' ha, wpAny_loadPart' hb
    have tail : wpAny (model PG w) A.in1 (do ret (.bool (decide ((← Builtin.List.listItems (Value.ref a)).size < (← Builtin.List.listItems (Value.ref b)).size)))) (fun fin s' => match fin with | .done f => R (.ok f) s' | .again c' => c'.quiet = true ∧ codeAny (model PG w) A c' R s') (fun e s' => R (.error e) s') { heap := h, gens := s₀.gens, drawn := s₀.drawn, toks := tk, os := s₀.os } := by
      wp_walk using wpAny_loadPart' ha, wpAny_loadPart' hb
      exact fin
    rcases hn with hn | hn
    · rw [hn]; exact tail
    · rw [hn]
      cases vs.toArray[((i : Nat) : Int).toNat]? <;> exact tail
  induction x with
  | nil =>
    intro i tk A e1 e2 l1 l2 hu q
    exact size i tk A _ (.inl (drop_nil e1).1) (by have := (drop_nil e1).2; have := (drop_nil e2).2; simp; omega) q
  | left =>
    intro i tk A e1 e2 l1 l2 hu q
    have hl := congrArg List.length e2
    rw [List.length_drop, List.length_cons] at hl
    exact size i tk A _ (.inl (drop_nil e1).1) (by have := (drop_nil e1).2; exact decide_eq_true (by omega)) q
  | right =>
    intro i tk A e1 e2 l1 l2 hu q
    have hl := congrArg List.length e1
    rw [List.length_drop, List.length_cons] at hl
    exact size i tk A _ (.inr (drop_nil e2).1) (by have := (drop_nil e2).2; exact decide_eq_false (by omega)) q
  | @same x y xs ys r he _ ih =>
    intro i tk A e1 e2 l1 l2 hu q
    have d1 := drop_cons e1
    have d2 := drop_cons e2
    have hl1 := congrArg List.length e1
    have hl2 := congrArg List.length e2
    rw [List.length_drop, List.length_cons] at hl1 hl2
    refine codeAny_builtin MeetsSeq3.entry_eq_loop ?_
    rw [Around.under_plainId MeetsSeq3.plain_eq_loop _]
    unfold St
    wp_walk using wpAny_loadPart' ha, wpAny_loadPart' hb
    rw [d1.1, d2.1]
    refine wpAny_bind (he A.in1 _ _ s₀ tk (by show A.units + 1 + c < cLine; omega) fun tk' => ?_)
    rw [if_pos rfl]
    refine wpAny_pure ⟨plainId_quiet MeetsSeq3.plain_eq_loop _, ?_⟩
    rw [show ((i : Int) + 1) = ((i + 1 : Nat) : Int) by push_cast; rfl]
    exact ih (i + 1) tk' A d1.2 d2.2 (by omega) (by omega) hu q
  | @diff x y xs ys r he hc =>
    intro i tk A e1 e2 l1 l2 hu q
    have d1 := drop_cons e1
    have d2 := drop_cons e2
    refine codeAny_builtin MeetsSeq3.entry_eq_loop ?_
    rw [Around.under_plainId MeetsSeq3.plain_eq_loop _]
    unfold St
    wp_walk using wpAny_loadPart' ha, wpAny_loadPart' hb
    rw [d1.1, d2.1]
    refine wpAny_bind (he A.in1 _ _ s₀ tk (by show A.units + 1 + c < cLine; omega) fun tk' => ?_)
    rw [if_neg Bool.false_ne_true]
    unfold St
    wp_walk using wpAny_loadPart' ha, wpAny_loadPart' hb
    rw [d1.1, d2.1]
    refine wpAny_bind (hc A.in1 _ _ s₀ tk' (by show A.units + 1 + c < cLine; omega) fun tk'' => ?_)
    exact wpAny_pure (q tk'')

theorem cmpLt_list {a b : Addr} {vs us : List Value} {n n' : Nat} {r : Bool} (ha : h.get? a = some (lstO vs n)) (hb : h.get? b = some (lstO us n')) (x : Lex .Lt c w h vs us r) (hu : A.units + c + 4 < cLine) (q : ∀ tk', Q (.bool r) (St s₀ h tk')) :
    wpAny (model PG w) A (compareOp .Lt (.ref a) (.ref b)) Q E (St s₀ h tk) := by
  show wpAny (model PG w) A (richCompare .Lt (.ref a) (.ref b)) Q E (St s₀ h tk)
  refine wpAny_richCompare_same_or (T := "list") ⟨_, ha, rfl⟩ ⟨_, hb, rfl⟩ PySem.F.slot_list_lt ?_ (.inr (by omega))
  refine callAgain PySem.F.slot_list_lt ⟨_, ha, rfl⟩ PySem.F.entry_list_lt (PySem.F.args_list_lt_2 _ _) ?_
  have f3 := AutoSeq1.sub_list_list
  have fin : codeAny (model PG w) A (.builtin "list.__eq__.loop" ⟨[.ref a, .ref b, rawInt ((0 : Nat) : Int), rawInt 0], []⟩) (fun r s' => match r with | .ok (.ret v) => v ≠ .notImplemented ∧ Q v s' | .ok _ => False | .error e => E e s') (St s₀ h tk) :=
    lexLt_loop ha hb x 0 tk A rfl rfl (Nat.zero_le _) (Nat.zero_le _) (by omega) fun tk' => ⟨by simp, q tk'⟩
  unfold St at fin ⊢
  wp_walk using wpAny_loadPart' ha, wpAny_loadPart' hb
  exact ⟨plainId_quiet MeetsSeq3.plain_eq_loop _, fin⟩

theorem lexGt_loop {a b : Addr} {vs us : List Value} {n n' : Nat} {R : Result → Shared → Prop} (ha : h.get? a = some (lstO vs n)) (hb : h.get? b = some (lstO us n')) {xs ys : List Value} {r : Bool} (x : Lex .Gt c w h xs ys r) :
    ∀ (i tk : Nat) (A : Around), vs.drop i = xs → us.drop i = ys → i ≤ vs.length → i ≤ us.length → A.units + c + 2 < cLine → (∀ tk', R (.ok (.ret (.bool r))) (St s₀ h tk')) →
      codeAny (model PG w) A (.builtin "list.__eq__.loop" ⟨[.ref a, .ref b, rawInt i, rawInt 4], []⟩) R (St s₀ h tk) := by
  have size : ∀ (i tk : Nat) (A : Around) (r : Bool), (vs.toArray[((i : Nat) : Int).toNat]? = none ∨ us.toArray[((i : Nat) : Int).toNat]? = none) → decide (vs.length > us.length) = r → (∀ tk', R (.ok (.ret (.bool r))) (St s₀ h tk')) →
      codeAny (model PG w) A (.builtin "list.__eq__.loop" ⟨[.ref a, .ref b, rawInt i, rawInt 4], []⟩) R (St s₀ h tk) := by
    intro i tk A r hn hr q
    refine codeAny_builtin MeetsSeq3.entry_eq_loop ?_
    rw [Around.under_plainId MeetsSeq3.plain_eq_loop _]
    have fin : R (.ok (.ret (.bool (decide (vs.toArray.size > us.toArray.size))))) (St s₀ h tk) := by
      rw [List.size_toArray, List.size_toArray, hr]; exact q tk
    unfold St at fin ⊢
    wp_walk using wpAny_loadPart' ha, wpAny_loadPart' hb
    have tail : wpAny (model PG w) A.in1 (do ret (.bool (decide ((← Builtin.List.listItems (Value.ref a)).size > (← Builtin.List.listItems (Value.ref b)).size)))) (fun fin s' => match fin with | .done f => R (.ok f) s' | .again c' => c'.quiet = true ∧ codeAny (model PG w) A c' R s') (fun e s' => R (.error e) s') { heap := h, gens := s₀.gens, drawn := s₀.drawn, toks := tk, os := s₀.os } := by
      wp_walk using wpAny_loadPart' ha, wpAny_loadPart' hb
      exact fin
    rcases hn with hn | hn
    · rw [hn]; exact tail
    · rw [hn]
      cases vs.toArray[((i : Nat) : Int).toNat]? <;> exact tail
  induction x with
  | nil =>
    intro i tk A e1 e2 l1 l2 hu q
    exact size i tk A _ (.inl (drop_nil e1).1) (by have := (drop_nil e1).2; have := (drop_nil e2).2; simp; omega) q
  | left =>
    intro i tk A e1 e2 l1 l2 hu q
    have hl := congrArg List.length e2
    rw [List.length_drop, List.length_cons] at hl
    exact size i tk A _ (.inl (drop_nil e1).1) (by have := (drop_nil e1).2; exact decide_eq_false (by omega)) q
  | right =>
    intro i tk A e1 e2 l1 l2 hu q
    have hl := congrArg List.length e1
    rw [List.length_drop, List.length_cons] at hl
    exact size i tk A _ (.inr (drop_nil e2).1) (by have := (drop_nil e2).2; exact decide_eq_true (by omega)) q
  | @same x y xs ys r he _ ih =>
    intro i tk A e1 e2 l1 l2 hu q
    have d1 := drop_cons e1
    have d2 := drop_cons e2
    have hl1 := congrArg List.length e1
    have hl2 := congrArg List.length e2
    rw [List.length_drop, List.length_cons] at hl1 hl2
    refine codeAny_builtin MeetsSeq3.entry_eq_loop ?_
    rw [Around.under_plainId MeetsSeq3.plain_eq_loop _]
    unfold St
    wp_walk using wpAny_loadPart' ha, wpAny_loadPart' hb
    rw [d1.1, d2.1]
    refine wpAny_bind (he A.in1 _ _ s₀ tk (by show A.units + 1 + c < cLine; omega) fun tk' => ?_)
    rw [if_pos rfl]
    refine wpAny_pure ⟨plainId_quiet MeetsSeq3.plain_eq_loop _, ?_⟩
    rw [show ((i : Int) + 1) = ((i + 1 : Nat) : Int) by push_cast; rfl]
    exact ih (i + 1) tk' A d1.2 d2.2 (by omega) (by omega) hu q
  | @diff x y xs ys r he hc =>
    intro i tk A e1 e2 l1 l2 hu q
    have d1 := drop_cons e1
    have d2 := drop_cons e2
    refine codeAny_builtin MeetsSeq3.entry_eq_loop ?_
    rw [Around.under_plainId MeetsSeq3.plain_eq_loop _]
    unfold St
    wp_walk using wpAny_loadPart' ha, wpAny_loadPart' hb
    rw [d1.1, d2.1]
    refine wpAny_bind (he A.in1 _ _ s₀ tk (by show A.units + 1 + c < cLine; omega) fun tk' => ?_)
    rw [if_neg Bool.false_ne_true]
    unfold St
    wp_walk using wpAny_loadPart' ha, wpAny_loadPart' hb
    rw [d1.1, d2.1]
    refine wpAny_bind (hc A.in1 _ _ s₀ tk' (by show A.units + 1 + c < cLine; omega) fun tk'' => ?_)
    exact wpAny_pure (q tk'')

theorem cmpGt_list {a b : Addr} {vs us : List Value} {n n' : Nat} {r : Bool} (ha : h.get? a = some (lstO vs n)) (hb : h.get? b = some (lstO us n')) (x : Lex .Gt c w h vs us r) (hu : A.units + c + 4 < cLine) (q : ∀ tk', Q (.bool r) (St s₀ h tk')) :
    wpAny (model PG w) A (compareOp .Gt (.ref a) (.ref b)) Q E (St s₀ h tk) := by
  show wpAny (model PG w) A (richCompare .Gt (.ref a) (.ref b)) Q E (St s₀ h tk)
  refine wpAny_richCompare_same_or (T := "list") ⟨_, ha, rfl⟩ ⟨_, hb, rfl⟩ PySem.F.slot_list_gt ?_ (.inr (by omega))
  refine callAgain PySem.F.slot_list_gt ⟨_, ha, rfl⟩ PySem.F.entry_list_gt (PySem.F.args_list_gt_2 _ _) ?_
  have f3 := AutoSeq1.sub_list_list
  have fin : codeAny (model PG w) A (.builtin "list.__eq__.loop" ⟨[.ref a, .ref b, rawInt ((0 : Nat) : Int), rawInt 4], []⟩) (fun r s' => match r with | .ok (.ret v) => v ≠ .notImplemented ∧ Q v s' | .ok _ => False | .error e => E e s') (St s₀ h tk) :=
    lexGt_loop ha hb x 0 tk A rfl rfl (Nat.zero_le _) (Nat.zero_le _) (by omega) fun tk' => ⟨by simp, q tk'⟩
  unfold St at fin ⊢
  wp_walk using wpAny_loadPart' ha, wpAny_loadPart' hb
  exact ⟨plainId_quiet MeetsSeq3.plain_eq_loop _, fin⟩

end
end Mj
end

section
open PySem PySem.W PyProof.Rows
namespace Mj
def ltSc : Sc → Sc → Bool
  | .inl a, .inl b => decide (a < b)
  | .inr x, .inr y => decide (x.cps.toList < y.cps.toList)
  | _, _ => false
def isI : Sc → Bool
  | .inl _ => true
  | .inr _ => false
def ltK : List (Int × Sc) → List (Int × Sc) → Bool
  | [], [] => false
  | [], _ :: _ => true
  | _ :: _, [] => false
  | k :: ks, l :: ls => if k.1 = l.1 then (if k.2 = l.2 then ltK ks ls else ltSc k.2 l.2) else decide (k.1 < l.1)
/-- the kind of a piece hangs on its rank alone -/
def Compat (R : Int) (ks : List (Int × Sc)) : Prop := ∀ k ∈ ks, isI k.2 = decide (k.1 = R)
def flatOf (ks : List (Int × Sc)) : List Sc := ks.flatMap fun k => [.inl k.1, k.2]

section
variable {c : Nat} {w : World} {h : Heap}
theorem eqI {a b : Int} {t u : Tok} : EqV c w h (.int a t) (.int b u) (decide (a = b)) := fun A E Q s₀ tk _ q => wpAny_eqBool_int (by rw [show (a == b) = decide (a = b) by by_cases h : a = b <;> simp [h]]; exact q tk)
theorem eqS {a b : Str} {t u : Tok} : EqV c w h (.str a t) (.str b u) (decide (a = b)) := fun A E Q s₀ tk _ q => wpAny_eqBool_str (q tk)
theorem eqSc {a b : Sc} {u v : Value} (x : ScIs u a) (y : ScIs v b) (hk : isI a = isI b) : EqV c w h u v (decide (a = b)) := by
  cases a with
  | inl n =>
    cases b with
    | inl m =>
      obtain ⟨t, rfl⟩ := x
      obtain ⟨t', rfl⟩ := y
      rw [show decide ((Sum.inl n : Sc) = Sum.inl m) = decide (n = m) by simp]
      exact eqI
    | inr _ => cases hk
  | inr n =>
    cases b with
    | inr m =>
      obtain ⟨t, rfl⟩ := x
      obtain ⟨t', rfl⟩ := y
      rw [show decide ((Sum.inr n : Sc) = Sum.inr m) = decide (n = m) by simp]
      exact eqS
    | inl _ => cases hk
theorem ltScV {a b : Sc} {u v : Value} (x : ScIs u a) (y : ScIs v b) (hk : isI a = isI b) : CmpV .Lt c w h u v (ltSc a b) := by
  cases a with
  | inl n =>
    cases b with
    | inl m =>
      obtain ⟨t, rfl⟩ := x
      obtain ⟨t', rfl⟩ := y
      exact fun A E Q s₀ tk _ q => lt_int (q tk)
    | inr _ => cases hk
  | inr n =>
    cases b with
    | inr m =>
      obtain ⟨t, rfl⟩ := x
      obtain ⟨t', rfl⟩ := y
      exact fun A E Q s₀ tk _ q => lt_str (q tk)
    | inl _ => cases hk
theorem gtScV {a b : Sc} {u v : Value} (x : ScIs u a) (y : ScIs v b) (hk : isI a = isI b) : CmpV .Gt c w h u v (ltSc b a) := by
  cases a with
  | inl n =>
    cases b with
    | inl m =>
      obtain ⟨t, rfl⟩ := x
      obtain ⟨t', rfl⟩ := y
      exact fun A E Q s₀ tk _ q => gt_int (q tk)
    | inr _ => cases hk
  | inr n =>
    cases b with
    | inr m =>
      obtain ⟨t, rfl⟩ := x
      obtain ⟨t', rfl⟩ := y
      intro A E Q s₀ tk _ q
      exact wpAny_richCompare_same (op := .Gt) (T := "str") (typeIs_str _ n t) (typeIs_str _ m t') PySem.F.slot_str_gt
        (wpAny_call_entry PySem.F.slot_str_gt (typeIs_str _ n t) PySem.F.entry_str_gt (show wpAny _ _ (ret (.bool (decide (m.cps.toList < n.cps.toList)))) _ _ _ from wpAny_pure ⟨_, rfl, by simp, q tk⟩) (PySem.F.args_str_gt_2 _ _))
    | inl _ => cases hk

theorem lexLt_flat {R : Int} : ∀ {ks ls : List (Int × Sc)} {vs us : List Value}, Compat R ks → Compat R ls → All2 ScIs vs (flatOf ks) → All2 ScIs us (flatOf ls) → Lex .Lt c w h vs us (ltK ks ls)
  | [], [], _, _, _, _, x, y => by cases x; cases y; exact .nil
  | [], l :: ls, _, _, _, _, x, y => by
    cases x
    cases y
    exact .left
  | k :: ks, [], _, _, _, _, x, y => by
    cases y
    cases x
    exact .right
  | k :: ks, l :: ls, _, _, ck, cl, x, y => by
    cases x with
    | cons x1 x =>
    cases x with
    | cons x2 x =>
    cases y with
    | cons y1 y =>
    cases y with
    | cons y2 y =>
    have h1 := ck k (.head _)
    have h2 := cl l (.head _)
    unfold ltK
    by_cases hr : k.1 = l.1
    · rw [if_pos hr]
      have hk : isI k.2 = isI l.2 := by rw [h1, h2, hr]
      have e1 := eqSc (c := c) (w := w) (h := h) x1 y1 rfl
      rw [decide_eq_true (by rw [hr])] at e1
      refine .same e1 ?_
      have e2 := eqSc (c := c) (w := w) (h := h) x2 y2 hk
      by_cases hv : k.2 = l.2
      · rw [if_pos hv]
        rw [decide_eq_true hv] at e2
        exact .same e2 (lexLt_flat (fun q hq => ck q (.tail _ hq)) (fun q hq => cl q (.tail _ hq)) x y)
      · rw [if_neg hv]
        rw [decide_eq_false hv] at e2
        exact .diff e2 (ltScV x2 y2 hk)
    · rw [if_neg hr]
      have e1 := eqSc (c := c) (w := w) (h := h) x1 y1 rfl
      rw [decide_eq_false (by intro q; injection q with q; exact hr q)] at e1
      exact .diff e1 (ltScV x1 y1 rfl)
theorem lexGt_flat {R : Int} : ∀ {ks ls : List (Int × Sc)} {vs us : List Value}, Compat R ks → Compat R ls → All2 ScIs vs (flatOf ks) → All2 ScIs us (flatOf ls) → Lex .Gt c w h vs us (ltK ls ks)
  | [], [], _, _, _, _, x, y => by cases x; cases y; exact .nil
  | [], l :: ls, _, _, _, _, x, y => by
    cases x
    cases y
    exact .left
  | k :: ks, [], _, _, _, _, x, y => by
    cases y
    cases x
    exact .right
  | k :: ks, l :: ls, _, _, ck, cl, x, y => by
    cases x with
    | cons x1 x =>
    cases x with
    | cons x2 x =>
    cases y with
    | cons y1 y =>
    cases y with
    | cons y2 y =>
    have h1 := ck k (.head _)
    have h2 := cl l (.head _)
    unfold ltK
    by_cases hr : l.1 = k.1
    · rw [if_pos hr]
      have hk : isI k.2 = isI l.2 := by rw [h1, h2, hr]
      have e1 := eqSc (c := c) (w := w) (h := h) x1 y1 rfl
      rw [decide_eq_true (by rw [hr])] at e1
      refine .same e1 ?_
      have e2 := eqSc (c := c) (w := w) (h := h) x2 y2 hk
      by_cases hv : l.2 = k.2
      · rw [if_pos hv]
        rw [decide_eq_true hv.symm] at e2
        exact .same e2 (lexGt_flat (fun q hq => ck q (.tail _ hq)) (fun q hq => cl q (.tail _ hq)) x y)
      · rw [if_neg hv]
        rw [decide_eq_false (fun q => hv q.symm)] at e2
        exact .diff e2 (gtScV x2 y2 hk)
    · rw [if_neg hr]
      have e1 := eqSc (c := c) (w := w) (h := h) x1 y1 rfl
      rw [decide_eq_false (by intro q; injection q with q; exact hr q.symm)] at e1
      exact .diff e1 (gtScV x1 y1 rfl)
end
end Mj
end

section
open PySem PySem.W PyProof.Rows
namespace Mj
section
variable {w : World} {h : Heap} {A : Around} {E : Value → Shared → Prop} {s₀ : Shared} {tk : Nat} {Q : Value → Shared → Prop}
variable {t1 t2 : Addr} {k l : Int × Sc} {a b : Tok} {v1 v2 : Value}
theorem instTup {vs : List Value} {Q : Bool → Shared → Prop} (e : h.get? t1 = some (tupO vs)) (q : Q true (St s₀ h tk)) : wpAny (model PG w) A (isInstance (.ref t1) (.type "tuple")) Q E (St s₀ h tk) := by
  have f2 := AutoSeq1.sub_tuple_tuple
  unfold St at q ⊢
  wp_walk using wpAny_loadPart' e
  exact q
theorem tupItems {vs : List Value} {Q : Array Value → Shared → Prop} (e : h.get? t1 = some (tupO vs)) (q : Q vs.toArray (St s₀ h tk)) : wpAny (model PG w) A (Builtin.Tuple.tupleItemsOf (.ref t1)) Q E (St s₀ h tk) := by
  unfold St at q ⊢
  wp_walk using wpAny_loadPart' e
  exact q

theorem tupEq_rc (h1 : h.get? t1 = some (tupO [.int k.1 a, v1])) (h2 : h.get? t2 = some (tupO [.int l.1 b, v2])) (x1 : ScIs v1 k.2) (x2 : ScIs v2 l.2) (hk : k.1 = l.1 → isI k.2 = isI l.2) (hu : A.units + 2 < cLine)
    (q : ∀ tk', Q (.bool (decide (k = l))) (St s₀ h tk')) : wpAny (model PG w) A (richCompare .Eq (.ref t1) (.ref t2)) Q E (St s₀ h tk) := by
  have hu1 : A.in1.units + 0 < cLine := by show A.units + 1 + 0 < cLine; omega
  refine wpAny_richCompare_same_or (T := "tuple") ⟨_, h1, rfl⟩ ⟨_, h2, rfl⟩ PySem.F.slot_tuple_eq ?_ (.inr (by omega))
  refine wpAny_call_entry PySem.F.slot_tuple_eq ⟨_, h1, rfl⟩ PySem.F.entry_tuple_eq ?_ (PySem.F.args_tuple_eq_2 _ _)
  refine wpAny_bind (m := slotArgs "__eq__" 1 ⟨[.ref t1, .ref t2], []⟩) (wpAny_pure ?_)
  refine wpAny_bind (m := isInstance (.ref t2) (.type "tuple")) (instTup h2 ?_)
  rw [if_neg (by decide)]
  refine wpAny_bind (tupItems h1 (wpAny_bind (tupItems h2 (wpAny_bind ?_))))
  show wpAny (model PG w) A.in1 (forIn [(Value.int k.1 a, Value.int l.1 b), (v1, v2)] _ _) _ _ _
  rw [List.forIn_cons]
  refine wpAny_bind (wpAny_bind (eqI (w := w) A.in1 _ _ s₀ tk hu1 fun tk₁ => ?_))
  by_cases hr : k.1 = l.1
  · rw [decide_eq_true hr, if_neg (by decide)]
    refine wpAny_pure ?_
    dsimp only
    rw [List.forIn_cons]
    refine wpAny_bind (wpAny_bind (eqSc (w := w) x1 x2 (hk hr) A.in1 _ _ s₀ tk₁ hu1 fun tk₂ => ?_))
    by_cases hv : k.2 = l.2
    · rw [decide_eq_true hv, if_neg (by decide)]
      refine wpAny_pure ?_
      dsimp only
      rw [List.forIn_nil]
      refine wpAny_pure (wpAny_pure ⟨_, rfl, (fun q => by cases q), ?_⟩)
      have := q tk₂
      rw [decide_eq_true (Prod.ext hr hv)] at this
      exact this
    · rw [decide_eq_false hv, if_pos (by decide)]
      refine wpAny_bind (wpAny_pure (wpAny_pure (wpAny_pure (wpAny_pure ⟨_, rfl, by simp, ?_⟩))))
      have := q tk₂
      rw [decide_eq_false (fun e => hv (by rw [e]))] at this
      exact this
  · rw [decide_eq_false hr, if_pos (by decide)]
    refine wpAny_bind (wpAny_pure (wpAny_pure (wpAny_pure (wpAny_pure ⟨_, rfl, by simp, ?_⟩))))
    have := q tk₁
    rw [decide_eq_false (fun e => hr (by rw [e]))] at this
    exact this

def ltP (k l : Int × Sc) : Bool := if k.1 = l.1 then (if k.2 = l.2 then false else ltSc k.2 l.2) else decide (k.1 < l.1)

theorem tupLt_rc (h1 : h.get? t1 = some (tupO [.int k.1 a, v1])) (h2 : h.get? t2 = some (tupO [.int l.1 b, v2])) (x1 : ScIs v1 k.2) (x2 : ScIs v2 l.2) (hk : k.1 = l.1 → isI k.2 = isI l.2) (hu : A.units + 2 < cLine)
    (q : ∀ tk', Q (.bool (ltP k l)) (St s₀ h tk')) : wpAny (model PG w) A (richCompare .Lt (.ref t1) (.ref t2)) Q E (St s₀ h tk) := by
  have hu1 : A.in1.units + 0 < cLine := by show A.units + 1 + 0 < cLine; omega
  refine wpAny_richCompare_same_or (T := "tuple") ⟨_, h1, rfl⟩ ⟨_, h2, rfl⟩ PySem.F.slot_tuple_lt ?_ (.inr (by omega))
  refine wpAny_call_entry PySem.F.slot_tuple_lt ⟨_, h1, rfl⟩ PySem.F.entry_tuple_lt ?_ (PySem.F.args_tuple_lt_2 _ _)
  refine wpAny_bind (m := slotArgs "__lt__" 1 ⟨[.ref t1, .ref t2], []⟩) (wpAny_pure ?_)
  refine wpAny_bind (m := isInstance (.ref t2) (.type "tuple")) (instTup h2 ?_)
  rw [if_neg (by decide)]
  refine wpAny_bind (tupItems h1 (wpAny_bind (tupItems h2 (wpAny_bind ?_))))
  show wpAny (model PG w) A.in1 (forIn [(Value.int k.1 a, Value.int l.1 b), (v1, v2)] _ _) _ _ _
  rw [List.forIn_cons]
  refine wpAny_bind (wpAny_bind (eqI (w := w) A.in1 _ _ s₀ tk hu1 fun tk₁ => ?_))
  by_cases hr : k.1 = l.1
  · rw [decide_eq_true hr, if_neg (by decide)]
    refine wpAny_pure ?_
    dsimp only
    rw [List.forIn_cons]
    refine wpAny_bind (wpAny_bind (eqSc (w := w) x1 x2 (hk hr) A.in1 _ _ s₀ tk₁ hu1 fun tk₂ => ?_))
    by_cases hv : k.2 = l.2
    · rw [decide_eq_true hv, if_neg (by decide)]
      refine wpAny_pure ?_
      dsimp only
      rw [List.forIn_nil]
      refine wpAny_pure (wpAny_pure ⟨_, rfl, (fun q => by cases q), ?_⟩)
      have := q tk₂
      unfold ltP at this
      rw [if_pos hr, if_pos hv] at this
      exact this
    · rw [decide_eq_false hv, if_pos (by decide)]
      refine wpAny_bind (wpAny_rule (wpAny_bind (ltScV (w := w) x1 x2 (hk hr) A.in1 _ _ s₀ tk₂ hu1 fun tk₃ => ?_)))
      refine wpAny_bind (wpAny_pure (wpAny_pure (wpAny_pure (wpAny_pure ⟨_, rfl, by simp, ?_⟩))))
      have := q tk₃
      unfold ltP at this
      rw [if_pos hr, if_neg hv] at this
      exact this
  · rw [decide_eq_false hr, if_pos (by decide)]
    refine wpAny_bind (wpAny_rule (wpAny_bind (ltScV (w := w) (a := .inl k.1) (b := .inl l.1) ⟨a, rfl⟩ ⟨b, rfl⟩ rfl A.in1 _ _ s₀ tk₁ hu1 fun tk₃ => ?_)))
    refine wpAny_bind (wpAny_pure (wpAny_pure (wpAny_pure (wpAny_pure ⟨_, rfl, by simp, ?_⟩))))
    have := q tk₃
    unfold ltP at this
    rw [if_neg hr] at this
    exact this

theorem eqTup (h1 : h.get? t1 = some (tupO [.int k.1 a, v1])) (h2 : h.get? t2 = some (tupO [.int l.1 b, v2])) (x1 : ScIs v1 k.2) (x2 : ScIs v2 l.2) (hk : k.1 = l.1 → isI k.2 = isI l.2) : EqV 4 w h (.ref t1) (.ref t2) (decide (k = l)) := by
  intro A E Q s₀ tk hu q
  unfold eqBool
  refine wpAny_holding ?_
  by_cases ht : t1 = t2
  · subst ht
    rw [h1] at h2
    have hkl : k = l := by
      have h3 : ([.int k.1 a, v1] : List Value) = [.int l.1 b, v2] := by
        have := congrArg (fun o : Option Obj => o.map (·.data)) h2
        simp only [Option.map_some, Option.some.injEq, Data.seq.injEq, and_true] at this
        exact congrArg Array.toList this
      have e1 : k.1 = l.1 := by injection h3 with p _; injection p
      have e2 : v1 = v2 := by injection h3 with _ p; injection p
      refine Prod.ext e1 ?_
      subst e2
      cases hk2 : k.2 with
      | inl n =>
        rw [hk2] at x1
        obtain ⟨t, rfl⟩ := x1
        cases hl2 : l.2 with
        | inl m => rw [hl2] at x2; obtain ⟨t', e⟩ := x2; cases e; rfl
        | inr m => rw [hl2] at x2; obtain ⟨t', e⟩ := x2; cases e
      | inr n =>
        rw [hk2] at x1
        obtain ⟨t, rfl⟩ := x1
        cases hl2 : l.2 with
        | inl m => rw [hl2] at x2; obtain ⟨t', e⟩ := x2; cases e
        | inr m => rw [hl2] at x2; obtain ⟨t', e⟩ := x2; cases e; rfl
    rw [if_pos (by simp)]
    refine wpAny_bind (wpAny_rule (wpAny_pure ?_))
    have := q tk
    rw [decide_eq_true hkl] at this
    exact this
  · rw [if_neg (by simpa using ht)]
    refine wpAny_bind (tupEq_rc (E := E) h1 h2 x1 x2 hk (by omega) fun tk' => ?_)
    exact wpAny_truthy_bool (q tk')
theorem ltTup (h1 : h.get? t1 = some (tupO [.int k.1 a, v1])) (h2 : h.get? t2 = some (tupO [.int l.1 b, v2])) (x1 : ScIs v1 k.2) (x2 : ScIs v2 l.2) (hk : k.1 = l.1 → isI k.2 = isI l.2) : CmpV .Lt 4 w h (.ref t1) (.ref t2) (ltP k l) :=
  fun A E Q s₀ tk hu q => tupLt_rc (E := E) h1 h2 x1 x2 hk (by omega) q

theorem lexLt_tups {R : Int} {fz : Addr → Obj → Prop} (hf : ∀ a o, fz a o → h.get? a = some o) : ∀ {ks ls : List (Int × Sc)} {vs us : List Value}, Compat R ks → Compat R ls → All2 (TupIs fz) vs ks → All2 (TupIs fz) us ls → Lex .Lt 4 w h vs us (ltK ks ls)
  | [], [], _, _, _, _, x, y => by cases x; cases y; exact .nil
  | [], l :: ls, _, _, _, _, x, y => by
    cases x
    cases y
    exact .left
  | k :: ks, [], _, _, _, _, x, y => by
    cases y
    cases x
    exact .right
  | k :: ks, l :: ls, _, _, ck, cl, x, y => by
    cases x with
    | cons x1 x =>
    cases y with
    | cons y1 y =>
    obtain ⟨a1, t1, v1, rfl, q1, r1⟩ := x1
    obtain ⟨a2, t2, v2, rfl, q2, r2⟩ := y1
    have hk : k.1 = l.1 → isI k.2 = isI l.2 := fun e => by rw [ck k (.head _), cl l (.head _), e]
    have e1 := eqTup (w := w) (hf _ _ q1) (hf _ _ q2) r1 r2 hk
    unfold ltK
    by_cases hkl : k = l
    · rw [decide_eq_true hkl] at e1
      rw [if_pos (by rw [hkl]), if_pos (by rw [hkl])]
      exact .same e1 (lexLt_tups hf (fun q hq => ck q (.tail _ hq)) (fun q hq => cl q (.tail _ hq)) x y)
    · rw [decide_eq_false hkl] at e1
      have l1 := ltTup (w := w) (hf _ _ q1) (hf _ _ q2) r1 r2 hk
      have : (if k.1 = l.1 then (if k.2 = l.2 then ltK ks ls else ltSc k.2 l.2) else decide (k.1 < l.1)) = ltP k l := by
        unfold ltP
        by_cases h1 : k.1 = l.1
        · rw [if_pos h1, if_pos h1]
          rw [if_neg (fun e => hkl (Prod.ext h1 e)), if_neg (fun e => hkl (Prod.ext h1 e))]
        · rw [if_neg h1, if_neg h1]
      rw [this]
      exact .diff e1 l1
end
end Mj
end

section
open PySem PySem.W PyProof.Rows
namespace Mj
/-- what a call of the predicate at p answers for the items of vs -/
def PredOk (w : World) (p : Addr) (h : Heap) (d u : Nat) (P : Value → Bool) (vs : List Value) : Prop :=
  HasFn h p ∧ ∀ v ∈ vs, ∀ (A' : Around) (E : Value → Shared → Prop) (Q : Value → Shared → Prop) (s₀ : Shared) (h' : Heap) (tk : Nat), A'.depth ≤ d → A'.units ≤ u → A'.handled = none → KeepBut [] h h' →
    (∀ h'' tk', KeepBut [] h' h'' → Q (.bool (P v)) (St s₀ h'' tk')) → wpAny (model PG w) A' (PySem.call (.ref p) [v]) Q E (St s₀ h' tk)
theorem Bs.hideNil {hg h : Heap} (k : ∀ b o, (hideAll h []).get? b = some o → hg.get? b = some o) : ∀ b o, h.get? b = some o → hg.get? b = some o := fun b o e => k b o (hideAll_get _ e (fun q => nomatch q))

section
variable {w : World} {A : Around} {E : Value → Shared → Prop} {s₀ : Shared} {h : Heap} {mg mb : Str → Option Value} {hg : Heap} {tk n : Nat} {Q : Value → Shared → Prop} {l p : Addr} {vs : List Value} {P : Value → Bool}
set_option maxHeartbeats 1000000 in
theorem splitList_ok (T : Tp w hg mg mb) (B : Bs hg h) (hroom : A.depth + 4 < recursionLimit) (hh : A.handled = none) (hl : h.get? l = some (lstO vs n)) (hlen : vs.length ≤ 1000) (hp : PredOk w p h (A.depth + 1) (A.units + 3) P vs)
    (hQ : ∀ D Y N n1 n2 h' tk', KeepBut [] h h' → h.objs.size ≤ D → h.objs.size ≤ Y → h.objs.size ≤ N → h'.get? D = some (tupO [.ref Y, .ref N]) → h'.get? Y = some (lstO (vs.filter P) n1) → h'.get? N = some (lstO (vs.filter fun v => !P v) n2) → Q (.ref D) (St s₀ h' tk')) :
    wpAny (model PG w) A (PySem.call (.ref 51) [.ref l, .ref p]) Q E (St s₀ h tk) := by
  refine callFn' (X := []) (binds := [("s", .ref l), ("predicate", .ref p)]) T T.hSplit B (fun _ q => nomatch q) (by omega) (fun _ _ => rfl) rfl rfl rfl rfl (by decide) (fun cd h₁ tk₁ B₁ S₁ => ?_)
  refine wpAny_execs_cons ?_
  with_reducible refine asgS (List_ ?_)
  with_reducible refine splN ?_
  refine newListS S₁ fun Y h₂ hY _ S₂ => ?_
  refine stG S₂ fun h₃ tk₃ S₃ => ?_
  refine wpAny_execs_cons ?_
  with_reducible refine asgS (List_ ?_)
  with_reducible refine splN ?_
  refine newListS S₃ fun N h₄ hN _ S₄ => ?_
  refine stG S₄ fun h₅ tk₅ S₅ => ?_
  have S₆ := S₅.base
  have hl₀ : (hideAll h []).get? l = some (lstO vs n) := hideAll_get _ hl (fun q => nomatch q)
  refine wpAny_execs_cons ?_
  refine wpAny_mono (Q := fun f s' => f = .next ∧ ∃ h' tk' m' n1 n2, s' = St s₀ h' tk' ∧ Sit [] (hideAll h []) h.objs.size m' [(N, lstO (vs.filter fun v => !P v) n2), (Y, lstO (vs.filter P) n1)] (fun _ _ => False) h' ∧ m' "yes" = some (.ref Y) ∧ m' "no" = some (.ref N)) ?_ ?_ (fun _ _ q => q)
  · refine forG (X := []) (h₀ := hideAll h []) (L := h.objs.size) (s₀ := s₀) hh ?_
    refine eLocG S₆ rfl ?_
    refine ⟨fun i m own fz => ∃ n1 n2, own = [(N, lstO ((vs.take i).filter fun v => !P v) n2), (Y, lstO ((vs.take i).filter P) n1)] ∧ m "yes" = some (.ref Y) ∧ m "no" = some (.ref N) ∧ m "predicate" = some (.ref p) ∧ fz l (lstO vs n), l, vs, n, h₅, tk₅, _, _, _, rfl, rfl, S₆, ⟨0, 0, rfl, rfl, rfl, rfl, .inr hl₀⟩, (fun i m own fz ⟨_, _, _, _, _, _, q⟩ => q), ?_, ?_⟩
    · rintro i v I o m own fz h₇ tk₇ hvi ⟨n1, n2, rfl, m1, m2, m3, q⟩ S
      have hv : v ∈ vs := List.mem_of_getElem? hvi
      have hlt : ∀ f : Value → Bool, ((vs.take i).filter f).length ≤ 1000 := fun f => by
        have := List.length_filter_le f (vs.take i)
        rw [List.length_take] at this
        omega
      have ht : ∀ f : Value → Bool, (vs.take (i + 1)).filter f = (vs.take i).filter f ++ (if f v then [v] else []) := fun f => by
        rw [List.take_add_one, hvi, List.filter_append]
        simp [List.filter_cons]
      refine wpAny_execs_cons ?_
      with_reducible refine wpAny_If ?_
      refine isTrue_plain ?_
      with_reducible refine callNm ?_
      refine eLocG S (show _ = _ from m3) ?_
      with_reducible refine callRf1 ?_
      have kp : KeepBut [] h h₇ := fun b o _ e => S.F.keep b o (hideAll_get _ e (fun q => nomatch q))
      have hfn : HasFn h₇ p := by
        obtain ⟨oc, od, fd, sl, e⟩ := hp.1
        exact ⟨oc, od, fd, sl, kp _ _ (fun q => nomatch q) e⟩
      refine eLocG S rfl ⟨hfn, ?_⟩
      refine hp.2 v hv _ _ _ s₀ h₇ tk₇ (Nat.le_refl _) ?_ hh kp fun h₈ tk₈ kp₈ => ?_
      · exact Nat.le_refl _
      have S₈ := S.call kp₈
      refine wpAny_truthy_bool ?_
      by_cases hb : P v = true
      · rw [hb, if_pos rfl]
        refine wpAny_execs_cons ?_
        with_reducible refine exprS ?_
        refine eAppend (D := Y) (vs := (vs.take i).filter P) (n := n1) ?_
        refine eLocG S₈ (show _ = _ from m1) ⟨rfl, S₈.ownGet (.tail _ (.tail _ (.head _))), ?_⟩
        refine eLocG S₈ rfl ?_
        refine appS S₈.rot (fun h₉ S₉ => ⟨rfl, wpAny_execs_nil (wpAny_execs_nil ⟨.inl rfl, h₉, _, _, _, _, rfl, S₉.swap.rot.swap, n1 + 1, n2, ?_, m1, m2, m3, .inl q⟩)⟩) (Nat.le_trans (hlt _) (by decide))
        rw [ht, ht, hb]; simp
      · have hb' := Bool.eq_false_iff.mpr hb
        rw [hb', if_neg Bool.false_ne_true]
        refine wpAny_execs_cons ?_
        with_reducible refine exprS ?_
        refine eAppend (D := N) (vs := (vs.take i).filter fun v => !P v) (n := n2) ?_
        refine eLocG S₈ (show _ = _ from m2) ⟨rfl, S₈.ownGet (.tail _ (.head _)), ?_⟩
        refine eLocG S₈ rfl ?_
        refine appS S₈.swap (fun h₉ S₉ => ⟨rfl, wpAny_execs_nil (wpAny_execs_nil ⟨.inl rfl, h₉, _, _, _, _, rfl, S₉.swap, n1, n2 + 1, ?_, m1, m2, m3, .inl q⟩)⟩) (Nat.le_trans (hlt _) (by decide))
        rw [ht, ht, hb']; simp
    · rintro m own fz h₇ tk₇ ⟨n1, n2, rfl, m1, m2, m3, q⟩ S
      rw [List.take_length] at S
      exact ⟨rfl, h₇, tk₇, m, n1, n2, rfl, S.weaken fun _ _ q => q.elim, m1, m2⟩
  · rintro _ _ ⟨rfl, h', tk', m', n1, n2, rfl, S', m1, m2⟩
    refine wpAny_execs_cons ?_
    with_reducible refine wpAny_Return_some (Tuple_ ?_)
    with_reducible refine splE ?_
    refine eLocG S' m1 ?_
    with_reducible refine splE ?_
    refine eLocG S' m2 ?_
    with_reducible refine splN ?_
    refine newTupS S' fun D h₉ hD _ S₉ => ?_
    have z1 := S₁.size
    have z3 := S₃.size
    have z' := S'.size
    rw [hideAll_size] at z1 z3 z'
    exact hQ D Y N n1 n2 h₉ tk' (S₉.keepX rfl) (by omega) (by omega) (by omega) (S₉.ownGet (.head _)) (S₉.ownGet (.tail _ (.tail _ (.head _)))) (S₉.ownGet (.tail _ (.head _)))
end
end Mj
end

section
open PySem PySem.W PyProof.Rows
namespace Mj
section
variable {X : List Addr} {h₀ h h' : Heap} {L : Addr} {m m' : Str → Option Value} {own own' : List (Addr × Obj)} {fz fz' : Addr → Obj → Prop}
/-- what is new in h' may be asked from now on -/
theorem Sit.grow (S : Sit X h₀ L m own fz h) (S' : Sit X h₀ L m' own' fz h') (e : own'.map (·.1) = own.map (·.1)) : Sit X h₀ L m' own' (fzCall fz h h') h' where
  F := S'.F
  hid := S'.hid
  os := S'.os
  nd := S'.nd
  kz := fun b o q => by
    rcases q with q | ⟨q, hb⟩
    · exact S'.kz b o q
    · refine ⟨q, Nat.ne_of_gt (Nat.lt_of_lt_of_le S.lt hb), fun hx => absurd (S.hid _ hx).2 (Nat.not_lt.mpr (Nat.le_trans S.size hb)), fun p hp => ?_⟩
      have : p.1 ∈ own.map (·.1) := by rw [← e]; exact List.mem_map_of_mem hp
      obtain ⟨p', hp', e'⟩ := List.mem_map.mp this
      have := Heap.lt_size (S.os p' hp').1
      rw [e'] at this
      exact Nat.ne_of_lt (Nat.lt_of_lt_of_le this hb)
/-- behind a call that keeps all but the first own object -/
theorem Sit.callT {a : Addr} {o o' : Obj} (S : Sit X h₀ L m ((a, o) :: own) fz h) (hk : KeepBut [a] h h') (e : h'.get? a = some o') : Sit X h₀ L m ((a, o') :: own) (fzCall fz h h') h' :=
  S.grow (S.upd (fun b o hb e => hk b o (by simpa using hb) e) e) rfl
end

/-- the code objects that the table names -/
def TabOk (h : Addr → Obj → Prop) (ps : Array Value) (qual : Str) : Prop :=
  TriplesOk ps.toList ∧ ∀ pos c, codeAmong pos ps.toList = some c → ∃ a oc vs t, c = .ref a ∧ a ≠ 67 ∧ h a oc ∧ oc.data = .fields vs ∧ vs[1]? = some (.str qual t)
theorem TabOk.mono' {fz fz' : Addr → Obj → Prop} {ps : Array Value} {q : Str} (x : TabOk fz ps q) (hf : ∀ a o, a ≠ 67 → fz a o → fz' a o) : TabOk fz' ps q :=
  ⟨x.1, fun pos c e => let ⟨a, oc, vs, t, e1, e0, e2, r⟩ := x.2 pos c e; ⟨a, oc, vs, t, e1, e0, hf _ _ e0 e2, r⟩⟩
theorem TabOk.mono {fz fz' : Addr → Obj → Prop} {ps : Array Value} {q : Str} (x : TabOk fz ps q) (hf : ∀ a o, fz a o → fz' a o) : TabOk fz' ps q :=
  ⟨x.1, fun pos c e => let ⟨a, oc, vs, t, e1, e0, e2, r⟩ := x.2 pos c e; ⟨a, oc, vs, t, e1, e0, hf _ _ e2, r⟩⟩
theorem among_snoc {pos : Pos} {a b : Int} {c d : Value} (l : List Value) (h : TriplesOk l) (e : codeAmong pos (l ++ [rawInt a, rawInt b, d]) = some c) : codeAmong pos l = some c ∨ c = d := by
  fun_induction TriplesOk l with
  | case1 =>
    simp only [List.nil_append, codeAmong, rawInt] at e
    split at e
    · cases e; exact .inr rfl
    · cases e
  | case2 a' t b' u x rest ih =>
    simp only [List.cons_append, codeAmong] at e ⊢
    split at e
    · rename_i hc; rw [if_pos hc]; exact .inl e
    · rename_i hc; rw [if_neg hc]; exact ih h e
  | case3 l h1 h2 => exact h.elim
theorem TabOk.snoc {fz fz' : Addr → Obj → Prop} {ps : Array Value} {q : Str} (x : TabOk fz ps q) (hf : ∀ a o, fz a o → fz' a o) {a b : Int} {c : Addr} {oc : Obj} {vs : Array Value} {t : Tok} (h0 : c ≠ 67) (h1 : fz' c oc) (h2 : oc.data = .fields vs) (h3 : vs[1]? = some (.str q t)) :
    TabOk fz' (ps ++ #[rawInt a, rawInt b, .ref c]) q := by
  have e : (ps ++ #[rawInt a, rawInt b, .ref c]).toList = ps.toList ++ [rawInt a, rawInt b, .ref c] := by simp
  refine ⟨by rw [e]; exact TriplesOk_snoc _ _ _ _ x.1, fun pos d hd => ?_⟩
  rw [e] at hd
  rcases among_snoc _ x.1 hd with hd | rfl
  · exact (x.mono hf).2 pos d hd
  · exact ⟨c, oc, vs, t, rfl, h0, h1, h2, h3⟩

section
variable {w : World} {A : Around} {E : Value → Shared → Prop} {s₀ : Shared} {env : Env} {h₀ h : Heap} {L : Addr} {m mg mb : Str → Option Value} {hg : Heap} {own : List (Addr × Obj)} {fz : Addr → Obj → Prop} {tk : Nat} {Q : Value → Shared → Prop} {ps : Array Value}
/-- a lambda is made -/
theorem lamS {params : Arguments} {body : Expr} {scope : Scope} {pos : Pos} {clos : List (Str × Addr)} (T : Tp w hg mg mb) (B : Bs hg h₀) (S : Sit [] h₀ L m ((67, tabObj ps) :: own) fz h) (ht : TabOk fz ps (env.qual ++ "<lambda>"))
    (hcl : closureFor scope env = pure clos) (hge : env.globals = mainGlobals) (hcode : env.code = .ref 71) (hdef : defaultsOf params env = ([], []))
    (q : ∀ f c ctv pm h' tk' ps' fz', Sit [] h₀ L m ((67, tabObj ps') :: own) fz' h' → (∀ a o, fz a o → fz' a o) → TabOk fz' ps' (env.qual ++ "<lambda>") → fz' f { cls := .type "function", data := .func (kla_fn "<lambda>" (env.qual ++ "<lambda>") params body scope clos pm (.ref c) ctv) } →
      (∃ oc vs t, fz' c oc ∧ oc.data = .fields vs ∧ vs[1]? = some (.str (env.qual ++ "<lambda>") t)) → Q (.ref f) (St s₀ h' tk')) :
    wpAny (model PG w) A (eval (.Lambda params body scope pos) env) Q E (St s₀ h tk) := by
  have z := S.os _ (.head _)
  have keep : ∀ b o, hg.get? b = some o → h.get? b = some o := fun b o e => S.F.keep _ _ (B _ _ e)
  have h67 : hg.get? 67 = none := by
    cases e : hg.get? 67 with
    | none => rfl
    | some o => have := B _ _ e; rw [z.2.2.1] at this; cases this
  have hgP : mainGlobals ≠ 67 := by decide
  obtain ⟨bm, ob, b1, b2, b3, b4, b5, b6⟩ := T.bmain
  have hbP : bm ≠ 67 := fun e => by rw [e, h67] at b3; cases b3
  have hbG : bm ≠ mainGlobals := fun e => by
    obtain ⟨o, es, ep, e', hd, _⟩ := T.g
    rw [e, e'] at b3; cases b3; rw [hd] at b6; cases b6
  have hb : h.BuiltinsAt mg 67 := ⟨bm, ob, b1, b2, hbG, hbP, keep _ _ b3, b4, b5, b6⟩
  refine kla_eval hdef ?_
  cases hf : codeAmong pos ps.toList with
  | none =>
    refine kla_makeFunction (s := St s₀ h tk) (mg := mg) hcl hge (T.g.keeps keep) hcode (T.codeHd.keeps keep) z.1 ht.1 hf hgP hb fun c' ctv h' tk' hx hge' hlt hrec htb => ?_
    obtain ⟨c₂, oc, vs, t, e2, hoc, hd, hv⟩ := hrec
    cases e2
    have S₁ := S.grow (S.upd hx htb) rfl
    have S₂ := (S₁.push (kla_obj "<lambda>" (env.qual ++ "<lambda>") params body scope clos ((mg "__name__").getD .none) c' ctv)).freeze
    have hc' : fzAdd (fzCall fz h h') h'.objs.size (kla_obj "<lambda>" (env.qual ++ "<lambda>") params body scope clos ((mg "__name__").getD .none) c' ctv) c' oc := .inl (.inr ⟨hoc, hge'⟩)
    exact q _ c' ctv _ _ tk' _ _ S₂ (fun _ _ r => .inl (.inl r)) (ht.snoc (fun _ _ r => .inl (.inl r)) (Nat.ne_of_gt (Nat.lt_of_lt_of_le (Heap.lt_size z.1) hge')) hc' hd hv) (.inr ⟨rfl, rfl⟩) ⟨oc, vs, t, hc', hd, hv⟩
  | some cv =>
    obtain ⟨c', oc, vs, t, rfl, hne, hoc, hd, hv⟩ := ht.2 _ _ hf
    refine kla_makeFunctionHit (s := St s₀ h tk) (mg := mg) hcl hge (T.g.keeps keep) hcode (T.codeHd.keeps keep) z.1 ht.1 hf hb fun ctv h' tk' hk hsz => ?_
    have S₁ : Sit [] h₀ L m ((67, tabObj ps) :: own) (fzCall fz h h') h' := S.call fun b o _ e => hk b o e
    have S₂ := (S₁.push { cls := .type "function", data := .func (kla_fn "<lambda>" (env.qual ++ "<lambda>") params body scope clos ((mg "__name__").getD .none) (.ref c') ctv) }).freeze
    exact q _ c' ctv _ _ tk' _ _ S₂ (fun _ _ r => .inl (.inl r)) (ht.mono fun _ _ r => .inl (.inl r)) (.inr ⟨rfl, rfl⟩) ⟨oc, vs, t, .inl (.inl hoc), hd, hv⟩

/-- list + list -/
theorem addS {X : List Addr} {l b : Addr} {vs ws : List Value} {n n' : Nat} (S : Sit X h₀ L m own fz h) (hl : h.get? l = some (lstO vs n)) (hb : h.get? b = some (lstO ws n')) (hsz : vs.length + ws.length ≤ 100000)
    (q : ∀ a h', h.objs.size ≤ a → (∀ b o, h.get? b = some o → h'.get? b = some o) → Sit X h₀ L m ((a, lstO (vs ++ ws) 0) :: own) fz h' → Q (.ref a) (St s₀ h' tk)) : wpAny (model PG w) A (binaryOp .Add (.ref l) (.ref b)) Q E (St s₀ h tk) := by
  have e : vs.toArray ++ ws.toArray = (vs ++ ws).toArray := by simp
  refine concat_meets ⟨_, hl, rfl⟩ ⟨_, hb, rfl⟩ noFill_list_add seq_list_add PySem.F.slot_list_add PySem.F.entry_list_add (PySem.F.args_list_add_2 _ _) (list_addW l b vs.toArray ws.toArray n n' none none #[] #[] (by simp; exact Nat.le_trans hsz (by decide))) ⟨hl, hb, ?_⟩
  rw [e]
  exact q _ _ (Nat.le_refl _) (fun _ _ e => Heap.get?_push_of_some _ e) (S.push _)
end
end Mj
end

section
open PySem PySem.W PyProof.Rows
namespace Mj
abbrev Key := List (Int × Sc)
/-- v is a tuple whose first item is a list that lays the key flat -/
def ItemOk (h : Addr → Obj → Prop) (v : Value) (k : Key) : Prop := ∃ a K r kvs n, v = .ref a ∧ h a (tupO (.ref K :: r)) ∧ h K (lstO kvs n) ∧ All2 ScIs kvs (flatOf k) ∧ Compat 100 k
theorem ItemOk.mono {f g : Addr → Obj → Prop} {v : Value} {k : Key} (x : ItemOk f v k) (hf : ∀ a o, f a o → g a o) : ItemOk g v k :=
  let ⟨a, K, r, kvs, n, e, h1, h2, h3⟩ := x; ⟨a, K, r, kvs, n, e, hf _ _ h1, hf _ _ h2, h3⟩
section
variable {w : World} {h : Heap} {mg mb : Str → Option Value} {hg : Heap} {f c C K0 : Addr} {qual : Str} {params : Arguments} {scope : Scope} {pm ctv : Value} {vs : List Value} {key : Value → Key} {d u n0 : Nat} {k0vs : List Value} {k0 : Key}
  {p1 p2 p3 p4 p5 : Pos} {kk : Nat} {op : CmpOp} {R : Key → Key → Bool}

/-- lambda item: item[0] op first -/
theorem lamPred (T : Tp w hg mg mb) (B : Bs hg h) (hd : d + 1 < recursionLimit) (hu : u + 20 < cLine)
    (ho : h.get? f = some { cls := .type "function", data := .func (kla_fn "<lambda>" qual params (.Compare (.Subscript (.Name "item" p1) (.Constant (.int 0) kk p2) p3) [op] [.Name "first" p4] p5) scope [("first", C)] pm (.ref c) ctv) })
    (hcd : h.CodeRec (.ref c) qual) (hC : h.IsCell C (some (.ref K0))) (hK0 : h.get? K0 = some (lstO k0vs n0)) (hk0 : All2 ScIs k0vs (flatOf k0)) (hc0 : Compat 100 k0)
    (hvs : ∀ v ∈ vs, ItemOk (fun a o => h.get? a = some o) v (key v))
    (hcmp : ∀ (h' : Heap) (A : Around) (E : Value → Shared → Prop) (Q : Value → Shared → Prop) (s₀ : Shared) (tk : Nat) (K K0 : Addr) (kvs lvs : List Value) (n n' : Nat) (k l : Key), h'.get? K = some (lstO kvs n) → h'.get? K0 = some (lstO lvs n') → All2 ScIs kvs (flatOf k) → All2 ScIs lvs (flatOf l) → Compat 100 k → Compat 100 l → A.units + 8 < cLine →
      (∀ tk', Q (.bool (R k l)) (St s₀ h' tk')) → wpAny (model PG w) A (compareOp op (.ref K) (.ref K0)) Q E (St s₀ h' tk))
    (hbind : ∀ v, bindArgs (kla_fn "<lambda>" qual params (.Compare (.Subscript (.Name "item" p1) (.Constant (.int 0) kk p2) p3) [op] [.Name "first" p4] p5) scope [("first", C)] pm (.ref c) ctv) ⟨[v], []⟩ = pure [(("item" : Str), v)])
    (hk : scope.kind = .function) (hco : scope.isCoroutine = false) (hgen : scope.isGenerator = false) (hcell : ∀ x ∈ scope.names, x.2 ≠ .cell) (hloc : scope.names.lookup ("item" : Str) = some .local) (hfree : scope.names.lookup ("first" : Str) = some .free) (hop : op = .Lt ∨ op = .Gt) :
    PredOk w f h d u (fun v => R (key v) k0) vs := by
  refine ⟨.mk ho rfl, fun v hv A E Q s₀ h' tk hdA huA hhA kp q => ?_⟩
  have kp' : ∀ b o, h.get? b = some o → h'.get? b = some o := fun b o e => kp b o (fun q => nomatch q) e
  obtain ⟨a, K, r, kvs, n, rfl, e1, e2, e3, e4⟩ := hvs v hv
  refine wpAny_call (kla_callFunE (s := St s₀ h' tk) (by omega) (kp' _ _ ho) rfl hco hgen rfl (hcd.keeps kp') ?_)
  rw [hbind]
  refine wpAny_pure (wpAny_newFunctionEnv hcell (fun x hx => by obtain rfl := List.mem_singleton.mp hx; exact hloc) (fun h₁ hns hsb => ⟨((T.nolimit.keeps B).keeps kp').fresh _ hsb, ?_⟩) hk)
  have keep : ∀ b o, h'.get? b = some o → h₁.get? b = some o := fun b o e => hsb.extBut b o (Nat.ne_of_lt (Heap.lt_size e)) (Heap.get?_push_of_some _ e)
  have S : Sit [] h' h'.objs.size (fun x => ([("item", Value.ref a)] : List (Str × Value)).reverse.lookup x) [] (fun _ _ => False) h₁ := ⟨⟨hns, keep, Nat.le_refl _⟩, (fun _ q => nomatch q), (fun _ q => nomatch q), List.nodup_nil, (fun _ _ q => q.elim)⟩
  show codeAny _ _ (.expr _ (envX qual scope h'.objs.size f (.ref c) [("first", C)])) _ _
  refine kla_codeExpr ?_
  refine wpAny_Compare1 ?_ (by rcases hop with rfl | rfl <;> rfl)
  with_reducible refine Subscript_ ?_
  refine eLocG (s₀ := s₀) S rfl ?_ hk rfl hloc
  with_reducible refine eInt fun _ _ => ?_
  refine subTup (keep _ _ (kp' _ _ e1)) (k := 0) rfl (by decide) ?_
  refine wpAny_Name (wpAny_loadName_free (c := C) hk hfree rfl ((hC.keeps kp').keeps keep) ?_) (by decide)
  refine hcmp h₁ _ _ _ s₀ _ K K0 kvs k0vs n n0 (key (.ref a)) k0 (keep _ _ (kp' _ _ e2)) (keep _ _ (kp' _ _ hK0)) e3 hk0 e4 hc0 ?_ fun tk' => q h₁ tk' fun b o _ e => keep b o e
  show A.units + 3 + 8 < cLine
  omega
end
end Mj
end

section
open PySem PySem.W PyProof.Rows
namespace Mj
/-- one round of _law_parted, rec for the parts -/
def pstep {α : Type} (lt : α → α → Bool) (rec : List α → List α) : List α → List α
  | [] => []
  | [x] => [x]
  | x :: y :: r => rec ((x :: y :: r).filter fun v => lt v x) ++ ((x :: y :: r).filter fun v => !lt v x).filter (fun v => !lt x v) ++ rec (((x :: y :: r).filter fun v => !lt v x).filter fun v => lt x v)
/-- what _law_parted reckons -/
def parted {α : Type} (lt : α → α → Bool) : Nat → List α → List α
  | 0, xs => xs
  | k + 1, xs => pstep lt (parted lt k) xs
theorem pstep_short {α : Type} {lt : α → α → Bool} {rec : List α → List α} {xs : List α} (h : xs.length < 2) : pstep lt rec xs = xs := by
  match xs, h with
  | [], _ => rfl
  | [x], _ => rfl
theorem ltK_irrefl : ∀ k : Key, ltK k k = false
  | [] => rfl
  | a :: k => by unfold ltK; rw [if_pos rfl, if_pos rfl]; exact ltK_irrefl k
abbrev lamQ : Str := ("_law_parted" : Str) ++ ".<locals>." ++ "<lambda>"
abbrev ltV (key : Value → Key) (u v : Value) : Bool := ltK (key u) (key v)

/-- the contract of _law_parted for the items vs -/
def PartedC (w : World) (key : Value → Key) (vs res : List Value) : Prop :=
  ∀ (hg : Heap) (mg mb : Str → Option Value), Tp w hg mg mb → hg.get? 67 = none → ∀ (A : Around) (E : Value → Shared → Prop) (Q : Value → Shared → Prop) (s₀ : Shared) (h : Heap) (tk : Nat) (D : Addr) (n : Nat) (ps : Array Value), Bs hg h →
    A.depth + 3 * vs.length + 8 < recursionLimit → A.units + 20 * vs.length + 60 < cLine → A.handled = none → h.get? D = some (lstO vs n) → (∀ v ∈ vs, ItemOk (fun a o => h.get? a = some o) v (key v)) →
    h.get? 67 = some (tabObj ps) → TabOk (fun a o => h.get? a = some o) ps lamQ →
    (∀ D' n' h' tk' ps', KeepBut [67] h h' → h.objs.size ≤ D' → h'.get? D' = some (lstO res n') → h'.get? 67 = some (tabObj ps') → TabOk (fun a o => h'.get? a = some o) ps' lamQ → Q (.ref D') (St s₀ h' tk')) →
    wpAny (model PG w) A (PySem.call (.ref 72) [.ref D]) Q E (St s₀ h tk)

theorem filter_lt {α : Type} {p : α → Bool} {l : List α} {x : α} (hx : x ∈ l) (hp : p x = false) : (l.filter p).length < l.length := by
  rw [List.length_filter_lt_length_iff_exists]
  exact ⟨x, hx, by rw [hp]; exact Bool.false_ne_true⟩
theorem of_filter {α : Type} {p : α → Bool} {l : List α} {x : α} (h : x ∈ l.filter p) : x ∈ l := (List.mem_filter.mp h).1
abbrev envP (L : Addr) : Env := envOfC "_law_parted" (scpOf (stAt 10)) L 72 (.ref 71)
section
variable {w : World} {key : Value → Key} {hg : Heap} {mg mb : Str → Option Value} {A : Around} {E : Value → Shared → Prop} {Q : Value → Shared → Prop} {s₀ : Shared} {h : Heap} {tk n : Nat} {D : Addr} {ps : Array Value} {vs : List Value}
theorem enterP (T : Tp w hg mg mb) (hgn : hg.get? 67 = none) (B : Bs hg h) (hroom : A.depth < recursionLimit) (ht : h.get? 67 = some (tabObj ps))
    (q : ∀ h₁ tk oc, Bs hg (hideAll h [67]) → Sit [] (hideAll h [67]) h.objs.size (fun y => if y = ("items" : Str) then some (.ref D) else none) [(67, tabObj ps), (h.objs.size + 1, oc)] (fun _ _ => False) h₁ → oc.data = .cell none →
      wpAny (model PG w) (A.deeper (envP h.objs.size)) (execs (bodOf (stAt 10)) (envP h.objs.size)) (fun f s' => Q (match f with | .ret v => v | _ => .none) s') (fun _ _ => False) (St s₀ h₁ tk)) :
    wpAny (model PG w) A (PySem.call (.ref 72) [.ref D]) Q E (St s₀ h tk) := by
  obtain ⟨o, pm, ho, hd, hc⟩ := T.partedC
  have BX := B.hide (X := [67]) fun a ha => by obtain rfl := List.mem_singleton.mp ha; exact hgn
  have h67 := Heap.lt_size ht
  refine wpAny_call (call_cells_ret (s := St s₀ h tk) (binds := [("items", .ref D)]) hroom (B _ _ ho) hd (T.nolimit.keeps B) (hc.keeps B) rfl (fun x hx => .inl (by obtain rfl := List.mem_singleton.mp hx; rfl)) (fun h₁ tk₁ F Cx => ?_) rfl rfl rfl)
  obtain ⟨oc, hoc, hcd⟩ := Cx.cell "first" (h.objs.size + 1) rfl
  have S : Sit [] (hideAll h [67]) h.objs.size (fun y => if y = ("items" : Str) then some (.ref D) else none) [(67, tabObj ps), (h.objs.size + 1, oc)] (fun _ _ => False) h₁ := by
    refine ⟨⟨F.ns, fun b o e => F.keep b o (of_hideAll _ e), by rw [hideAll_size]; exact Nat.le_refl _⟩, (fun _ q => nomatch q), fun p hp => ?_, ?_, (fun _ _ q => q.elim)⟩
    · simp only [List.mem_cons, List.not_mem_nil, or_false] at hp
      rcases hp with rfl | rfl
      · exact ⟨F.keep _ _ ht, Nat.ne_of_lt h67, hideAll_none _ (.head _), fun q => nomatch q⟩
      · exact ⟨hoc, Nat.succ_ne_self _, Heap.get?_none_of_le (by rw [hideAll_size]; exact Nat.le_succ _), fun q => nomatch q⟩
    · simp only [List.map_cons, List.map_nil, List.nodup_cons, List.mem_singleton, List.not_mem_nil, not_false_eq_true, List.nodup_nil, and_true]
      exact Nat.ne_of_lt (Nat.lt_succ_of_lt h67)
  exact q h₁ tk₁ oc BX S hcd

theorem eLen {l : Addr} {vs : List Value} {n : Nat} {h : Heap} (e : h.get? l = some (lstO vs n)) (hf : vs.length ≤ 1000) (q : ∀ t tk', Q (.int vs.length t) (St s₀ h tk')) : wpAny (model PG w) A (PySem.call (.builtin "len") [.ref l]) Q E (St s₀ h tk) :=
  Calls.call_len_list (isList_of e) (by show ((vs.toArray.size : Nat) : Int) < _; rw [List.size_toArray]; omega) (by rw [List.size_toArray]; exact q _ _)

section
variable {h₀ : Heap} {L src2 C K0 : Addr} {m : Str → Option Value} {fz : Addr → Obj → Prop} {us k0vs : List Value} {n0 : Nat} {k0 : Key} {o₃ : Obj} {src n1 n2 : Str} {np sp lpos cp tp q1 q2 p p1 p2 p3 p4 p5 : Pos} {kk tk1 : Nat} {op : CmpOp} {R : Key → Key → Bool} {params : Arguments} {scope : Scope}
set_option maxHeartbeats 1000000 in
/-- n1, n2 = _split_list(src, lambda item: item[0] op first) -/
theorem partS {Q : Flow → Shared → Prop} (T : Tp w hg mg mb) (B : Bs hg h₀) (hroom : A.depth + 8 < recursionLimit) (hun : A.units + 60 < cLine) (hh : A.handled = none) (S : Sit [] h₀ L m [(67, tabObj ps)] fz h) (hm : m src = some (.ref D)) (hus : us.length ≤ 1000) (hD : fz D (lstO us n))
    (hit : ∀ v ∈ us, ItemOk fz v (key v)) (hcell : fz (L + 1) o₃) (hcd : o₃.data = .cell (some (.ref K0))) (hK0 : fz K0 (lstO k0vs n0)) (hk0 : All2 ScIs k0vs (flatOf k0)) (hc0 : Compat 100 k0) (htab : TabOk fz ps lamQ)
    (hcmp : ∀ (h' : Heap) (A : Around) (E : Value → Shared → Prop) (Q : Value → Shared → Prop) (s₀ : Shared) (tk : Nat) (K K0 : Addr) (kvs lvs : List Value) (n n' : Nat) (k l : Key), h'.get? K = some (lstO kvs n) → h'.get? K0 = some (lstO lvs n') → All2 ScIs kvs (flatOf k) → All2 ScIs lvs (flatOf l) → Compat 100 k → Compat 100 l → A.units + 8 < cLine →
      (∀ tk', Q (.bool (R k l)) (St s₀ h' tk')) → wpAny (model PG w) A (compareOp op (.ref K) (.ref K0)) Q E (St s₀ h' tk))
    (hbind : ∀ pm c ctv v, bindArgs (kla_fn "<lambda>" lamQ params (.Compare (.Subscript (.Name "item" p1) (.Constant (.int 0) kk p2) p3) [op] [.Name "first" p4] p5) scope [("first", L + 1)] pm (.ref c) ctv) ⟨[v], []⟩ = pure [(("item" : Str), v)])
    (hk : scope.kind = .function) (hco : scope.isCoroutine = false) (hgen : scope.isGenerator = false) (hcell' : ∀ x ∈ scope.names, x.2 ≠ .cell) (hloc : scope.names.lookup ("item" : Str) = some .local) (hfree : scope.names.lookup ("first" : Str) = some .free) (hop : op = .Lt ∨ op = .Gt)
    (hcl : closureFor scope (envP L) = pure [(("first" : Str), L + 1)]) (hdef : defaultsOf params (envP L) = ([], [])) (hsrc : (envP L).kindOf src = some .local) (hn1 : (envP L).kindOf n1 = some .local) (hn2 : (envP L).kindOf n2 = some .local) (hsd : (src == ("__debug__" : Str)) = false)
    (q : ∀ Y N m1 m2 h' tk' ps' fz', Sit [] h₀ L (fun y => if y = n2 then some (.ref N) else if y = n1 then some (.ref Y) else m y) [(67, tabObj ps')] fz' h' → (∀ a o, fz a o → fz' a o) → TabOk fz' ps' lamQ →
      fz' Y (lstO (us.filter fun v => R (key v) k0) m1) → fz' N (lstO (us.filter fun v => !R (key v) k0) m2) → Q .next (St s₀ h' tk')) :
    wpAny (model PG w) A (exec (.Assign [.Tuple [.Name n1 q1, .Name n2 q2] tk1 tp] (.Call (.Name "_split_list" np) [.Name src sp, .Lambda params (.Compare (.Subscript (.Name "item" p1) (.Constant (.int 0) kk p2) p3) [op] [.Name "first" p4] p5) scope lpos] [] cp) p) (envP L)) Q (fun _ _ => False) (St s₀ h tk) := by
  refine Assign_Tuple ?_ rfl rfl
  with_reducible refine callNm ?_
  refine eGlobG T B S T.hSplit.1 ?_
  refine callRf2 ?_ rfl rfl
  refine eLocG S hm ?_ rfl rfl hsrc hsd
  refine lamS (s₀ := s₀) T B S htab hcl rfl rfl hdef fun f c ctv pm h₁ tk₁ ps₁ fz₁ S₁ hf htab₁ hff hfc => ⟨S₁.hasFn B T.hSplit, ?_⟩
  obtain ⟨ocd, cvs, ct, c1, c2, c3⟩ := hfc
  have P : PredOk w f h₁ (A.depth + 1) (A.units + 3) (fun v => R (key v) k0) us :=
    lamPred T (fun b o e => S₁.F.keep _ _ (B _ _ e)) (by omega) (by omega) (S₁.get hff) ⟨c, ocd, cvs, ct, rfl, S₁.get c1, c2, c3⟩ ⟨o₃, S₁.get (hf _ _ hcell), hcd⟩ (S₁.get (hf _ _ hK0)) hk0 hc0 (fun v hv => (hit v hv).mono fun a o e => S₁.get (hf _ _ e)) hcmp (hbind pm c ctv) hk hco hgen hcell' hloc hfree hop
  refine splitList_ok T (fun b o e => S₁.F.keep _ _ (B _ _ e)) (by omega) hh (S₁.get (hf _ _ hD)) hus P fun D' Y N m1 m2 h₂ tk₂ kp₂ z1 z2 z3 e1 e2 e3 => ?_
  have S₂ := S₁.call kp₂
  refine assign_Tuple_tuple hh (isTup_of e1) rfl rfl fun h₃ hx => ?_
  have S₃ := S₂.call fun b o _ e => hx b o (Nat.ne_of_lt (Heap.lt_size e)) e
  refine assignInOrder_cons (wpAny_assign_Name (stG (s₀ := s₀) S₃ (fun h₄ tk₄ S₄ => ?_) rfl rfl hn1))
  refine assignInOrder_cons (wpAny_assign_Name (stG (s₀ := s₀) S₄ (fun h₅ tk₅ S₅ => ?_) rfl rfl hn2))
  refine assignInOrder_nil ?_
  exact q Y N m1 m2 h₅ tk₅ ps₁ _ S₅ (fun a o e => .inl (.inl (hf a o e))) (htab₁.mono fun a o e => .inl (.inl e)) (.inl (.inr ⟨e2, z2⟩)) (.inl (.inr ⟨e3, z3⟩))
end

set_option maxHeartbeats 1000000 in
theorem parted_body {rec : List Value → List Value} (hlen : vs.length ≤ 1000) (hrec : ∀ us, us.length < vs.length → PartedC w key us (rec us)) (hlr : ∀ us, us.length < vs.length → (rec us).length ≤ us.length) :
    PartedC w key vs (pstep (ltV key) rec vs) := by
  intro hg mg mb T hgn A E Q s₀ h tk D n ps B hroom hun hh hD hit ht htab hQ
  refine enterP T hgn B (by omega) ht fun h₁ tk₁ oc B₁ S₁ hoc => ?_
  have S₂ := S₁.base
  have h67D : D ≠ 67 := fun e => by rw [e, ht] at hD; cases hD
  have hD₀ : (hideAll h [67]).get? D = some (lstO vs n) := hideAll_get _ hD (by simpa using h67D)
  have base : ∀ a o, h.get? a = some o → o.cls ≠ .none → (hideAll h [67]).get? a = some o := fun a o e hc => hideAll_get _ e (by
    intro q
    obtain rfl := List.mem_singleton.mp q
    rw [ht] at e; cases e; exact hc rfl)
  have hit₀ : ∀ v ∈ vs, ItemOk (fun a o => (hideAll h [67]).get? a = some o) v (key v) := fun v hv => by
    obtain ⟨a, K, r, kvs, m, e, h1, h2, h3⟩ := hit v hv
    exact ⟨a, K, r, kvs, m, e, base _ _ h1 (by intro q; cases q), base _ _ h2 (by intro q; cases q), h3⟩
  refine wpAny_execs_cons ?_
  with_reducible refine wpAny_If ?_
  with_reducible refine wpAny_isTrue_Compare1 ?_ (by with_unfolding_all rfl)
  with_reducible refine callNm ?_
  refine eBiG (v := .builtin "len") T B₁ S₂ T.nLen (by decide) (by decide) ?_
  with_reducible refine callBi1 ?_
  refine eLocG S₂ rfl ?_
  refine eLen (S₂.get (.inr hD₀)) hlen fun _ _ => ?_
  with_reducible refine eInt fun _ _ => ?_
  refine cLt (wpAny_truthy_bool ?_)
  by_cases hshort : vs.length < 2
  · rw [if_pos (decide_eq_true (by omega))]
    refine wpAny_execs_cons ?_
    with_reducible refine wpAny_Return_some (wpAny_BinOp (List_ ?_))
    with_reducible refine splN ?_
    refine newListS S₂ fun e h₃ _ _ S₃ => ?_
    refine eLocG S₃ rfl ?_
    refine addS S₃ (S₃.ownGet (.head _)) (S₃.get (.inr hD₀)) (by simp; omega) fun D' h₄ hD' _ S₄ => ?_
    have z := S₃.size
    rw [hideAll_size] at z
    refine hQ D' 0 h₄ _ ps (fun b o hb e => S₄.F.keep b o (hideAll_get _ e hb)) (by omega) ?_ (S₄.ownGet (.tail _ (.tail _ (.head _)))) (htab.mono' fun a o ha e => ?_)
    · rw [pstep_short hshort]
      exact S₄.ownGet (.head _)
    · exact S₄.F.keep _ _ (hideAll_get _ e (by simpa using ha))
  · rw [if_neg (by rw [decide_eq_false (by omega)]; exact Bool.false_ne_true)]
    refine wpAny_execs_nil ?_
    obtain ⟨x, y, r, rfl⟩ : ∃ x y r, vs = x :: y :: r := by
      match vs, hshort with
      | [], q => exact absurd (show 0 < 2 by decide) q
      | [x], q => exact absurd (show 1 < 2 by decide) q
      | x :: y :: r, _ => exact ⟨x, y, r, rfl⟩
    obtain ⟨a0, K0, r0, k0vs, n0, rfl, i1, i2, i3, i4⟩ := hit₀ x (.head _)
    -- first
    refine wpAny_execs_cons ?_
    with_reducible refine asgS (Subscript_ (Subscript_ ?_))
    refine eLocG S₂ rfl ?_
    with_reducible refine eInt fun _ _ => ?_
    refine subList (S₂.get (.inr hD₀)) (Int.le_refl _) (by decide) rfl ?_
    with_reducible refine eInt fun _ _ => ?_
    refine subTup (S₂.get (.inr i1)) (k := 0) rfl (by decide) ?_
    refine wpAny_storeName_cell (c := h.objs.size + 1) rfl rfl rfl ⟨oc, S₂.ownGet (.tail _ (.head _)), hoc⟩ fun h₃ hc₃ hs₃ => ?_
    obtain ⟨o₃, e₃, d₃⟩ := hc₃
    have S₃ := (S₂.swap.upd hs₃.extBut e₃).freeze
    -- less, rest
    have hsub : ∀ (p q : Value → Bool) v, v ∈ ((Value.ref a0 :: y :: r).filter p).filter q → v ∈ (Value.ref a0 :: y :: r) := fun p q v hv => of_filter (of_filter hv)
    have lf1 := List.length_filter_le (fun v => ltV key v (.ref a0)) (Value.ref a0 :: y :: r)
    have lf2 := List.length_filter_le (fun v => !ltV key v (.ref a0)) (Value.ref a0 :: y :: r)
    refine wpAny_execs_cons ?_
    refine partS (key := key) (k0 := key (.ref a0)) (R := fun k l => ltK k l) T B₁ (by show A.depth + 1 + 8 < _; omega) (by show A.units + 3 + 60 < _; omega) hh S₃ rfl hlen (.inl (.inr hD₀)) (fun v hv => (hit₀ v hv).mono fun a o e => .inl (.inr e)) (.inr ⟨rfl, rfl⟩) d₃ (.inl (.inr i2)) i3 i4
      (htab.mono' fun a o ha e => .inl (.inr (hideAll_get _ e (by simpa using ha))))
      (fun h' A E Q s₀ tk K K0 kvs lvs n n' k l e1 e2 x1 x2 c1 c2 hu q => cmpLt_list (c := 0) e1 e2 (lexLt_flat c1 c2 x1 x2) (by omega) q)
      (fun _ _ _ _ => rfl) rfl rfl rfl (by decide) rfl rfl (.inl rfl) rfl rfl rfl rfl rfl (by decide) fun Y N m1 m2 h₄ tk₄ ps₄ fz₄ S₄ hf₄ htab₄ hY hN => ?_
    -- more, same
    refine wpAny_execs_cons ?_
    refine partS (key := key) (k0 := key (.ref a0)) (R := fun k l => ltK l k) T B₁ (by show A.depth + 1 + 8 < _; omega) (by show A.units + 3 + 60 < _; omega) hh S₄ rfl (Nat.le_trans lf2 hlen) hN (fun v hv => (hit₀ v (of_filter hv)).mono fun a o e => hf₄ _ _ (.inl (.inr e))) (hf₄ _ _ (.inr ⟨rfl, rfl⟩)) d₃ (hf₄ _ _ (.inl (.inr i2))) i3 i4 htab₄
      (fun h' A E Q s₀ tk K K0 kvs lvs n n' k l e1 e2 x1 x2 c1 c2 hu q => cmpGt_list (c := 0) e1 e2 (lexGt_flat c1 c2 x1 x2) (by omega) q)
      (fun _ _ _ _ => rfl) rfl rfl rfl (by decide) rfl rfl (.inr rfl) rfl rfl rfl rfl rfl (by decide) fun Y' N' m3 m4 h₅ tk₅ ps₅ fz₅ S₅ hf₅ htab₅ hY' hN' => ?_
    have hl1 : ((Value.ref a0 :: y :: r).filter fun v => ltV key v (.ref a0)).length < (Value.ref a0 :: y :: r).length := filter_lt (.head _) (ltK_irrefl _)
    have hl2 : (((Value.ref a0 :: y :: r).filter fun v => !ltV key v (.ref a0)).filter fun v => ltV key (.ref a0) v).length < (Value.ref a0 :: y :: r).length := by
      rw [List.filter_filter]
      exact filter_lt (.head _) (by rw [show ltV key (.ref a0) (.ref a0) = false from ltK_irrefl _]; rfl)
    -- return
    refine wpAny_execs_cons ?_
    with_reducible refine wpAny_Return_some (wpAny_BinOp (wpAny_BinOp (wpAny_BinOp (List_ ?_))))
    with_reducible refine splN ?_
    refine newListS S₅ fun e₆ h₆ _ _ S₆' => ?_
    have S₆ := S₆'.freeze
    with_reducible refine callNm ?_
    refine eGlobG T B₁ S₆ T.hParted.1 ?_
    with_reducible refine callRf1 ?_
    refine eLocG S₆ rfl ⟨S₆.hasFn B₁ T.hParted, ?_⟩
    have cut : ∀ {fz : Addr → Obj → Prop} {h' : Heap} {own} {m'}, Sit [] (hideAll h [67]) h.objs.size m' own fz h' → (∀ a o, fzAdd (fun a o => False ∨ (hideAll h [67]).get? a = some o) (h.objs.size + 1) o₃ a o → fz a o) → ∀ v ∈ (Value.ref a0 :: y :: r), ItemOk (fun a o => h'.get? a = some o) v (key v) :=
      fun S' hf v hv => (hit₀ v hv).mono fun a o e => S'.get (hf _ _ (.inl (.inr e)))
    refine hrec _ hl1 hg mg mb T hgn _ _ _ s₀ h₆ _ Y m1 ps₅ (fun b o e => S₆.F.keep _ _ (B₁ _ _ e)) (by show A.depth + 1 + 3 * _ + 8 < _; omega) (by show A.units + 3 + 20 * _ + 60 < _; omega) hh (S₆.get (.inl (hf₅ _ _ hY)))
      (fun v hv => cut S₆ (fun a o q => .inl (hf₅ _ _ (hf₄ _ _ q))) v (of_filter hv)) (S₆.ownGet (.head _)) (htab₅.mono fun a o e => S₆.get (.inl e)) fun D₇ n₇ h₇ tk₇ ps₇ kp₇ z₇ e₇ t₇ tab₇ => ?_
    have S₇ := S₆.callT kp₇ t₇
    have f7 : ∀ a o, fz₅ a o → fzCall (fzAdd fz₅ e₆ (lstO [] 0)) h₆ h₇ a o := fun a o q => .inl (.inl q)
    refine addS S₇ (S₇.get (.inl (.inr ⟨rfl, rfl⟩))) e₇ ?_ fun D₈ h₈ hD₈ k₈ S₈' => ?_
    · have := hlr _ hl1; show 0 + _ ≤ _; omega
    have S₈ := S₈'.freeze
    refine eLocG S₈ rfl ?_
    refine addS S₈ (S₈.get (.inr ⟨rfl, rfl⟩)) (S₈.get (.inl (f7 _ _ hN'))) ?_ fun D₉ h₉ hD₉ k₉ S₉' => ?_
    · have := hlr _ hl1
      have := List.length_filter_le (fun v => !ltV key (.ref a0) v) ((Value.ref a0 :: y :: r).filter fun v => !ltV key v (.ref a0))
      rw [List.nil_append]
      show _ + (List.filter (fun v => !ltV key (.ref a0) v) ((Value.ref a0 :: y :: r).filter fun v => !ltV key v (.ref a0))).length ≤ _
      omega
    have S₉ := S₉'.freeze
    with_reducible refine callNm ?_
    refine eGlobG T B₁ S₉ T.hParted.1 ?_
    with_reducible refine callRf1 ?_
    refine eLocG S₉ rfl ⟨S₉.hasFn B₁ T.hParted, ?_⟩
    refine hrec _ hl2 hg mg mb T hgn _ _ _ s₀ h₉ _ Y' m3 ps₇ (fun b o e => S₉.F.keep _ _ (B₁ _ _ e)) (by show A.depth + 1 + 3 * _ + 8 < _; omega) (by show A.units + 3 + 20 * _ + 60 < _; omega) hh (S₉.get (.inl (.inl (f7 _ _ hY'))))
      (fun v hv => cut S₉ (fun a o q => .inl (.inl (f7 _ _ (hf₅ _ _ (hf₄ _ _ q))))) v (of_filter (of_filter hv))) (S₉.ownGet (.head _)) ?_ fun D₁ n₁ hA tkA psA kpA zA eA tA tabA => ?_
    · exact tab₇.mono fun a o e => k₉ _ _ (k₈ _ _ e)
    have SA := S₉.callT kpA tA
    refine addS SA (SA.get (.inl (.inr ⟨rfl, rfl⟩))) eA ?_ fun D₂ hB hD₂ kB SB => ?_
    · have := hlr _ hl1
      have := hlr _ hl2
      have := List.length_filter_le (fun v => !ltV key (.ref a0) v) ((Value.ref a0 :: y :: r).filter fun v => !ltV key v (.ref a0))
      rw [List.nil_append, List.length_append]
      show _ + (List.filter (fun v => !ltV key (.ref a0) v) ((Value.ref a0 :: y :: r).filter fun v => !ltV key v (.ref a0))).length + (rec (((Value.ref a0 :: y :: r).filter fun v => !ltV key v (.ref a0)).filter fun v => ltV key (.ref a0) v)).length ≤ _
      omega
    have z5 := S₅.size
    refine hQ D₂ 0 hB _ psA (fun b o hb e => SB.F.keep b o (hideAll_get _ e hb)) ?_ ?_ (SB.ownGet (.tail _ (.head _))) ?_
    · have := SA.size
      rw [hideAll_size] at this
      omega
    · have e := SB.ownGet (.head _)
      rw [List.nil_append] at e
      exact e
    · exact tabA.mono fun a o e => kB _ _ e

theorem filter_two {α : Type} (p : α → Bool) : ∀ l : List α, (l.filter p).length + (l.filter fun v => !p v).length = l.length
  | [] => rfl
  | a :: l => by
    have := filter_two p l
    cases h : p a <;> simp [List.filter_cons, h] <;> omega
theorem parted_len {α : Type} {lt : α → α → Bool} : ∀ (k : Nat) (xs : List α), (parted lt k xs).length ≤ xs.length
  | 0, xs => Nat.le_refl _
  | k + 1, [] => Nat.le_refl _
  | k + 1, [x] => Nat.le_refl _
  | k + 1, x :: y :: r => by
    show (parted lt k _ ++ _ ++ parted lt k _).length ≤ _
    rw [List.length_append, List.length_append]
    have h1 := parted_len (lt := lt) k ((x :: y :: r).filter fun v => lt v x)
    have h2 := parted_len (lt := lt) k (((x :: y :: r).filter fun v => !lt v x).filter fun v => lt x v)
    have h3 := filter_two (fun v => lt v x) (x :: y :: r)
    have h4 := filter_two (fun v => lt x v) ((x :: y :: r).filter fun v => !lt v x)
    omega
theorem parted_ok : ∀ (k : Nat) (vs : List Value), vs.length ≤ k → vs.length ≤ 1000 → PartedC w key vs (parted (ltV key) k vs)
  | 0, vs, hk, hl => by
    have := parted_body (w := w) (key := key) (rec := id) (vs := vs) hl (fun us hu => absurd hu (by omega)) (fun us hu => absurd hu (by omega))
    rw [pstep_short (by omega)] at this
    exact this
  | k + 1, vs, hk, hl => parted_body hl (fun us hu => parted_ok k us (by omega) (by omega)) (fun us hu => parted_len k us)
end
end Mj
end

section
open PySem PySem.W PyProof.Rows
namespace Mj
/-- the place at which x goes in, from n down -/
def posF {α : Type} (lt : α → α → Bool) (x : α) (done : List α) : Nat → Nat
  | 0 => 0
  | n + 1 => match done[n]? with
    | some d => if lt x d then posF lt x done n else n + 1
    | none => n + 1
theorem posF_le {α : Type} {lt : α → α → Bool} {x : α} {done : List α} : ∀ n, posF lt x done n ≤ n
  | 0 => Nat.le_refl _
  | n + 1 => by
    unfold posF
    split
    · split
      · have := posF_le (lt := lt) (x := x) (done := done) n; omega
      · omega
    · omega
def insF {α : Type} (lt : α → α → Bool) (done : List α) (x : α) : List α := done.take (posF lt x done done.length) ++ [x] ++ done.drop (posF lt x done done.length)
theorem insF_len {α : Type} {lt : α → α → Bool} {done : List α} {x : α} : (insF lt done x).length = done.length + 1 := by
  unfold insF
  have := posF_le (lt := lt) (x := x) (done := done) done.length
  simp only [List.length_append, List.length_take, List.length_cons, List.length_nil, List.length_drop]
  omega
/-- what _law_inserted reckons -/
def inserted {α : Type} (lt : α → α → Bool) (xs : List α) : List α := xs.foldl (insF lt) []
theorem foldl_ins_len {α : Type} {lt : α → α → Bool} : ∀ (xs done : List α), (xs.foldl (insF lt) done).length = done.length + xs.length
  | [], done => rfl
  | x :: xs, done => by rw [List.foldl_cons, foldl_ins_len xs, insF_len, List.length_cons]; omega
theorem insF_mem {α : Type} {lt : α → α → Bool} {done : List α} {x y : α} (h : y ∈ insF lt done x) : y = x ∨ y ∈ done := by
  unfold insF at h
  simp only [List.mem_append, List.mem_singleton] at h
  rcases h with (h | h) | h
  · exact .inr (List.mem_of_mem_take h)
  · exact .inl h
  · exact .inr (List.mem_of_mem_drop h)
theorem foldl_ins_mem {α : Type} {lt : α → α → Bool} : ∀ (xs done : List α) {y : α}, y ∈ xs.foldl (insF lt) done → y ∈ done ∨ y ∈ xs
  | [], done, y, h => .inl h
  | x :: xs, done, y, h => by
    rcases foldl_ins_mem xs _ (by rw [List.foldl_cons] at h; exact h) with h | h
    · rcases insF_mem h with rfl | h
      · exact .inr (.head _)
      · exact .inl h
    · exact .inr (.tail _ h)

/-- v is a tuple whose first item is a list of pairs that tells the key -/
def ItemT (fz : Addr → Obj → Prop) (v : Value) (k : Key) : Prop := ∃ a K r kvs n, v = .ref a ∧ fz a (tupO (.ref K :: r)) ∧ fz K (lstO kvs n) ∧ All2 (TupIs fz) kvs k ∧ Compat 6 k
theorem ItemT.mono {f g : Addr → Obj → Prop} {v : Value} {k : Key} (x : ItemT f v k) (hf : ∀ a o, f a o → g a o) : ItemT g v k :=
  let ⟨a, K, r, kvs, n, e, h1, h2, h3, h4⟩ := x; ⟨a, K, r, kvs, n, e, hf _ _ h1, hf _ _ h2, h3.mono (fun _ _ q => q.mono hf), h4⟩

section
variable {w : World} {key : Value → Key} {hg : Heap} {mg mb : Str → Option Value} {A : Around} {E : Value → Shared → Prop} {Q : Value → Shared → Prop} {s₀ : Shared} {X : List Addr} {h₀ h : Heap} {L : Addr} {m : Str → Option Value} {own : List (Addr × Obj)} {fz : Addr → Obj → Prop} {tk n : Nat} {D : Addr} {vs : List Value} {env : Env}

/-- l[:k] -/
theorem sliceTo {value : Expr} {up : Expr} {p pos : Pos} {l : Addr} {k : Nat} (hsz : vs.length ≤ 1000)
    (h1 : wpAny (model PG w) A (eval value env) (fun v s₁ => v = .ref l ∧ wpAny (model PG w) A (eval up env) (fun u s₂ => ∃ (t : Tok) (h₁ : Heap) (tk₁ : Nat) (X : List Addr) (h₀ : Heap) (L : Addr) (m : Str → Option Value) (own : List (Addr × Obj)) (fz : Addr → Obj → Prop), u = .int k t ∧ s₂ = St s₀ h₁ tk₁ ∧ Sit X h₀ L m own fz h₁ ∧ h₁.get? l = some (lstO vs n) ∧
      (∀ a h', h₁.objs.size ≤ a → Sit X h₀ L m ((a, lstO (vs.take k) 0) :: own) fz h' → Q (.ref a) (St s₀ h' tk₁))) E s₁) E (St s₀ h tk))
    (hs : ∀ l i, subscripted (.Slice none (some up) none p) false (.ref l) (.ref i) = operate [.ref i, .ref l] (getItem (.ref l) (.ref i)) := by intro _ _; with_unfolding_all rfl)
    (ht : ∀ l r, letTemporaryGo value (.ref l) r = pure () := by intro _ _; with_unfolding_all rfl) :
    wpAny (model PG w) A (eval (.Subscript value (.Slice none (some up) none p) pos) env) Q E (St s₀ h tk) := by
  refine Subscript_ (wpAny_mono h1 (fun v s₁ q => ?_) fun _ _ q => q)
  obtain ⟨rfl, q⟩ := q
  refine wpAny_Slice (wpAny_pure (wpAny_mono q (fun u s₂ r => wpAny_pure ?_) fun _ _ q => q))
  obtain ⟨t, h₁, tk₁, X, h₀, L, m, own, fz, rfl, rfl, S, e, r⟩ := r
  refine slice_listK (s := St s₀ h₁ tk₁) (isList_of e) .none (.int _ t) ?_ (hs _ _) (ht _) (by rw [List.size_toArray]; exact Nat.le_trans hsz (by decide))
  rw [slicePick_upto']
  have S₁ := (S.push { cls := .type "slice", data := .fields #[.none, .int k t, .none] }).drop
  have S₂ := S₁.push (lstO (vs.take k) 0)
  rw [Heap.size_push] at S₂
  exact r _ _ (Nat.le_succ _) S₂
/-- l[k:] -/
theorem sliceFrom {value : Expr} {lo : Expr} {p pos : Pos} {l : Addr} {k : Nat} (hsz : vs.length ≤ 1000)
    (h1 : wpAny (model PG w) A (eval value env) (fun v s₁ => v = .ref l ∧ wpAny (model PG w) A (eval lo env) (fun u s₂ => ∃ (t : Tok) (h₁ : Heap) (tk₁ : Nat) (X : List Addr) (h₀ : Heap) (L : Addr) (m : Str → Option Value) (own : List (Addr × Obj)) (fz : Addr → Obj → Prop), u = .int k t ∧ s₂ = St s₀ h₁ tk₁ ∧ Sit X h₀ L m own fz h₁ ∧ h₁.get? l = some (lstO vs n) ∧
      (∀ a h', h₁.objs.size ≤ a → Sit X h₀ L m ((a, lstO (vs.drop k) 0) :: own) fz h' → Q (.ref a) (St s₀ h' tk₁))) E s₁) E (St s₀ h tk))
    (hs : ∀ l i, subscripted (.Slice (some lo) none none p) false (.ref l) (.ref i) = operate [.ref i, .ref l] (getItem (.ref l) (.ref i)) := by intro _ _; with_unfolding_all rfl)
    (ht : ∀ l r, letTemporaryGo value (.ref l) r = pure () := by intro _ _; with_unfolding_all rfl) :
    wpAny (model PG w) A (eval (.Subscript value (.Slice (some lo) none none p) pos) env) Q E (St s₀ h tk) := by
  refine Subscript_ (wpAny_mono h1 (fun v s₁ q => ?_) fun _ _ q => q)
  obtain ⟨rfl, q⟩ := q
  refine wpAny_Slice (wpAny_mono q (fun u s₂ r => wpAny_pure (wpAny_pure ?_)) fun _ _ q => q)
  obtain ⟨t, h₁, tk₁, X, h₀, L, m, own, fz, rfl, rfl, S, e, r⟩ := r
  refine slice_listK (s := St s₀ h₁ tk₁) (isList_of e) (.int _ t) .none ?_ (hs _ _) (ht _) (by rw [List.size_toArray]; exact Nat.le_trans hsz (by decide))
  rw [slicePick_from']
  have S₁ := (S.push { cls := .type "slice", data := .fields #[.int k t, .none, .none] }).drop
  have S₂ := S₁.push (lstO (vs.drop k) 0)
  rw [Heap.size_push] at S₂
  exact r _ _ (Nat.le_succ _) S₂
end
end Mj
end

section
open PySem PySem.W PyProof.Rows
namespace Mj
def insFor : List Stmt := match (bodOf (stAt 11)).getD 1 (.Pass default) with
  | .For _ _ b _ _ => b
  | _ => []
section
variable {w : World} {key : Value → Key} {hg : Heap} {mg mb : Str → Option Value} {A : Around} {E : Value → Shared → Prop} {Q : Value → Shared → Prop} {s₀ : Shared} {h₀ h : Heap} {L : Addr} {m : Str → Option Value} {fz : Addr → Obj → Prop} {tk n nd : Nat} {D Dn I : Addr} {vs dl : List Value} {v : Value} {o : Obj} {cd : Value}

set_option maxHeartbeats 1000000 in
theorem ins_turn (T : Tp w hg mg mb) (B : Bs hg h₀) (hu : A.units + 30 < cLine) (hdl : dl.length ≤ 900) (hd : m "done" = some (.ref Dn)) (hDn : fz Dn (lstO dl nd)) (hv : ItemT fz v (key v)) (hall : ∀ d ∈ dl, ItemT fz d (key d))
    (S : Sit [] h₀ L (fun y => if y = ("item" : Str) then some v else m y) [(I, o)] fz h) :
    wpAny (model PG w) A (execs insFor (envOf "_law_inserted" (scpOf (stAt 11)) L 79 cd)) (fun f s₃ => (f = .next ∨ f = .cont) ∧ ∃ h' tk' m' fz' Dn', s₃ = St s₀ h' tk' ∧ Sit [] h₀ L m' [(I, o)] fz' h' ∧ (∀ a o, fz a o → fz' a o) ∧ m' "done" = some (.ref Dn') ∧ fz' Dn' (lstO (insF (ltV key) dl v) 0)) (fun _ _ => False) (St s₀ h tk) := by
  obtain ⟨va, vK, vr, vkvs, vn, rfl, v1, v2, v3, v4⟩ := hv
  -- at
  refine wpAny_execs_cons ?_
  with_reducible refine asgS (callNm ?_)
  refine eBiG (v := .builtin "len") T B S T.nLen (by decide) (by decide) ?_
  with_reducible refine callBi1 ?_
  refine eLocG S (show _ = _ from hd) ?_
  refine eLen (S.get hDn) (by omega) fun t₁ tk₁ => ?_
  refine stG S fun h₁ tk₁ S₁ => ?_
  -- while
  refine cutNext (fun s' => ∃ h' tk' m' t', s' = St s₀ h' tk' ∧ Sit [] h₀ L m' [(I, o)] fz h' ∧ m' "at" = some (.int (posF (ltV key) (.ref va) dl dl.length : Nat) t') ∧ m' "item" = some (.ref va) ∧ m' "done" = some (.ref Dn)) ?_ ?_
  · with_reducible refine wpAny_While ?_
    refine codeAny_whileLoop (fun k s => ∃ h' tk' m' t', s = St s₀ h' tk' ∧ Sit [] h₀ L m' [(I, o)] fz h' ∧ m' "at" = some (.int (k : Nat) t') ∧ m' "item" = some (.ref va) ∧ m' "done" = some (.ref Dn) ∧ k ≤ dl.length ∧ posF (ltV key) (.ref va) dl k = posF (ltV key) (.ref va) dl dl.length)
      (fun k s ⟨h₂, tk₂, m₂, t₂, e, S₂, m1, m2, m3, hk, hp⟩ => ?_) dl.length ⟨h₁, tk₁, _, t₁, rfl, S₁, rfl, rfl, hd, Nat.le_refl _, rfl⟩
    subst e
    with_reducible refine isTrue_and ?_
    with_reducible refine wpAny_isTrue_Compare1 ?_ (by with_unfolding_all rfl)
    refine eLocG S₂ m1 ?_
    with_reducible refine eInt fun _ _ => ?_
    refine cGt (wpAny_truthy_bool ?_)
    have stop : ∀ {tk'}, posF (ltV key) (.ref va) dl k = k → wpAny (model PG w) A (execs [] (envOf "_law_inserted" (scpOf (stAt 11)) L 79 cd)) (fun f s₃ => f = .next ∧ ∃ h' tk' m' t', s₃ = St s₀ h' tk' ∧ Sit [] h₀ L m' [(I, o)] fz h' ∧ m' "at" = some (.int (posF (ltV key) (.ref va) dl dl.length : Nat) t') ∧ m' "item" = some (.ref va) ∧ m' "done" = some (.ref Dn)) (fun _ _ => False) (St s₀ h₂ tk') :=
      fun e => wpAny_execs_nil ⟨rfl, h₂, _, m₂, t₂, rfl, S₂, by rw [← hp, e]; exact m1, m2, m3⟩
    cases k with
    | zero =>
      rw [if_neg (by decide), if_neg (by decide)]
      exact wpAny_mono (stop rfl) (fun _ _ q => q) fun _ _ q => q.elim
    | succ k =>
      rw [if_pos (decide_eq_true (by omega))]
      have hkl : k < dl.length := by omega
      obtain ⟨da, dK, dr, dkvs, dn, hda, d1, d2, d3, d4⟩ := hall dl[k] (List.getElem_mem hkl)
      have hget : dl[k]? = some (.ref da) := by rw [List.getElem?_eq_getElem hkl, hda]
      with_reducible refine isTrue_and ?_
      with_reducible refine wpAny_isTrue_Compare1 ?_ (by with_unfolding_all rfl)
      with_reducible refine Subscript_ ?_
      refine eLocG S₂ m2 ?_
      with_reducible refine eInt fun _ _ => ?_
      refine subTup (S₂.get v1) (k := 0) rfl (by decide) ?_
      with_reducible refine Subscript_ (Subscript_ ?_)
      refine eLocG S₂ m3 ?_
      with_reducible refine wpAny_BinOp ?_
      refine eLocG S₂ m1 ?_
      with_reducible refine eInt fun _ _ => ?_
      refine bSub fun t₃ tk₃ => ?_
      rw [show (((k + 1 : Nat) : Int) - 1) = ((k : Nat) : Int) by omega]
      refine subList (S₂.get hDn) (by omega) (by omega) (by simpa using hget) ?_
      with_reducible refine eInt fun _ _ => ?_
      refine subTup (S₂.get d1) (k := 0) rfl (by decide) ?_
      rw [hda] at d3 d4
      refine cmpLt_list (c := 4) (S₂.get v2) (S₂.get d2) (lexLt_tups (fun a o q => S₂.get q) v4 d4 v3 d3) (by omega) fun tk₄ => wpAny_truthy_bool ?_
      have hstep : posF (ltV key) (.ref va) dl (k + 1) = if ltV key (.ref va) (.ref da) then posF (ltV key) (.ref va) dl k else k + 1 := by
        rw [posF, hget]
      by_cases hl : ltK (key (.ref va)) (key (.ref da)) = true
      · rw [hl, if_pos rfl]
        refine isTrue_and_nil ?_
        rw [if_pos rfl]
        refine wpAny_execs_cons ?_
        with_reducible refine asgS (wpAny_BinOp ?_)
        refine eLocG S₂ m1 ?_
        with_reducible refine eInt fun _ _ => ?_
        refine bSub fun t₅ _ => ?_
        rw [show (((k + 1 : Nat) : Int) - 1) = ((k : Nat) : Int) by omega]
        refine stG S₂ fun h₆ tk₆ S₆ => wpAny_execs_nil ⟨k, by omega, h₆, tk₆, _, t₅, rfl, S₆, rfl, m2, m3, by omega, ?_⟩
        rw [← hp, hstep, show ltV key (.ref va) (.ref da) = true from hl, if_pos rfl]
      · have hl' := Bool.eq_false_iff.mpr hl
        rw [hl', if_neg Bool.false_ne_true, if_neg Bool.false_ne_true]
        refine wpAny_mono (stop ?_) (fun _ _ q => q) fun _ _ q => q.elim
        rw [hstep, show ltV key (.ref va) (.ref da) = false from hl', if_neg Bool.false_ne_true]
  rintro _ ⟨h₂, tk₂, m₂, t₂, rfl, S₂, m1, m2, m3⟩
  have hp := posF_le (lt := ltV key) (x := Value.ref va) (done := dl) dl.length
  -- done
  refine wpAny_execs_cons ?_
  with_reducible refine asgS (wpAny_BinOp (wpAny_BinOp ?_))
  refine sliceTo (vs := dl) (n := nd) (l := Dn) (k := posF (ltV key) (.ref va) dl dl.length) (by omega) ?_
  refine eLocG S₂ m3 ⟨rfl, ?_⟩
  refine eLocG S₂ m1 ⟨t₂, h₂, tk₂, _, _, _, _, _, _, rfl, rfl, S₂, S₂.get hDn, fun a₃ h₃ _ S₃' => ?_⟩
  have S₃ := S₃'.freeze
  with_reducible refine List_ ?_
  with_reducible refine splE ?_
  refine eLocG S₃ m2 ?_
  with_reducible refine splN ?_
  refine newListS S₃ fun a₄ h₄ _ _ S₄' => ?_
  have S₄ := S₄'.freeze
  refine addS S₄ (S₄.get (.inl (.inr ⟨rfl, rfl⟩))) (S₄.get (.inr ⟨rfl, rfl⟩)) (by simp [List.length_take]; omega) fun a₅ h₅ _ _ S₅' => ?_
  have S₅ := S₅'.freeze
  refine sliceFrom (vs := dl) (n := nd) (l := Dn) (k := posF (ltV key) (.ref va) dl dl.length) (by omega) ?_
  refine eLocG S₅ m3 ⟨rfl, ?_⟩
  refine eLocG S₅ m1 ⟨t₂, h₅, _, _, _, _, _, _, _, rfl, rfl, S₅, S₅.get (.inl (.inl (.inl hDn))), fun a₆ h₆ _ S₆' => ?_⟩
  have S₆ := S₆'.freeze
  refine addS S₆ (S₆.get (.inl (.inr ⟨rfl, rfl⟩))) (S₆.get (.inr ⟨rfl, rfl⟩)) (by simp [List.length_take]; omega) fun a₇ h₇ _ _ S₇' => ?_
  have S₇ := S₇'.freeze
  refine stG S₇ fun h₈ tk₈ S₈ => wpAny_execs_nil ⟨.inl rfl, h₈, tk₈, _, _, a₇, rfl, S₈, (fun a o q => .inl (.inl (.inl (.inl (.inl q))))), rfl, .inr ⟨rfl, rfl⟩⟩

set_option maxHeartbeats 1000000 in
theorem inserted_ok (T : Tp w hg mg mb) (B : Bs hg h) (hroom : A.depth + 4 < recursionLimit) (hun : A.units + 40 < cLine) (hh : A.handled = none) (hD : h.get? D = some (lstO vs n)) (hlen : vs.length ≤ 800) (hit : ∀ v ∈ vs, ItemT (fun a o => h.get? a = some o) v (key v))
    (hQ : ∀ D' n' h' tk', KeepBut [] h h' → h.objs.size ≤ D' ∨ True → h'.get? D' = some (lstO (inserted (ltV key) vs) n') → Q (.ref D') (St s₀ h' tk')) :
    wpAny (model PG w) A (PySem.call (.ref 79) [.ref D]) Q E (St s₀ h tk) := by
  refine callFn' (X := []) (binds := [("items", .ref D)]) T T.hIns B (fun _ q => nomatch q) (by omega) (fun _ _ => rfl) rfl rfl rfl rfl (by decide) (fun cd h₁ tk₁ B₁ S₁ => ?_)
  have kp : ∀ b o, h.get? b = some o → (hideAll h []).get? b = some o := fun b o e => hideAll_get _ e (fun q => nomatch q)
  refine wpAny_execs_cons ?_
  with_reducible refine asgS (List_ ?_)
  with_reducible refine splN ?_
  refine newListS S₁ fun D₂ h₂ _ _ S₂' => ?_
  have S₂ := S₂'.freeze.base
  refine stG S₂ fun h₃ tk₃ S₃ => ?_
  refine wpAny_execs_cons ?_
  refine wpAny_mono (Q := fun f s' => f = .next ∧ ∃ h' tk' m' fz' Dn n', s' = St s₀ h' tk' ∧ Sit [] (hideAll h []) h.objs.size m' [] fz' h' ∧ m' "done" = some (.ref Dn) ∧ fz' Dn (lstO (inserted (ltV key) vs) n')) ?_ ?_ (fun _ _ q => q)
  · refine forG (X := []) (h₀ := hideAll h []) (L := h.objs.size) (s₀ := s₀) hh ?_
    refine eLocG S₃ rfl ?_
    refine ⟨fun i m own fz => own = [] ∧ (∀ a o, h.get? a = some o → fz a o) ∧ ∃ Dn n', m "done" = some (.ref Dn) ∧ fz Dn (lstO ((vs.take i).foldl (insF (ltV key)) []) n'), D, vs, n, h₃, tk₃, _, _, _, rfl, rfl, S₃, ⟨rfl, (fun a o e => .inr (kp _ _ e)), D₂, 0, rfl, .inl (.inr ⟨rfl, rfl⟩)⟩, (fun i m own fz q => q.2.1 _ _ hD), ?_, ?_⟩
    · rintro i v I o m own fz h₄ tk₄ hvi ⟨rfl, hf, Dn, n', hd, hDn⟩ S
      have hv : v ∈ vs := List.mem_of_getElem? hvi
      have hl := foldl_ins_len (lt := ltV key) (vs.take i) []
      have hl2 : (vs.take i).length ≤ vs.length := by rw [List.length_take]; omega
      refine wpAny_mono (ins_turn (key := key) T B₁ (by show A.units + 3 + 30 < cLine; omega) (by simp only [List.length_nil] at hl; omega) hd hDn ((hit v hv).mono hf) (fun d hd' => ?_) S) (fun f s₃ q => ?_) fun _ _ q => q
      · rcases foldl_ins_mem _ _ hd' with q | q
        · cases q
        · exact (hit d (List.mem_of_mem_take q)).mono hf
      · obtain ⟨hf', h', tk', m', fz', Dn', rfl, S', hfz, hd', hDn'⟩ := q
        refine ⟨hf', h', tk', m', [], fz', rfl, S', rfl, (fun a o e => hfz _ _ (hf _ _ e)), Dn', 0, hd', ?_⟩
        rw [List.take_add_one, hvi, List.foldl_append]
        exact hDn'
    · rintro m own fz h₄ tk₄ ⟨rfl, hf, Dn, n', hd, hDn⟩ S
      rw [List.take_length] at hDn
      exact ⟨rfl, h₄, tk₄, m, fz, Dn, n', rfl, S, hd, hDn⟩
  · rintro _ _ ⟨rfl, h', tk', m', fz', Dn, n', rfl, S', hd, hDn⟩
    refine wpAny_execs_cons ?_
    refine wpAny_Return_some (eLocG S' hd ?_)
    exact hQ Dn n' h' tk' (S'.keepX rfl) (.inr trivial) (S'.get hDn)
end
end Mj
end

section
open PySem PySem.W PyProof.Rows PySem.NumText
namespace Mj
def plainC (c : Nat) : Bool := !dig c && !mrk c
def stOf (r : Int) : Int := [0, 10, 20, 30, 40, 50, 100, 200].getD r.toNat 0
def stK (k : List (Int × Sc)) : List (Int × Sc) := k.map fun p => (stOf p.1, p.2)
def Gd (l : List Nat) (k : List (Int × Sc)) : Prop := ∃ os, All2 PK (splitT l) os ∧ os.flatMap flat1 = flatOf (stK k)

theorem pk_nil : PK [] none := .skip (by decide +kernel)
theorem pk_nil_none {ov : Option (Int × Sc)} (h : PK [] ov) : ov = none := by
  have e : Txt.contains "._+-" (toS []) = true := by decide +kernel
  cases h with
  | skip _ => rfl
  | num n hc _ _ => rw [e] at hc; cases hc
  | word hc _ _ _ _ => rw [e] at hc; cases hc
theorem pk_mark {m : Nat} (h : mrk m = true) : PK [m] none := by
  unfold mrk at h
  simp only [Bool.or_eq_true, beq_iff_eq] at h
  refine .skip ?_
  rcases h with ((rfl | rfl) | rfl) | rfl <;> decide +kernel
theorem gd_nil : Gd [] [] := ⟨[none], by rw [splitT_none rfl]; exact .cons pk_nil .nil, rfl⟩

theorem mrk_dig {m : Nat} (h : mrk m = true) : dig m = false := by
  unfold mrk at h
  simp only [Bool.or_eq_true, beq_iff_eq] at h
  rcases h with ((rfl | rfl) | rfl) | rfl <;> decide
theorem splitT_mark {m : Nat} {r : List Nat} (h : mrk m = true) : splitT (m :: r) = [] :: [m] :: splitT r := by
  have hn : nextTok (m :: r) = some (0, 1) := by unfold nextTok; rw [mrk_dig h, if_neg Bool.false_ne_true, h, if_pos rfl]
  rw [splitT_some hn (by simp)]
  rfl
theorem gd_mark {m : Nat} {r : List Nat} {k : List (Int × Sc)} (h : mrk m = true) (g : Gd r k) : Gd (m :: r) k := by
  obtain ⟨os, a, e⟩ := g
  exact ⟨none :: none :: os, by rw [splitT_mark h]; exact .cons pk_nil (.cons (pk_mark h) a), e⟩

theorem takeWhile_app {d r : List Nat} (hd : ∀ c ∈ d, dig c = true) (hr : ∀ c ∈ r.head?, dig c = false) : (d ++ r).takeWhile dig = d := by
  induction d with
  | nil =>
    cases r with
    | nil => rfl
    | cons c r => rw [List.nil_append, List.takeWhile_cons, hr c rfl]; rfl
  | cons c d ih => rw [List.cons_append, List.takeWhile_cons, hd c (.head _), if_pos rfl, ih fun c hc => hd c (.tail _ hc)]
theorem splitT_dig {d r : List Nat} (h0 : d ≠ []) (hd : ∀ c ∈ d, dig c = true) (hr : ∀ c ∈ r.head?, dig c = false) : splitT (d ++ r) = [] :: d :: splitT r := by
  have hn : nextTok (d ++ r) = some (0, d.length) := by
    have ht := takeWhile_app hd hr
    cases d with
    | nil => exact absurd rfl h0
    | cons c d =>
      rw [List.cons_append] at ht ⊢
      unfold nextTok
      rw [hd c (.head _), if_pos rfl, ht]
  have hl : 0 < d.length := List.length_pos_iff.mpr h0
  rw [splitT_some hn (by simp; omega)]
  simp
theorem gd_num {d r : List Nat} {k : List (Int × Sc)} {n : Int} (h0 : d ≠ []) (hd : ∀ c ∈ d, dig c = true) (hr : ∀ c ∈ r.head?, dig c = false) (hp : PK d (some (100, .inl n))) (g : Gd r k) : Gd (d ++ r) ((6, .inl n) :: k) := by
  obtain ⟨os, a, e⟩ := g
  refine ⟨none :: some (100, .inl n) :: os, by rw [splitT_dig h0 hd hr]; exact .cons pk_nil (.cons hp a), ?_⟩
  show [Sum.inl 100, Sum.inl n] ++ os.flatMap flat1 = [Sum.inl 100, Sum.inl n] ++ flatOf (stK k)
  rw [e]

theorem nextTok_word {d r : List Nat} (hd : ∀ c ∈ d, plainC c = true) : nextTok (d ++ r) = (nextTok r).map fun x => (x.1 + d.length, x.2) := by
  induction d with
  | nil => rw [List.nil_append]; cases nextTok r <;> rfl
  | cons c d ih =>
    rw [List.cons_append]
    have h := hd c (.head _)
    unfold plainC at h
    simp only [Bool.and_eq_true, Bool.not_eq_true'] at h
    rw [nextTok, h.1, if_neg Bool.false_ne_true, h.2, if_neg Bool.false_ne_true, ih fun c hc => hd c (.tail _ hc)]
    cases nextTok r with
    | none => rfl
    | some x => simp only [Option.map_some, List.length_cons]; congr 2
theorem splitT_word {d r : List Nat} (hd : ∀ c ∈ d, plainC c = true) (hr : ∀ c ∈ r.head?, plainC c = false) : ∃ ps, splitT r = [] :: ps ∧ splitT (d ++ r) = d :: ps := by
  have hw := nextTok_word (r := r) hd
  cases r with
  | nil => exact ⟨[], splitT_none rfl, by rw [splitT_none (by rw [hw]; rfl), List.append_nil]⟩
  | cons c r =>
    have hc := hr c rfl
    obtain ⟨n, hn⟩ : ∃ n, nextTok (c :: r) = some (0, n) := by
      unfold nextTok
      cases h1 : dig c with
      | true => exact ⟨_, if_pos rfl⟩
      | false =>
        rw [if_neg Bool.false_ne_true]
        cases h2 : mrk c with
        | true => exact ⟨_, if_pos rfl⟩
        | false => unfold plainC at hc; rw [h1, h2] at hc; cases hc
    rw [hn] at hw
    have hb := nextTok_bound hn
    have h1 := splitT_some hn (by simp; omega)
    have h2 := splitT_some hw (by simp; omega)
    refine ⟨_, h1, h2.trans ?_⟩
    have e1 : (d ++ c :: r).take (0 + d.length) = d := by rw [Nat.zero_add, List.take_left']; rfl
    have e2 : (d ++ c :: r).drop (0 + d.length) = c :: r := by rw [Nat.zero_add, List.drop_left']; rfl
    have e3 : (d ++ c :: r).drop (0 + d.length + n) = (c :: r).drop (0 + n) := by rw [← List.drop_drop, e2, Nat.zero_add]
    show List.take (0 + d.length) (d ++ c :: r) :: List.take n (List.drop (0 + d.length) (d ++ c :: r)) :: splitT (List.drop (0 + d.length + n) (d ++ c :: r)) = _
    rw [e1, e2, e3]; rfl
theorem gd_word {d r : List Nat} {k : List (Int × Sc)} {R : Int} {x : Str} (hd : ∀ c ∈ d, plainC c = true) (hr : ∀ c ∈ r.head?, plainC c = false) (hp : PK d (some (stOf R, .inr x))) (g : Gd r k) : Gd (d ++ r) ((R, .inr x) :: k) := by
  obtain ⟨os, a, e⟩ := g
  obtain ⟨ps, e1, e2⟩ := splitT_word hd hr
  rw [e1] at a
  cases a with
  | @cons _ b _ bs p a =>
    obtain rfl := pk_nil_none p
    refine ⟨some (stOf R, .inr x) :: bs, by rw [e2]; exact .cons hp a, ?_⟩
    show [Sum.inl (stOf R), Sum.inr x] ++ bs.flatMap flat1 = [Sum.inl (stOf R), Sum.inr x] ++ flatOf (stK k)
    rw [← e]; rfl
end Mj
end

section
open PySem PySem.W PyProof.Rows PySem.NumText
namespace Mj
theorem toS_cps (x : Str) : toS x.cps.toList = x := by unfold toS; rw [Array.toArray_toList]
def okNum (d : List Nat) : Bool := !d.isEmpty && d.all dig && !Txt.contains "._+-" (toS d) && decide ((toS d).length ≤ 640)
theorem okNum_small : ∀ n : Fin 1000, okNum (Str.ofString (toString ((n.val : Nat) : Int))).cps.toList = true := by decide +kernel
theorem okNum_pk {d : List Nat} {n : Int} (h : okNum d = true) (hn : PySem.intText? (toS d) = some n) : d ≠ [] ∧ (∀ c ∈ d, dig c = true) ∧ PK d (some (100, .inl n)) := by
  unfold okNum at h
  simp only [Bool.and_eq_true, Bool.not_eq_true', decide_eq_true_eq] at h
  obtain ⟨⟨⟨h1, h2⟩, h3⟩, h4⟩ := h
  exact ⟨(by intro e; rw [e] at h1; cases h1), List.all_eq_true.mp h2, PK.num n h3 hn h4⟩
def okWord (d : List Nat) : Bool := !d.isEmpty && d.all plainC && !Txt.contains "._+-" (toS d) && decide ((toS d).length ≤ 640) && decide ((reprText (toS d)).length ≤ 10000)
theorem okWord_pk {x : Str} {R : Int} (h : okWord x.cps.toList = true) (h1 : (int_private% "readNumeral") 0 10 (numSeenOf (toS x.cps.toList)) = int_private% "Numeral.invalid")
    (h2 : (PySem.Spec.lookup (.str (toS x.cps.toList)) (stagesD.map fun p => (PyData.str p.1, p.2))).getD (.int 0) = .int (stageAt (toS x.cps.toList))) (h3 : stageAt (toS x.cps.toList) = stOf R) :
    x.cps.toList ≠ [] ∧ (∀ c ∈ x.cps.toList, plainC c = true) ∧ PK x.cps.toList (some (stOf R, .inr x)) := by
  unfold okWord at h
  simp only [Bool.and_eq_true, Bool.not_eq_true', decide_eq_true_eq] at h
  obtain ⟨⟨⟨⟨g1, g2⟩, g3⟩, g4⟩, g5⟩ := h
  refine ⟨(by intro e; rw [e] at g1; cases g1), List.all_eq_true.mp g2, ?_⟩
  have := PK.word (p := x.cps.toList) g3 h1 g4 g5 h2
  rw [h3, toS_cps] at this
  exact this

def NumF (x : Int) (k : Nat) : Prop := ranksL.getD k 0 = 6 ∧ ((namesL x).getD k "").cps.toList ≠ [] ∧ (∀ c ∈ ((namesL x).getD k "").cps.toList, dig c = true) ∧ PK ((namesL x).getD k "").cps.toList (some (100, .inl ((sizesL x).getD k 0)))
def WordF (x : Int) (k : Nat) : Prop := ((namesL x).getD k "").cps.toList ≠ [] ∧ (∀ c ∈ ((namesL x).getD k "").cps.toList, plainC c = true) ∧ PK ((namesL x).getD k "").cps.toList (some (stOf (ranksL.getD k 0), .inr ((namesL x).getD k "")))
theorem numF (x : Int) : ∀ k, k < 5 → NumF x k
  | 0, _ => ⟨by decide +kernel, okNum_pk (d := ("0" : Str).cps.toList) (n := 0) (by decide +kernel) (by decide +kernel)⟩
  | 1, _ => ⟨by decide +kernel, okNum_pk (d := ("7" : Str).cps.toList) (n := 7) (by decide +kernel) (by decide +kernel)⟩
  | 2, _ => ⟨by decide +kernel, okNum_pk (d := ("10" : Str).cps.toList) (n := 10) (by decide +kernel) (by decide +kernel)⟩
  | 3, _ => ⟨by decide +kernel, okNum_pk (d := ("007" : Str).cps.toList) (n := 7) (by decide +kernel) (by decide +kernel)⟩
  | 4, _ => by
    have h0 : 0 ≤ x.fmod 1000 := Int.fmod_nonneg_of_pos _ (by decide)
    have h1 : x.fmod 1000 < 1000 := Int.fmod_lt_of_pos _ (by decide)
    refine ⟨by decide +kernel, okNum_pk (n := x.fmod 1000) ?_ ?_⟩
    · have := okNum_small ⟨(x.fmod 1000).toNat, by omega⟩
      rw [Int.toNat_of_nonneg h0] at this
      exact this
    · rw [toS_cps]
      exact KIN.num_reads h0 (by omega)
  | n + 5, h => absurd h (by omega)
theorem wordF (x : Int) : ∀ k, 5 ≤ k → k < 16 → WordF x k
  | 5, _, _ => okWord_pk (x := "dev") (R := 1) (by decide +kernel) (by kernel_rfl) (by rfl) (by decide +kernel)
  | 6, _, _ => okWord_pk (x := "alpha") (R := 2) (by decide +kernel) (by kernel_rfl) (by rfl) (by decide +kernel)
  | 7, _, _ => okWord_pk (x := "a") (R := 2) (by decide +kernel) (by kernel_rfl) (by rfl) (by decide +kernel)
  | 8, _, _ => okWord_pk (x := "beta") (R := 3) (by decide +kernel) (by kernel_rfl) (by rfl) (by decide +kernel)
  | 9, _, _ => okWord_pk (x := "b") (R := 3) (by decide +kernel) (by kernel_rfl) (by rfl) (by decide +kernel)
  | 10, _, _ => okWord_pk (x := "c") (R := 4) (by decide +kernel) (by kernel_rfl) (by rfl) (by decide +kernel)
  | 11, _, _ => okWord_pk (x := "RC") (R := 5) (by decide +kernel) (by kernel_rfl) (by rfl) (by decide +kernel)
  | 12, _, _ => okWord_pk (x := "rc") (R := 5) (by decide +kernel) (by kernel_rfl) (by rfl) (by decide +kernel)
  | 13, _, _ => okWord_pk (x := "pl") (R := 7) (by decide +kernel) (by kernel_rfl) (by rfl) (by decide +kernel)
  | 14, _, _ => okWord_pk (x := "p") (R := 7) (by decide +kernel) (by kernel_rfl) (by rfl) (by decide +kernel)
  | 15, _, _ => okWord_pk (x := "x") (R := 0) (by decide +kernel) (by kernel_rfl) (by rfl) (by decide +kernel)
  | 0, h, _ | 1, h, _ | 2, h, _ | 3, h, _ | 4, h, _ => absurd h (by omega)
  | n + 16, _, h => absurd h (by omega)

def pieceOf (x : Int) (c : Int) : Int × Sc := (ranksL.getD (c.fmod 16).toNat 0, if c.fmod 16 < 5 then .inl ((sizesL x).getD (c.fmod 16).toNat 0) else .inr ((namesL x).getD (c.fmod 16).toNat ""))
def verG (x : Int) : Option Bool → List Int → List Nat
  | _, [] => []
  | last, c :: cs => (markOf c last).cps.toList ++ (((namesL x).getD (c.fmod 16).toNat "").cps.toList ++ verG x (some (decide (c.fmod 16 < 5))) cs)
theorem fold_ver (x : Int) : ∀ (cs : List Int) (st : EntS), (cs.foldl (entStep x) st).ver.cps.toList = st.ver.cps.toList ++ verG x st.last cs
  | [], st => by simp [verG]
  | c :: cs, st => by
    rw [List.foldl_cons, fold_ver x cs]
    show ((st.ver ++ markOf c st.last ++ (namesL x).getD (c.fmod 16).toNat "").cps).toList ++ _ = _
    show ((st.ver.cps ++ (markOf c st.last).cps ++ ((namesL x).getD (c.fmod 16).toNat "").cps)).toList ++ verG x (some (decide (c.fmod 16 < 5))) cs = _
    rw [Array.toList_append, Array.toList_append, verG]
    simp only [List.append_assoc]
theorem fold_key (x : Int) : ∀ (cs : List Int) (st : EntS), (cs.foldl (entStep x) st).key = st.key ++ cs.map (pieceOf x)
  | [], st => by simp
  | c :: cs, st => by
    rw [List.foldl_cons, fold_key x cs]
    show st.key ++ [pieceOf x c] ++ _ = _
    rw [List.append_assoc]; rfl

theorem code_mod {c : Int} (h : 0 ≤ c ∧ c < 80) : ∃ k : Nat, k < 16 ∧ c.fmod 16 = k := by
  rw [Int.fmod_eq_emod_of_nonneg _ (by decide)]
  exact ⟨(c % 16).toNat, by omega, by omega⟩
theorem code_div {c : Int} (h : 0 ≤ c ∧ c < 80) : ∃ k : Nat, k < 5 ∧ c.fdiv 16 = k := by
  rw [Int.fdiv_eq_ediv_of_nonneg _ (by decide)]
  exact ⟨(c / 16).toNat, by omega, by omega⟩
theorem mark_cases {c : Int} (h : 0 ≤ c ∧ c < 80) (last : Option Bool) : (markOf c last).cps.toList = [] ∧ last ≠ some (decide (c.fmod 16 < 5)) ∨ ∃ m, mrk m = true ∧ (markOf c last).cps.toList = [m] := by
  obtain ⟨k, hk, e⟩ := code_div h
  unfold markOf
  split
  · exact .inr ⟨46, by decide, by decide +kernel⟩
  · next hn =>
    rw [e] at hn ⊢
    match k, hk with
    | 0, _ => exact .inr ⟨46, by decide, by decide +kernel⟩
    | 1, _ => exact .inr ⟨45, by decide, by decide +kernel⟩
    | 2, _ => exact .inr ⟨95, by decide, by decide +kernel⟩
    | 3, _ => exact .inr ⟨43, by decide, by decide +kernel⟩
    | 4, _ =>
      refine .inl ⟨by decide +kernel, fun q => hn ?_⟩
      rw [q]
      simp only [beq_self_eq_true, Bool.and_true]
      decide +kernel
theorem dig_plain {c : Nat} (h : dig c = true) : plainC c = false := by unfold plainC; rw [h]; rfl
theorem plain_dig {c : Nat} (h : plainC c = true) : dig c = false := by
  cases e : dig c with
  | false => rfl
  | true => rw [dig_plain e] at h; cases h
theorem mrk_plain {c : Nat} (h : mrk c = true) : plainC c = false := by unfold plainC; rw [h]; simp
theorem head_mem {l r : List Nat} {c : Nat} (h0 : l ≠ []) (h : c ∈ (l ++ r).head?) : c ∈ l := by
  cases l with
  | nil => exact absurd rfl h0
  | cons a l => simp at h; subst h; exact .head _
theorem ver_good (x : Int) : ∀ (cs : List Int) (last : Option Bool), (∀ c ∈ cs, 0 ≤ c ∧ c < 80) → Gd (verG x last cs) (cs.map (pieceOf x)) ∧
    (last = some true → ∀ c ∈ (verG x last cs).head?, dig c = false) ∧ (last = some false → ∀ c ∈ (verG x last cs).head?, plainC c = false)
  | [], last, _ => ⟨gd_nil, (fun _ c h => by cases h), (fun _ c h => by cases h)⟩
  | c :: cs, last, hb => by
    have hc := hb c (.head _)
    obtain ⟨k, hk, e⟩ := code_mod hc
    obtain ⟨g, g1, g2⟩ := ver_good x cs (some (decide (c.fmod 16 < 5))) fun c hc => hb c (.tail _ hc)
    have hm := mark_cases hc last
    have core : Gd (((namesL x).getD k "").cps.toList ++ verG x (some (decide (c.fmod 16 < 5))) cs) ((c :: cs).map (pieceOf x)) := by
      by_cases h5 : k < 5
      · obtain ⟨f0, f1, f2, f3⟩ := numF x k h5
        have := gd_num f1 f2 (g1 (by rw [e]; simp; omega)) f3 g
        rw [List.map_cons]
        have hp : pieceOf x c = (6, .inl ((sizesL x).getD k 0)) := by
          unfold pieceOf
          rw [e, if_pos (by omega), Int.toNat_natCast, f0]
        rw [hp]; exact this
      · obtain ⟨f1, f2, f3⟩ := wordF x k (by omega) hk
        have := gd_word f2 (g2 (by rw [e]; simp; omega)) f3 g
        rw [List.map_cons]
        have hp : pieceOf x c = (ranksL.getD k 0, .inr ((namesL x).getD k "")) := by
          unfold pieceOf
          rw [e, if_neg (by omega), Int.toNat_natCast]
        rw [hp]; exact this
    have hk' : (c.fmod 16).toNat = k := by rw [e, Int.toNat_natCast]
    unfold verG
    rw [hk']
    rcases hm with ⟨e1, hl⟩ | ⟨m, hm, e1⟩
    · rw [e1, List.nil_append]
      refine ⟨core, fun hq d hd => ?_, fun hq d hd => ?_⟩
      · have h5 : ¬ k < 5 := fun h5 => hl (by rw [hq, e]; simp; omega)
        obtain ⟨f1, f2, _⟩ := wordF x k (by omega) hk
        exact plain_dig (f2 d (head_mem f1 hd))
      · have h5 : k < 5 := by
          apply Classical.byContradiction
          exact fun h5 => hl (by rw [hq, e]; simp; omega)
        obtain ⟨_, f1, f2, _⟩ := numF x k h5
        exact dig_plain (f2 d (head_mem f1 hd))
    · rw [e1]
      refine ⟨gd_mark hm core, fun _ d hd => ?_, fun _ d hd => ?_⟩
      · simp at hd; subst hd; exact mrk_dig hm
      · simp at hd; subst hd; exact mrk_plain hm

theorem codesOf_bound (x : Int) : ∀ c ∈ codesOf x, 0 ≤ c ∧ c < 80 := codesGo_bound _
theorem entry_key (x : Int) : (entryOf x).key = (codesOf x).map (pieceOf x) := by unfold entryOf; rw [fold_key]; rfl
theorem entry_good (x : Int) : ∃ os, All2 PK (splitT (entryOf x).ver.cps.toList) os ∧ os.flatMap flat1 = flatOf (stK (entryOf x).key) := by
  have := (ver_good x (codesOf x) none (codesOf_bound x)).1
  rw [entry_key]
  unfold entryOf
  rw [fold_ver]
  exact this
def RankOk (k : List (Int × Sc)) : Prop := ∀ p ∈ k, 0 ≤ p.1 ∧ p.1 ≤ 7
theorem piece_ok {x c : Int} (h : 0 ≤ c ∧ c < 80) : (0 ≤ (pieceOf x c).1 ∧ (pieceOf x c).1 ≤ 7) ∧ isI (pieceOf x c).2 = decide ((pieceOf x c).1 = 6) := by
  obtain ⟨k, hk, e⟩ := code_mod h
  unfold pieceOf
  rw [e, Int.toNat_natCast]
  dsimp only
  have hr : (0 ≤ ranksL.getD k 0 ∧ ranksL.getD k 0 ≤ 7) ∧ decide (k < 5) = decide (ranksL.getD k 0 = 6) := by
    have : ∀ k : Fin 16, (0 ≤ ranksL.getD k.val 0 ∧ ranksL.getD k.val 0 ≤ 7) ∧ decide (k.val < 5) = decide (ranksL.getD k.val 0 = 6) := by decide +kernel
    exact this ⟨k, hk⟩
  refine ⟨hr.1, ?_⟩
  rw [← hr.2]
  by_cases h5 : k < 5
  · rw [if_pos (by omega), decide_eq_true h5]; rfl
  · rw [if_neg (by omega), decide_eq_false h5]; rfl
theorem key_rank (x : Int) : RankOk (entryOf x).key := by
  rw [entry_key]
  intro p hp
  obtain ⟨c, hc, rfl⟩ := List.mem_map.mp hp
  exact (piece_ok (codesOf_bound x c hc)).1
theorem key_compat (x : Int) : Compat 6 (entryOf x).key := by
  rw [entry_key]
  intro p hp
  obtain ⟨c, hc, rfl⟩ := List.mem_map.mp hp
  exact (piece_ok (codesOf_bound x c hc)).2
theorem st_facts : ∀ a b : Fin 8, (decide (stOf (a.val : Nat) = stOf (b.val : Nat)) = decide (a = b)) ∧ (decide (stOf (a.val : Nat) < stOf (b.val : Nat)) = decide (a < b)) ∧ decide (stOf (a.val : Nat) = 100) = decide (a.val = 6) := by decide +kernel
theorem st_lt {a b : Int} (ha : 0 ≤ a ∧ a ≤ 7) (hb : 0 ≤ b ∧ b ≤ 7) : (stOf a = stOf b ↔ a = b) ∧ (stOf a < stOf b ↔ a < b) ∧ (stOf a = 100 ↔ a = 6) := by
  obtain ⟨n, rfl⟩ := Int.eq_ofNat_of_zero_le ha.1
  obtain ⟨m, rfl⟩ := Int.eq_ofNat_of_zero_le hb.1
  have := st_facts ⟨n, by omega⟩ ⟨m, by omega⟩
  simp only [decide_eq_decide, Fin.mk.injEq, Fin.mk_lt_mk] at this
  refine ⟨?_, ?_, ?_⟩
  · rw [this.1]; omega
  · rw [this.2.1]; omega
  · rw [this.2.2]; omega
theorem ltK_st : ∀ {k l : List (Int × Sc)}, RankOk k → RankOk l → ltK (stK k) (stK l) = ltK k l
  | [], [], _, _ => rfl
  | [], _ :: _, _, _ => rfl
  | _ :: _, [], _, _ => rfl
  | a :: k, b :: l, hk, hl => by
    have hs := st_lt (hk a (.head _)) (hl b (.head _))
    have ih := ltK_st (k := k) (l := l) (fun p hp => hk p (.tail _ hp)) (fun p hp => hl p (.tail _ hp))
    show (if stOf a.1 = stOf b.1 then (if a.2 = b.2 then ltK (stK k) (stK l) else ltSc a.2 b.2) else decide (stOf a.1 < stOf b.1)) = (if a.1 = b.1 then (if a.2 = b.2 then ltK k l else ltSc a.2 b.2) else decide (a.1 < b.1))
    rw [ih]
    by_cases h1 : a.1 = b.1
    · rw [if_pos h1, if_pos (hs.1.mpr h1)]
    · rw [if_neg h1, if_neg (fun q => h1 (hs.1.mp q))]
      exact decide_eq_decide.mpr hs.2.1
theorem compat_st {k : List (Int × Sc)} (hc : Compat 6 k) (hr : RankOk k) : Compat 100 (stK k) := by
  intro p hp
  obtain ⟨q, hq, rfl⟩ := List.mem_map.mp hp
  show isI q.2 = decide (stOf q.1 = 100)
  rw [hc q hq]
  exact decide_eq_decide.mpr (st_lt (hr q hq) (hr q hq)).2.2.symm
end Mj
end

section
open PySem PySem.W PyProof.Rows
namespace Mj
/-- a strict weak order on the things of P -/
structure Weak {α : Type} (P : α → Prop) (lt : α → α → Bool) : Prop where
  asym : ∀ a b, P a → P b → lt a b = true → lt b a = false
  neg : ∀ a b c, P a → P b → P c → lt a b = false → lt b c = false → lt a c = false
def eqv {α : Type} (lt : α → α → Bool) (z v : α) : Bool := !lt z v && !lt v z
def SortedL {α : Type} (lt : α → α → Bool) (r : List α) : Prop := r.Pairwise fun a b => lt b a = false
/-- r is xs, sorted and stable -/
def StableOf {α : Type} (P : α → Prop) (lt : α → α → Bool) (xs r : List α) : Prop := SortedL lt r ∧ ∀ z, P z → r.filter (eqv lt z) = xs.filter (eqv lt z)
section
variable {α : Type} {P : α → Prop} {lt : α → α → Bool} (W : Weak P lt)
include W
theorem Weak.irr {a : α} (h : P a) : lt a a = false := by
  cases e : lt a a with
  | false => rfl
  | true => have := W.asym a a h h e; rw [e] at this; cases this
theorem Weak.tr {a b c : α} (ha : P a) (hb : P b) (hc : P c) (h1 : lt a b = true) (h2 : lt b c = true) : lt a c = true := by
  cases e : lt a c with
  | true => rfl
  | false => have := W.neg a c b ha hc hb e (W.asym b c hb hc h2); rw [h1] at this; cases this
theorem Weak.eqv_self {a : α} (h : P a) : eqv lt a a = true := by unfold eqv; rw [W.irr h]; rfl
omit W in
theorem eqv_iff {z v : α} : eqv lt z v = true ↔ lt z v = false ∧ lt v z = false := by unfold eqv; simp
theorem StableOf.mem {xs r : List α} (h : StableOf P lt xs r) {a : α} (hP : P a) : a ∈ r ↔ a ∈ xs := by
  have e := h.2 a hP
  constructor
  · intro ha
    have : a ∈ r.filter (eqv lt a) := List.mem_filter.mpr ⟨ha, W.eqv_self hP⟩
    rw [e] at this
    exact (List.mem_filter.mp this).1
  · intro ha
    have : a ∈ xs.filter (eqv lt a) := List.mem_filter.mpr ⟨ha, W.eqv_self hP⟩
    rw [← e] at this
    exact (List.mem_filter.mp this).1
theorem stable_unique : ∀ {r s : List α}, (∀ a ∈ r, P a) → (∀ a ∈ s, P a) → SortedL lt r → SortedL lt s → (∀ z, P z → r.filter (eqv lt z) = s.filter (eqv lt z)) → r = s
  | [], [], _, _, _, _, _ => rfl
  | [], b :: s, _, hs, _, _, e => by
    have := e b (hs b (.head _))
    rw [List.filter_cons, W.eqv_self (hs b (.head _)), if_pos rfl] at this
    cases this
  | a :: r, [], hr, _, _, _, e => by
    have := e a (hr a (.head _))
    rw [List.filter_cons, W.eqv_self (hr a (.head _)), if_pos rfl] at this
    cases this
  | a :: r, b :: s, hr, hs, sr, ss, e => by
    have pa := hr a (.head _)
    have pb := hs b (.head _)
    have h1 : lt a b = false := by
      have ha : a ∈ b :: s := (StableOf.mem W (xs := a :: r) (r := b :: s) ⟨ss, fun z hz => (e z hz).symm⟩ pa).mpr (.head _)
      rcases List.mem_cons.mp ha with rfl | ha
      · exact W.irr pa
      · exact (List.pairwise_cons.mp ss).1 a ha
    have h2 : lt b a = false := by
      have hb : b ∈ a :: r := (StableOf.mem W (xs := b :: s) (r := a :: r) ⟨sr, e⟩ pb).mpr (.head _)
      rcases List.mem_cons.mp hb with rfl | hb
      · exact W.irr pb
      · exact (List.pairwise_cons.mp sr).1 b hb
    have hab : a = b := by
      have := e a pa
      rw [List.filter_cons, List.filter_cons, W.eqv_self pa, eqv_iff.mpr ⟨h1, h2⟩, if_pos rfl, if_pos rfl] at this
      injection this
    subst hab
    refine congrArg _ (stable_unique (fun x hx => hr x (.tail _ hx)) (fun x hx => hs x (.tail _ hx)) (List.pairwise_cons.mp sr).2 (List.pairwise_cons.mp ss).2 fun z hz => ?_)
    have := e z hz
    rw [List.filter_cons, List.filter_cons] at this
    split at this
    · injection this
    · exact this
omit W in
theorem filt_const {xs : List α} {p e : α → Bool} {b : Bool} (h : ∀ v ∈ xs, e v = true → p v = b) : (xs.filter p).filter e = if b then xs.filter e else [] := by
  rw [List.filter_filter]
  cases b with
  | true =>
    rw [if_pos rfl]
    refine List.filter_congr fun v hv => ?_
    cases he : e v with
    | true => rw [h v hv he]; rfl
    | false => rfl
  | false =>
    rw [if_neg Bool.false_ne_true]
    refine List.filter_eq_nil_iff.mpr fun v hv q => ?_
    rw [Bool.and_eq_true] at q
    rw [h v hv q.1] at q
    exact Bool.false_ne_true q.2
theorem parted_stable : ∀ (k : Nat) (xs : List α), xs.length ≤ k → (∀ a ∈ xs, P a) → StableOf P lt xs (parted lt k xs)
  | 0, xs, h, _ => by
    have : xs = [] := List.length_eq_zero_iff.mp (by omega)
    subst this
    exact ⟨.nil, fun _ _ => rfl⟩
  | k + 1, [], _, _ => ⟨.nil, fun _ _ => rfl⟩
  | k + 1, [x], _, _ => ⟨List.pairwise_singleton _ _, fun _ _ => rfl⟩
  | k + 1, x :: y :: r, h, hP => by
    have px := hP x (.head _)
    show StableOf P lt _ (parted lt k _ ++ _ ++ parted lt k _)
    generalize hxs : x :: y :: r = xs at h hP
    have hx : x ∈ xs := by rw [← hxs]; exact .head _
    have l1 : (xs.filter fun v => lt v x).length ≤ k := by
      have := filter_lt (p := fun v => lt v x) hx (W.irr px); omega
    have l2 : ((xs.filter fun v => !lt v x).filter fun v => lt x v).length ≤ k := by
      have h1 := filter_lt (p := fun v => lt x v) (l := xs.filter fun v => !lt v x) (x := x) (List.mem_filter.mpr ⟨hx, by rw [W.irr px]; rfl⟩) (W.irr px)
      have h2 := List.length_filter_le (fun v => !lt v x) xs
      omega
    have p1 : ∀ a ∈ (xs.filter fun v => lt v x), P a := fun a ha => hP a (of_filter ha)
    have p2 : ∀ a ∈ ((xs.filter fun v => !lt v x).filter fun v => lt x v), P a := fun a ha => hP a (of_filter (of_filter ha))
    obtain ⟨s1, f1⟩ := parted_stable k _ l1 p1
    obtain ⟨s2, f2⟩ := parted_stable k _ l2 p2
    have q1 : ∀ a ∈ parted lt k (xs.filter fun v => lt v x), P a ∧ lt a x = true := fun a ha => by
      have := (parted_mem k _ ha)
      exact ⟨p1 a this, (List.mem_filter.mp this).2⟩
    have q2 : ∀ a ∈ parted lt k ((xs.filter fun v => !lt v x).filter fun v => lt x v), P a ∧ lt x a = true := fun a ha => by
      have := (parted_mem k _ ha)
      exact ⟨p2 a this, (List.mem_filter.mp this).2⟩
    have q3 : ∀ a ∈ (xs.filter fun v => !lt v x).filter (fun v => !lt x v), P a ∧ lt a x = false ∧ lt x a = false := fun a ha => by
      have h1 := List.mem_filter.mp ha
      have h2 := List.mem_filter.mp h1.1
      exact ⟨hP a h2.1, by simpa using h2.2, by simpa using h1.2⟩
    refine ⟨?_, fun z hz => ?_⟩
    · refine List.pairwise_append.mpr ⟨List.pairwise_append.mpr ⟨s1, ?_, ?_⟩, s2, ?_⟩
      · refine List.pairwise_of_forall_mem_list fun a ha b hb => ?_
        exact W.neg b x a (q3 b hb).1 px (q3 a ha).1 (q3 b hb).2.1 (q3 a ha).2.2
      · intro a ha b hb
        cases e : lt b a with
        | false => rfl
        | true => have := W.tr (q3 b hb).1 (q1 a ha).1 px e (q1 a ha).2; rw [(q3 b hb).2.1] at this; cases this
      · intro a ha b hb
        rcases List.mem_append.mp ha with ha | ha
        · exact W.asym a b (q1 a ha).1 (q2 b hb).1 (W.tr (q1 a ha).1 px (q2 b hb).1 (q1 a ha).2 (q2 b hb).2)
        · cases e : lt b a with
          | false => rfl
          | true => have := W.tr px (q2 b hb).1 (q3 a ha).1 (q2 b hb).2 e; rw [(q3 a ha).2.2] at this; cases this
    · rw [List.filter_append, List.filter_append, f1 z hz, f2 z hz]
      have c1 : ∀ v ∈ xs, eqv lt z v = true → lt v x = lt z x := fun v hv hq => by
        have hq := eqv_iff.mp hq
        cases e1 : lt v x with
        | false => exact (W.neg z v x hz (hP v hv) px hq.1 e1).symm
        | true =>
          cases e2 : lt z x with
          | true => rfl
          | false => have := W.neg v z x (hP v hv) hz px hq.2 e2; rw [e1] at this; cases this
      have c2 : ∀ v ∈ xs, eqv lt z v = true → lt x v = lt x z := fun v hv hq => by
        have hq := eqv_iff.mp hq
        cases e1 : lt x v with
        | false => exact (W.neg x v z px (hP v hv) hz e1 hq.2).symm
        | true =>
          cases e2 : lt x z with
          | true => rfl
          | false => have := W.neg x z v px hz (hP v hv) e2 hq.1; rw [e1] at this; cases this
      rw [filt_const c1, filt_const (p := fun v => !lt x v) (b := !lt x z) (fun v hv hq => by rw [c2 v (of_filter hv) hq]), filt_const (p := fun v => lt x v) (b := lt x z) (fun v hv hq => c2 v (of_filter hv) hq),
        filt_const (p := fun v => !lt v x) (b := !lt z x) (fun v hv hq => by rw [c1 v hv hq])]
      have := W.asym z x hz px
      cases e1 : lt z x with
      | true => rw [this e1]; simp
      | false => cases lt x z <;> simp
where
  parted_mem : ∀ (k : Nat) (xs : List α) {a : α}, a ∈ parted lt k xs → a ∈ xs
  | 0, xs, a, h => h
  | k + 1, [], a, h => h
  | k + 1, [x], a, h => h
  | k + 1, x :: y :: r, a, h => by
    have h : a ∈ parted lt k _ ++ _ ++ parted lt k _ := h
    rcases List.mem_append.mp h with h | h
    · rcases List.mem_append.mp h with h | h
      · exact of_filter (parted_mem k _ h)
      · exact of_filter (of_filter h)
    · exact of_filter (of_filter (parted_mem k _ h))
omit W in
theorem posF_spec {x : α} {done : List α} : ∀ n, n ≤ done.length → (∀ i d, posF lt x done n ≤ i → i < n → done[i]? = some d → lt x d = true) ∧ (posF lt x done n = 0 ∨ ∃ d, done[posF lt x done n - 1]? = some d ∧ lt x d = false)
  | 0, _ => ⟨fun i d _ h => absurd h (by omega), .inl rfl⟩
  | n + 1, h => by
    obtain ⟨d, hd⟩ : ∃ d, done[n]? = some d := ⟨_, List.getElem?_eq_getElem (by omega)⟩
    unfold posF
    rw [hd]
    dsimp only
    cases e : lt x d with
    | true =>
      rw [if_pos rfl]
      obtain ⟨h1, h2⟩ := posF_spec (x := x) (done := done) n (by omega)
      refine ⟨fun i d' hi hn hd' => ?_, h2⟩
      by_cases hin : i = n
      · subst hin; rw [hd] at hd'; cases hd'; exact e
      · exact h1 i d' hi (by omega) hd'
    | false =>
      rw [if_neg Bool.false_ne_true]
      exact ⟨fun i _ h1 h2 => absurd h1 (by omega), .inr ⟨d, hd, e⟩⟩
theorem ins_stable {done xs : List α} {x : α} (px : P x) (hd : ∀ a ∈ done, P a) (S : StableOf P lt xs done) : StableOf P lt (xs ++ [x]) (insF lt done x) := by
  obtain ⟨s, f⟩ := S
  obtain ⟨h1, h2⟩ := posF_spec (lt := lt) (x := x) (done := done) done.length (Nat.le_refl _)
  unfold insF
  generalize hp : posF lt x done done.length = p at h1 h2
  have hle : p ≤ done.length := by rw [← hp]; exact posF_le _
  have htd : done.take p ++ done.drop p = done := List.take_append_drop _ _
  have s' := s
  rw [← htd] at s'
  obtain ⟨st, sd, sc⟩ := List.pairwise_append.mp s'
  have hdrop : ∀ b ∈ done.drop p, lt x b = true := fun b hb => by
    obtain ⟨i, e⟩ := List.mem_iff_getElem?.mp hb
    have hi := (List.getElem?_eq_some_iff.mp e).1
    rw [List.getElem?_drop] at e
    rw [List.length_drop] at hi
    exact h1 (p + i) b (by omega) (by omega) e
  have htake : ∀ a ∈ done.take p, lt x a = false := fun a ha => by
    rcases h2 with h0 | ⟨d, hd', e⟩
    · rw [h0] at ha; simp at ha
    · obtain ⟨i, ei⟩ := List.mem_iff_getElem?.mp ha
      have hi := (List.getElem?_eq_some_iff.mp ei).1
      rw [List.length_take] at hi
      rw [List.getElem?_take_of_lt (by omega)] at ei
      have pa := hd a (List.mem_of_mem_take ha)
      by_cases hii : i = p - 1
      · subst hii; rw [hd'] at ei; cases ei; exact e
      · obtain ⟨l1, g1⟩ := List.getElem?_eq_some_iff.mp ei
        obtain ⟨l2, g2⟩ := List.getElem?_eq_some_iff.mp hd'
        have := List.pairwise_iff_getElem.mp s i (p - 1) l1 l2 (by omega)
        rw [g1, g2] at this
        exact W.neg x d a px (hd d (List.mem_of_getElem? hd')) pa e this
  refine ⟨?_, fun z hz => ?_⟩
  · refine List.pairwise_append.mpr ⟨List.pairwise_append.mpr ⟨st, List.pairwise_singleton _ _, ?_⟩, sd, ?_⟩
    · intro a ha b hb
      obtain rfl := List.mem_singleton.mp hb
      exact htake a ha
    · intro a ha b hb
      rcases List.mem_append.mp ha with ha | ha
      · exact sc a ha b hb
      · obtain rfl := List.mem_singleton.mp ha
        exact W.asym a b px (hd b (List.mem_of_mem_drop hb)) (hdrop b hb)
  · rw [List.filter_append, List.filter_append, List.filter_append, ← f z hz]
    conv => rhs; rw [← htd]
    rw [List.filter_append, List.append_assoc, List.append_assoc]
    congr 1
    cases e : eqv lt z x with
    | false => rw [List.filter_cons, e]; simp
    | true =>
      have : (done.drop p).filter (eqv lt z) = [] := List.filter_eq_nil_iff.mpr fun b hb q => by
        have q1 := eqv_iff.mp q
        have q2 := eqv_iff.mp e
        have := W.neg x z b px hz (hd b (List.mem_of_mem_drop hb)) q2.2 q1.1
        rw [hdrop b hb] at this; cases this
      rw [this]; simp
theorem fold_stable : ∀ (ys done xs : List α), (∀ a ∈ ys, P a) → (∀ a ∈ done, P a) → StableOf P lt xs done → StableOf P lt (xs ++ ys) (ys.foldl (insF lt) done)
  | [], done, xs, _, _, S => by rw [List.append_nil]; exact S
  | y :: ys, done, xs, hy, hd, S => by
    have := fold_stable ys (insF lt done y) (xs ++ [y]) (fun a ha => hy a (.tail _ ha)) (fun a ha => by
      rcases insF_mem ha with rfl | ha
      · exact hy _ (.head _)
      · exact hd a ha) (ins_stable W (hy y (.head _)) hd S)
    rw [List.append_assoc] at this
    exact this
/-- both orders are one -/
theorem parted_eq_inserted {xs : List α} {k : Nat} (hk : xs.length ≤ k) (hP : ∀ a ∈ xs, P a) : parted lt k xs = inserted lt xs := by
  have S1 := parted_stable W k xs hk hP
  have S2 : StableOf P lt xs (inserted lt xs) := fold_stable W xs [] [] hP (fun _ h => nomatch h) ⟨.nil, fun _ _ => rfl⟩
  refine stable_unique W (fun a ha => hP a (parted_stable.parted_mem k xs ha)) (fun a ha => ?_) S1.1 S2.1 fun z hz => (S1.2 z hz).trans (S2.2 z hz).symm
  rcases foldl_ins_mem xs [] ha with h | h
  · cases h
  · exact hP a h
end
end Mj
end

section
open PySem PySem.W PyProof.Rows
namespace Mj
theorem str_ext {x y : Str} (h : x.cps.toList = y.cps.toList) : x = y := by
  rw [← toS_cps x, ← toS_cps y, h]
theorem ltSc_asym {a b : Sc} (h : ltSc a b = true) : ltSc b a = false := by
  cases a with
  | inl n =>
    cases b with
    | inl m => unfold ltSc at h ⊢; have := of_decide_eq_true h; exact decide_eq_false (by omega)
    | inr y => cases h
  | inr x =>
    cases b with
    | inl m => cases h
    | inr y => unfold ltSc at h ⊢; have := of_decide_eq_true h; exact decide_eq_false (List.lt_asymm this)
theorem ltSc_tot {a b : Sc} (hk : isI a = isI b) (h1 : ltSc a b = false) (h2 : ltSc b a = false) : a = b := by
  cases a with
  | inl n =>
    cases b with
    | inl m => unfold ltSc at h1 h2; have h1 := of_decide_eq_false h1; have h2 := of_decide_eq_false h2; congr 1; omega
    | inr y => cases hk
  | inr x =>
    cases b with
    | inl m => cases hk
    | inr y =>
      unfold ltSc at h1 h2
      have h1 := of_decide_eq_false h1
      have h2 := of_decide_eq_false h2
      exact congrArg Sum.inr (str_ext (List.le_antisymm (List.not_lt.mp h2) (List.not_lt.mp h1)))
theorem ltSc_neg {a b c : Sc} (h1 : ltSc a b = false) (h2 : ltSc b c = false) (hab : isI a = isI b) (hbc : isI b = isI c) : ltSc a c = false := by
  cases a with
  | inl n =>
    cases b with
    | inl m =>
      cases c with
      | inl k => unfold ltSc at h1 h2 ⊢; have h1 := of_decide_eq_false h1; have h2 := of_decide_eq_false h2; exact decide_eq_false (by omega)
      | inr z => cases hbc
    | inr y => cases hab
  | inr x =>
    cases b with
    | inl m => cases hab
    | inr y =>
      cases c with
      | inl k => cases hbc
      | inr z =>
        unfold ltSc at h1 h2 ⊢
        have h1 := of_decide_eq_false h1
        have h2 := of_decide_eq_false h2
        exact decide_eq_false (List.not_lt.mpr (List.le_trans (List.not_lt.mp h2) (List.not_lt.mp h1)))
theorem ltK_asym : ∀ {k l : List (Int × Sc)}, ltK k l = true → ltK l k = false
  | [], [], _ => rfl
  | [], _ :: _, _ => rfl
  | _ :: _, [], h => by cases h
  | a :: k, b :: l, h => by
    unfold ltK at h ⊢
    by_cases h1 : a.1 = b.1
    · rw [if_pos h1] at h
      rw [if_pos h1.symm]
      by_cases h2 : a.2 = b.2
      · rw [if_pos h2] at h
        rw [if_pos h2.symm]
        exact ltK_asym h
      · rw [if_neg h2] at h
        rw [if_neg fun q => h2 q.symm]
        exact ltSc_asym h
    · rw [if_neg h1] at h
      rw [if_neg fun q => h1 q.symm]
      have := of_decide_eq_true h
      exact decide_eq_false (by omega)
theorem Compat.tl {R : Int} {a : Int × Sc} {k : List (Int × Sc)} (h : Compat R (a :: k)) : Compat R k := fun q hq => h q (.tail _ hq)
theorem ltK_neg {R : Int} : ∀ {k l m : List (Int × Sc)}, Compat R k → Compat R l → Compat R m → ltK k l = false → ltK l m = false → ltK k m = false
  | [], [], m, _, _, _, _, h => h
  | [], _ :: _, m, _, _, _, h, _ => by cases h
  | _ :: _, l, [], _, _, _, _, _ => rfl
  | _ :: _, [], _ :: _, _, _, _, _, h => by cases h
  | a :: k, b :: l, c :: m, ck, cl, cm, h, g => by
    have ka := ck a (.head _)
    have kb := cl b (.head _)
    have kc := cm c (.head _)
    unfold ltK at h g ⊢
    by_cases h1 : a.1 = b.1
    · rw [if_pos h1] at h
      by_cases g1 : b.1 = c.1
      · rw [if_pos g1] at g
        rw [if_pos (h1.trans g1)]
        have hab : isI a.2 = isI b.2 := by rw [ka, kb, h1]
        have hbc : isI b.2 = isI c.2 := by rw [kb, kc, g1]
        by_cases h2 : a.2 = b.2
        · rw [if_pos h2] at h
          by_cases g2 : b.2 = c.2
          · rw [if_pos g2] at g
            rw [if_pos (h2.trans g2)]
            exact ltK_neg ck.tl cl.tl cm.tl h g
          · rw [if_neg g2] at g
            rw [h2, if_neg g2]; exact g
        · rw [if_neg h2] at h
          by_cases g2 : b.2 = c.2
          · rw [← g2, if_neg h2]; exact h
          · rw [if_neg g2] at g
            by_cases z2 : a.2 = c.2
            · rw [← z2] at g
              exact absurd (ltSc_tot hab h g) h2
            · rw [if_neg z2]
              exact ltSc_neg h g hab hbc
      · rw [if_neg g1] at g
        rw [if_neg (fun q => g1 (h1.symm.trans q)), h1]; exact g
    · rw [if_neg h1] at h
      have h' := of_decide_eq_false h
      by_cases g1 : b.1 = c.1
      · rw [if_neg (fun q => h1 (q.trans g1.symm)), ← g1]; exact h
      · rw [if_neg g1] at g
        have g' := of_decide_eq_false g
        rw [if_neg (by omega)]
        exact decide_eq_false (by omega)
theorem weak_keys {α : Type} {R : Int} (f : α → List (Int × Sc)) : Weak (fun a => Compat R (f a)) (fun a b => ltK (f a) (f b)) where
  asym := fun _ _ _ _ h => ltK_asym h
  neg := fun _ _ _ ha hb hc h g => ltK_neg ha hb hc h g

section
variable {α β : Type} {f : α → β} {lt : α → α → Bool} {lt' : β → β → Bool} {P : α → Prop} (H : ∀ a b, P a → P b → lt' (f a) (f b) = lt a b)
include H
theorem map_filter {p : α → Bool} {q : β → Bool} : ∀ {xs : List α}, (∀ a ∈ xs, q (f a) = p a) → (xs.map f).filter q = (xs.filter p).map f
  | [], _ => rfl
  | a :: xs, h => by
    rw [List.map_cons, List.filter_cons, List.filter_cons, h a (.head _)]
    have ih := map_filter (p := p) (q := q) (xs := xs) fun b hb => h b (.tail _ hb)
    cases p a with
    | true => rw [if_pos rfl, if_pos rfl, List.map_cons, ih]
    | false => rw [if_neg Bool.false_ne_true, if_neg Bool.false_ne_true, ih]
theorem parted_map : ∀ (k : Nat) (xs : List α), (∀ a ∈ xs, P a) → parted lt' k (xs.map f) = (parted lt k xs).map f
  | 0, xs, _ => rfl
  | k + 1, [], _ => rfl
  | k + 1, [x], _ => rfl
  | k + 1, x :: y :: r, hP => by
    have px := hP x (.head _)
    show parted lt' k (((x :: y :: r).map f).filter fun v => lt' v (f x)) ++ (((x :: y :: r).map f).filter fun v => !lt' v (f x)).filter (fun v => !lt' (f x) v) ++ parted lt' k ((((x :: y :: r).map f).filter fun v => !lt' v (f x)).filter fun v => lt' (f x) v)
      = (parted lt k ((x :: y :: r).filter fun v => lt v x) ++ ((x :: y :: r).filter fun v => !lt v x).filter (fun v => !lt x v) ++ parted lt k (((x :: y :: r).filter fun v => !lt v x).filter fun v => lt x v)).map f
    generalize x :: y :: r = xs at hP
    rw [map_filter H (p := fun v => lt v x) (fun a ha => H a x (hP a ha) px), map_filter H (p := fun v => !lt v x) (fun a ha => by rw [H a x (hP a ha) px]),
      map_filter H (p := fun v => !lt x v) (fun a ha => by rw [H x a px (hP a (of_filter ha))]), map_filter H (p := fun v => lt x v) (fun a ha => H x a px (hP a (of_filter ha))),
      parted_map k _ (fun a ha => hP a (of_filter ha)), parted_map k _ (fun a ha => hP a (of_filter (of_filter ha))), List.map_append, List.map_append]
theorem posF_map {x : α} {done : List α} (px : P x) (hP : ∀ a ∈ done, P a) : ∀ n, posF lt' (f x) (done.map f) n = posF lt x done n
  | 0 => rfl
  | n + 1 => by
    unfold posF
    rw [List.getElem?_map]
    cases e : done[n]? with
    | none => rfl
    | some d =>
      show (if lt' (f x) (f d) = true then posF lt' (f x) (done.map f) n else n + 1) = (if lt x d = true then posF lt x done n else n + 1)
      rw [H x d px (hP d (List.mem_of_getElem? e)), posF_map px hP n]
theorem inserted_map : ∀ (xs done : List α), (∀ a ∈ xs, P a) → (∀ a ∈ done, P a) → (xs.map f).foldl (insF lt') (done.map f) = (xs.foldl (insF lt) done).map f
  | [], done, _, _ => rfl
  | x :: xs, done, hP, hd => by
    rw [List.map_cons, List.foldl_cons, List.foldl_cons, ← inserted_map xs (insF lt done x) (fun a ha => hP a (.tail _ ha)) (fun a ha => by
      rcases insF_mem ha with rfl | ha
      · exact hP _ (.head _)
      · exact hd a ha)]
    congr 1
    unfold insF
    rw [List.length_map, posF_map H (hP x (.head _)) hd, List.map_append, List.map_append, List.map_take, List.map_drop]
    rfl
end
/-- the plain law: both walks give one order of the places -/
theorem plain_law {keyOf : Nat → List (Int × Sc)} {u v : Nat → Value} {k1 k2 : Value → List (Int × Sc)} {n k : Nat} (hk : n ≤ k) (h1 : ∀ i, i < n → k1 (u i) = stK (keyOf i)) (h2 : ∀ i, i < n → k2 (v i) = keyOf i) (hc : ∀ i, i < n → Compat 6 (keyOf i)) (hr : ∀ i, i < n → RankOk (keyOf i)) :
    ∃ is : List Nat, (∀ i ∈ is, i < n) ∧ is.length ≤ n ∧ parted (ltV k1) k ((List.range n).map u) = is.map u ∧ inserted (ltV k2) ((List.range n).map v) = is.map v := by
  have hm : ∀ a ∈ List.range n, a < n := fun a ha => List.mem_range.mp ha
  refine ⟨inserted (fun i j => ltK (keyOf i) (keyOf j)) (List.range n), fun i hi => ?_, ?_, ?_, ?_⟩
  · rcases foldl_ins_mem _ _ hi with h | h
    · cases h
    · exact hm i h
  · have := foldl_ins_len (lt := fun i j => ltK (keyOf i) (keyOf j)) (List.range n) []
    unfold inserted
    rw [this]; simp
  · rw [parted_map (P := fun i => i < n) (lt := fun i j => ltK (keyOf i) (keyOf j)) (f := u) (fun a b ha hb => by unfold ltV; rw [h1 a ha, h1 b hb, ltK_st (hr a ha) (hr b hb)]) k _ hm,
      parted_eq_inserted (weak_keys (R := 6) keyOf) (by rw [List.length_range]; exact hk) (fun a ha => hc a (hm a ha))]
  · exact inserted_map (P := fun i => i < n) (lt := fun i j => ltK (keyOf i) (keyOf j)) (f := v) (fun a b ha hb => by unfold ltV; rw [h2 a ha, h2 b hb]) _ [] hm (fun _ h => nomatch h)
end Mj
end

section
open PySem PySem.W PyProof.Rows
namespace Mj
section
variable {α : Type} {w : World} {A : Around} {s : Shared} {env : Env}

theorem standIfC {c : Prop} [Decidable c] {pos : Pos} {k : PUnit → Sem α} {Q : α → Shared → Prop} {E : Value → Shared → Prop} (h : wpC (model PG w) A (k ()) Q E s) :
    wpC (model PG w) A (if c then (standAt pos >>= k) else k ()) Q E s := by
  split
  · exact .first (wpAny_standAt h)
  · exact h

/-- a comprehension whose turns are known under the caller alone -/
theorem comprehC {e : Expr} {scope : Scope} {pos : Pos} {newAcc first : Sem Value} {g : Comprehension} {gs : List Comprehension} {cl : List (Str × Addr)} {Q : Value → Shared → Prop}
    (hcl : clausesOf e = g :: gs) (hs : ∀ x, foldedSetIterable g.iter env x = pure x) (hclos : closureFor scope env = pure cl)
    (hkind : scope.kind = .function) (hnames : ∀ x ∈ scope.names, x.2 = .local → scope.names.lookup x.1 = some .local)
    (h : wpAny (model PG w) A first (fun x s₁ => wpAny (model PG w) A (pyIter x) (fun it s₂ => wpAny (model PG w) A newAcc (fun acc s₃ =>
      wpAny (model PG w) A (newFunctionEnv scope env.globals cl [] env.qual none .none (some env)) (fun cenv s₄ =>
        codeC (model PG w) A (.compStart e 0 it acc { cenv with scope := relabel scope env }) (fun r s' => ∃ f, r = .ok f ∧ ∃ m, s'.heap.Ns cenv.locals m ∧ ∀ h', Heap.SameBut cenv.locals s'.heap h' → Q acc { s' with heap := h' }) s₄) NoE s₃) NoE s₂) NoE s₁) NoE s) :
    wpC (model PG w) A (PySem.comprehension e scope env pos newAcc false first) Q NoE s := by
  unfold PySem.comprehension
  rw [hclos, hcl]
  refine .first (wpAny_mono h (fun x s₁ h₁ => .first (wpAny_standAt (.first (wpAny_of_eq (hs x) (.first (wpAny_holding (wpAny_mono h₁ (fun it s₂ h₂ =>
    standIfC (.first (wpAny_mono h₂ (fun acc s₃ h₃ => .first (wpAny_pure (.first (wpAny_mono h₃ (fun cenv s₄ h₄ => ?_) fun _ _ h' => h')))) fun _ _ h' => h')))
      fun _ _ h' => h'))))))) fun _ _ h' => h')
  dsimp only
  have hv : ∀ x ∈ (scope.names.filter fun x => (x.2 == .local || x.2 == .cell) && x.1 != (".0" : Str)).reverse, x.2 = .local →
      Env.kindOf { cenv with scope := relabel scope env } x.1 = some .local := fun x hx hl => lookup_relabel_local (hnames x (List.mem_filter.mp (List.mem_reverse.mp hx)).1 hl)
  refine .holding (.bind (.attempt (.holding (.run (h₄.mono fun r s' hr => ?_) (by intro x; cases x)))))
  obtain ⟨f, rfl, m, hn, hr⟩ := hr
  exact .first (wpAny_holding (wpAny_comp_letGo (cenv := { cenv with scope := relabel scope env }) hkind _ s' m hv hn fun h' m' _ hs' => .pure (hr h' hs')))

theorem compStartC {R : Result → Shared → Prop} {elt target iter : Expr} {ifs : List Expr} {rest : List Comprehension} {scope : Scope} {pos : Pos} {it acc : Value}
    (h0 : codeC (model PG w) A (.compLoop (.ListComp elt (⟨target, iter, ifs, 0⟩ :: rest) scope pos) 0 it acc env) R s)
    (h : wpAny (model PG w) A (pyIter it) (fun it' s' => codeC (model PG w) A (.compLoop (.ListComp elt (⟨target, iter, ifs, 0⟩ :: rest) scope pos) 0 it' acc env) R s') NoE s) :
    codeC (model PG w) A (.compStart (.ListComp elt (⟨target, iter, ifs, 0⟩ :: rest) scope pos) 0 it acc env) R s := by
  refine codeC.tree ?_
  show wpC _ _ ((PySem.compStart (.ListComp elt (⟨target, iter, ifs, 0⟩ :: rest) scope pos) 0 it acc env).onRaise (fun x => do noteFrame x env; standAt theWindowsPlace)) _ _ s
  refine wpC.onRaise ((?_ : wpC _ _ _ _ NoE s).mono (fun _ _ q => q) fun _ _ q => q.elim)
  unfold PySem.compStart
  show wpC _ _ (ask >>= _) _ _ s
  refine .first (wpAny_askSetting ?_)
  split
  · exact .first (wpAny_pure (.pure (And.intro rfl h0)))
  · refine .first (wpAny_rule ?_)
    show wpC _ _ (standAt iter.pos >>= _) _ _ s
    exact .first (wpAny_standAt (.first (wpAny_mono h (fun it' s' h' => .pure (And.intro rfl h')) fun _ _ x => x)))

theorem compLoopC {R : Result → Shared → Prop} {elt target iter : Expr} {scope : Scope} {pos : Pos} {it acc : Value} (I : Nat → Shared → Prop)
    (turn : ∀ n s, I n s → wpAny (model PG w) A (pyNext it) (fun r s₁ => match r with
      | none => R (.ok .next) s₁
      | some v => wpAny (model PG w) A (assign target env v) (fun _ s₂ => wpC (model PG w) A (eval elt env) (fun x s₃ =>
          wpAny (model PG w) A (PySem.call (.builtin "list.append") [acc, x]) (fun _ s₄ => ∃ m, m < n ∧ I m s₄) NoE s₃) NoE s₂) NoE s₁) NoE s)
    (n : Nat) (h : I n s) (ht : ∀ v, letOwnedTupleGo target it v = pure () := by intro _; rfl) :
    codeC (model PG w) A (.compLoop (.ListComp elt [⟨target, iter, [], 0⟩] scope pos) 0 it acc env) R s := by
  refine codeC.loop rfl I (fun n s hI => ?_) n h
  show wpC _ _ ((compTurn (.ListComp elt [⟨target, iter, [], 0⟩] scope pos) 0 it acc env).onRaise (fun x => do noteFrame x env; theTreesLotGoes x)) _ _ s
  refine wpC.onRaise ((?_ : wpC _ _ _ _ NoE s).mono (fun _ _ q => q) fun _ _ q => q.elim)
  rw [compTurn_list1]
  refine .first (wpAny_standAt (.first (wpAny_mono (turn n s hI) (fun r s₁ h₁ => ?_) fun _ _ h' => h')))
  cases r with
  | none => exact .pure h₁
  | some v =>
    refine .first (wpAny_of_eq (ht v) ?_)
    refine .first (wpAny_mono h₁ (fun _ s₂ h₂ => .bind (.bind (h₂.mono (fun x s₃ h₃ => .first (wpAny_mono h₃ (fun _ s₄ h₄ => ?_) fun _ _ h' => h')) fun _ _ h' => h'))) fun _ _ h' => h')
    exact .pure (.pure (.inl ⟨rfl, h₄⟩))
end
end Mj
end

section
open PySem PySem.W PyProof.Rows
namespace Mj
section
variable {X : List Addr} {h₀ h h' : Heap} {L C : Addr} {m m' : Str → Option Value} {own : List (Addr × Obj)} {fz g : Addr → Obj → Prop} {oC oL : Obj}
/-- the walk goes on in the frame C -/
theorem Sit.into (S : Sit X h₀ L m ((C, oC) :: own) fz h) (hn : h.Ns C m') (ha : h₀.objs.size ≤ C) (hL : h.get? L = some oL) : Sit X h₀ C m' ((L, oL) :: own) fz h where
  F := ⟨hn, S.F.keep, ha⟩
  hid := S.hid
  os := fun p hp => by
    have z := S.os _ (.head _)
    rcases List.mem_cons.mp hp with rfl | hp
    · refine ⟨hL, z.2.1.symm, Heap.get?_none_of_le S.F.above, fun q => absurd (S.hid _ q).2 (Nat.not_lt.mpr S.F.above)⟩
    · have y := S.os p (List.mem_cons_of_mem _ hp)
      exact ⟨y.1, fun e => (List.nodup_cons.mp S.nd).1 (List.mem_map.mpr ⟨p, hp, e⟩), y.2.2⟩
  nd := by
    refine List.nodup_cons.mpr ⟨fun q => ?_, (List.nodup_cons.mp S.nd).2⟩
    obtain ⟨p, hp, e⟩ := List.mem_map.mp q
    exact (S.os p (List.mem_cons_of_mem _ hp)).2.1 e
  kz := fun b o q => by
    have y := S.kz b o q
    refine ⟨y.1, (y.2.2.2 _ (.head _)).symm, y.2.2.1, fun p hp => ?_⟩
    rcases List.mem_cons.mp hp with rfl | hp
    · exact y.2.1.symm
    · exact y.2.2.2 p (List.mem_cons_of_mem _ hp)
/-- and back in the frame L; C is not asked any more -/
theorem Sit.back (S : Sit X h₀ C m' ((L, oL) :: own) fz h) (hs : Heap.ExtBut C h h') (hn : ∀ h' : Heap, h'.get? L = some oL → h'.Ns L m) (ha : h₀.objs.size ≤ L) : Sit X h₀ L m own fz h' where
  F := ⟨hn _ (hs _ _ (S.os _ (.head _)).2.1 (S.os _ (.head _)).1), fun b o e => hs b o (Nat.ne_of_lt (Nat.lt_of_lt_of_le (Heap.lt_size e) S.F.above)) (S.F.keep b o e), ha⟩
  hid := S.hid
  os := fun p hp => by
    have y := S.os p (List.mem_cons_of_mem _ hp)
    exact ⟨hs _ _ y.2.1 y.1, fun e => (List.nodup_cons.mp S.nd).1 (List.mem_map.mpr ⟨p, hp, e⟩), y.2.2⟩
  nd := (List.nodup_cons.mp S.nd).2
  kz := fun b o q => by
    have y := S.kz b o q
    exact ⟨hs _ _ y.2.1 y.1, (y.2.2.2 _ (.head _)).symm, y.2.2.1, fun p hp => y.2.2.2 p (List.mem_cons_of_mem _ hp)⟩
/-- further facts that stay: of things that are no own objects and no frame -/
theorem Sit.more (S : Sit [] h₀ L m own fz h) (hg : ∀ a o, g a o → h.get? a = some o ∧ (∀ p ∈ own, p.2 ≠ o) ∧ (∀ es ep, o.data ≠ .dict es ep)) : Sit [] h₀ L m own (fun a o => fz a o ∨ g a o) h where
  F := S.F
  hid := S.hid
  os := S.os
  nd := S.nd
  kz := fun b o q => by
    rcases q with q | q
    · exact S.kz b o q
    · obtain ⟨e, q1, q2⟩ := hg b o q
      refine ⟨e, fun hb => ?_, (fun q => nomatch q), fun p hp hb => ?_⟩
      · obtain ⟨o', es, ep, e', hd, _⟩ := S.F.ns
        rw [← hb, e] at e'
        cases e'
        exact q2 _ _ hd
      · have y := (S.os p hp).1
        rw [hb, e] at y
        cases y
        exact q1 p hp rfl
theorem ns_of_data {h : Heap} {L : Addr} {m : Str → Option Value} (hn : h.Ns L m) : ∃ o, h.get? L = some o ∧ (∃ es ep, o.data = .dict es ep) ∧ ∀ sl (h' : Heap), h'.get? L = some { o with slots := sl } → h'.Ns L m := by
  obtain ⟨o, es, ep, e, hd, r⟩ := hn
  exact ⟨o, e, ⟨es, ep, hd⟩, fun sl h' e' => ⟨_, es, ep, e', hd, r⟩⟩
end

/-- at I stands an iterator over n values -/
structure Itr (w : World) (A : Around) (I : Addr) (n : Nat) (P : Nat → Value → Prop) (ok : Nat → Obj → Prop) (fs : List (Addr × Obj)) : Prop where
  item : ∀ i o h tk s₀ (Q : Option Value → Shared → Prop) (E : Value → Shared → Prop), i < n → h.get? I = some o → ok i o → (∀ p ∈ fs, h.get? p.1 = some p.2) →
    (∀ v h' tk' o', P i v → ok (i + 1) o' → h'.get? I = some o' → Heap.ExtBut I h h' → Q (some v) (St s₀ h' tk')) → wpAny (model PG w) A (pyNext (.ref I)) Q E (St s₀ h tk)
  done : ∀ o h tk s₀ (Q : Option Value → Shared → Prop) (E : Value → Shared → Prop), h.get? I = some o → ok n o → (∀ p ∈ fs, h.get? p.1 = some p.2) →
    (∀ h' tk', Heap.ExtBut I h h' → Q none (St s₀ h' tk')) → wpAny (model PG w) A (pyNext (.ref I)) Q E (St s₀ h tk)
  self : ∀ i o h tk s₀ (Q : Value → Shared → Prop) (E : Value → Shared → Prop), h.get? I = some o → ok i o → Q (.ref I) (St s₀ h tk) → wpAny (model PG w) A (pyIter (.ref I)) Q E (St s₀ h tk)
  plain : ∀ i o, ok i o → ∀ xs k, o.data ≠ .seq xs k
theorem Itr.list {w : World} {A : Around} (hh : A.handled = none) (I l : Addr) (vs : List Value) (n : Nat) :
    Itr w A I vs.length (fun i v => vs[i]? = some v) (fun i o => o.cls = .type "list_iterator" ∧ o.data = .fields #[.ref l, .int i 0]) [(l, lstO vs n)] where
  item := fun i o h tk s₀ Q E hi e ho hf hQ =>
    wpAny_pyNext_list_item (l := l) (i := i) ⟨o, e, ho⟩ (isList_of (hf _ (.head _))) (x := vs[i]) (by simp [hi]) fun h' ⟨o', e', r'⟩ hs => hQ _ h' tk o' (by simp [hi]) r' e' hs.extBut
  done := fun o h tk s₀ Q E e ho hf hQ => wpAny_pyNext_list_end hh (l := l) (i := vs.length) ⟨o, e, ho⟩ (isList_of (hf _ (.head _))) (by simp) fun h' hs => hQ h' tk hs
  self := fun i o h tk s₀ Q E e ho q => wpAny_pyIter_listiter (l := l) (i := i) ⟨o, e, ho⟩ q
  plain := fun i o ho xs k q => by rw [ho.2] at q; cases q
theorem Itr.range {w : World} {A : Around} (hh : A.handled = none) (I : Addr) (n : Nat) :
    Itr w A I n (fun i v => ∃ t, v = .int i t) (fun i o => o = { cls := .type "range_iterator", dict := none, data := .fields #[rawInt (i : Nat), rawInt ((n : Int) - (i : Nat)), rawInt 1], slots := #[] }) [] where
  item := fun i o h tk s₀ Q E hi e ho hf hQ => by
    subst ho
    refine wpAny_pyNext_range_item (s := St s₀ h tk) (x := (i : Nat)) (left := (n : Int) - (i : Nat)) (step := 1) e (by omega) fun h' hit hs => hQ _ h' _ _ ⟨_, rfl⟩ ?_ hit hs.extBut
    have e1 : ((i : Nat) : Int) + 1 = ((i + 1 : Nat) : Int) := by push_cast; rfl
    have e2 : (n : Int) - ((i + 1 : Nat) : Int) = (n : Int) - (i : Int) - 1 := by push_cast; omega
    rw [e1, ← e2]
  done := fun o h tk s₀ Q E e ho hf hQ => by
    subst ho
    exact wpAny_pyNext_range_end hh (s := St s₀ h tk) (x := (n : Nat)) (left := (n : Int) - (n : Nat)) (step := 1) e (by omega) fun h' hs => hQ h' tk hs
  self := fun i o h tk s₀ Q E e ho q => by
    subst ho
    exact wpAny_pyIter_rangeiter (s := St s₀ h tk) (x := (i : Nat)) (left := (n : Int) - (i : Nat)) (step := 1) e q
  plain := fun i o ho xs k q => by subst ho; cases q

section
variable {X : List Addr} {h₀ h h' : Heap} {L : Addr} {w : World} {A : Around} {s₀ : Shared} {tk : Nat} {env : Env}
set_option maxHeartbeats 1000000 in
/-- [elt for x in iter], its turns known under the caller alone -/
theorem compS {elt iter : Expr} {x : Str} {px : Pos} {scope : Scope} {pos : Pos} {cl : List (Str × Addr)} {Q : Value → Shared → Prop}
    (hclos : closureFor scope env = pure cl) (hcell : ∀ y ∈ scope.names, y.2 ≠ .cell) (hkind : scope.kind = .function)
    (hnames : ∀ y ∈ scope.names, y.2 = .local → scope.names.lookup y.1 = some .local) (hx : scope.names.lookup x = some .local)
    (hyp : wpAny (model PG w) A (eval iter env) (fun xv s₁ => wpAny (model PG w) A (pyIter xv) (fun it s₂ => ∃ (I : Addr) (n : Nat) (P : Nat → Value → Prop) (ok : Nat → Obj → Prop) (fs : List (Addr × Obj)) (h₂ : Heap) (tk₂ : Nat) (m₂ : Str → Option Value) (own₂ : List (Addr × Obj)) (fz₂ : Addr → Obj → Prop) (o : Obj)
        (J : Nat → List Value → (Addr → Obj → Prop) → Prop),
      it = .ref I ∧ s₂ = St s₀ h₂ tk₂ ∧ Sit X h₀ L m₂ ((I, o) :: own₂) fz₂ h₂ ∧ Itr w A I n P ok fs ∧ n ≤ 1000 ∧ ok 0 o ∧ (∀ p ∈ fs, fz₂ p.1 p.2) ∧ J 0 [] fz₂ ∧
      (∀ (i : Nat) (v : Value) (C D : Addr) (o : Obj) (k : Nat) (ys : List Value) (oL : Obj) (m' : Str → Option Value) (fz : Addr → Obj → Prop) (h : Heap) (tk : Nat), i < n → P i v → ys.length = i → J i ys fz → (∀ a o, fz₂ a o → fz a o) → (∃ es ep, oL.data = .dict es ep) → (∀ xs k, o.data ≠ .seq xs k) →
        Sit X h₀ C (fun y => if y = x then some v else m' y) ((L, oL) :: (I, o) :: (D, lstO ys k) :: own₂) fz h →
        wpC (model PG w) A (eval elt (compEnvC scope cl C env)) (fun y s' => ∃ h' tk' m' fz' sl, s' = St s₀ h' tk' ∧ Sit X h₀ C m' ((L, { oL with slots := sl }) :: (I, o) :: (D, lstO ys k) :: own₂) fz' h' ∧
          (∀ a o, fz a o → fz' a o) ∧ J (i + 1) (ys ++ [y]) fz') NoE (St s₀ h tk)) ∧
      (∀ (D : Addr) (k : Nat) (ys : List Value) (fz : Addr → Obj → Prop) (h : Heap) (tk : Nat), ys.length = n → J n ys fz → (∀ a o, fz₂ a o → fz a o) → Sit X h₀ L m₂ ((D, lstO ys k) :: own₂) fz h → Q (.ref D) (St s₀ h tk))) NoE s₁) NoE (St s₀ h tk))
    (hs : ∀ x, foldedSetIterable iter env x = pure x := by intro _; rfl) :
    wpC (model PG w) A (eval (.ListComp elt [⟨.Name x px, iter, [], 0⟩] scope pos) env) Q NoE (St s₀ h tk) := by
  rw [eval_ListComp]
  refine comprehC rfl hs hclos hkind hnames (wpAny_mono hyp (fun xv s₁ h₁ => wpAny_mono h₁ (fun it s₂ h₂ => ?_) fun _ _ e => e) fun _ _ e => e)
  obtain ⟨I, n, P, ok, fs, h₂, tk₂, m₂, own₂, fz₂, o, J, rfl, rfl, S, it, hn, hok, hfs, j, turn, done⟩ := h₂
  refine newListS S fun D h₃ hD _ S₃ => ?_
  have S₄ := S₃.push { cls := .type "dict", data := .dict #[] }
  refine wpAny_newFunctionEnv hcell (by intro y hy; simp at hy) (fun h₅ hns hsb => ?_) hkind
  obtain ⟨oC, hoC, _, _⟩ := ns_of_data hns
  have S₅ := S₄.upd hsb.extBut hoC
  obtain ⟨oL, hoL, hdL, hnL⟩ := ns_of_data S₅.F.ns
  have S₆ := ((S₅.into hns S₃.size hoL).rot).swap
  have hab := S.F.above
  show codeC _ _ (.compStart _ 0 (.ref I) (.ref D) (compEnvC scope cl h₃.objs.size env)) _ _
  have loop : ∀ tk, codeC (model PG w) A (.compLoop (.ListComp elt [⟨.Name x px, iter, [], 0⟩] scope pos) 0 (.ref I) (.ref D) (compEnvC scope cl h₃.objs.size env))
      (fun r s' => ∃ f, r = .ok f ∧ ∃ m, s'.heap.Ns h₃.objs.size m ∧ ∀ h', Heap.SameBut h₃.objs.size s'.heap h' → Q (.ref D) { s' with heap := h' }) (St s₀ h₅ tk) := by
    intro tk
    refine compLoopC (fun q s => ∃ i h tk m' fz o k ys sl, s = St s₀ h tk ∧ i ≤ n ∧ q = n + 1 - i ∧ ys.length = i ∧ ok i o ∧ J i ys fz ∧ (∀ a o, fz₂ a o → fz a o) ∧
        Sit X h₀ h₃.objs.size m' ((L, { oL with slots := sl }) :: (I, o) :: (D, lstO ys k) :: own₂) fz h) ?_ (n + 1)
      ⟨0, h₅, tk, _, fz₂, o, 0, [], oL.slots, rfl, Nat.zero_le _, rfl, rfl, hok, j, (fun _ _ q => q), S₆⟩
    · rintro q _ ⟨i, h, tk, m', fz, o, k, ys, sl, rfl, hi, rfl, hys, hok, j, hf, S⟩
      have hfacts : ∀ p ∈ fs, h.get? p.1 = some p.2 := fun p hp => S.get (hf _ _ (hfs p hp))
      by_cases hlt : i < n
      · refine it.item i o h tk s₀ _ _ hlt (S.ownGet (.tail _ (.head _))) hok hfacts fun v h₇ tk₇ o₇ hPv hok₇ e₇ hx₇ => ?_
        have S₇ := (S.swap.upd hx₇ e₇).swap
        refine wpAny_assign_Name (stG (s₀ := s₀) S₇ (fun h₈ tk₈ S₈ => ?_) hkind rfl (lookup_relabel_local hx))
        refine (turn i v _ D o₇ k ys { oL with slots := sl } m' fz h₈ tk₈ hlt hPv hys j hf hdL (it.plain _ _ hok₇) S₈).mono (fun y s' q => ?_) fun _ _ q => q
        obtain ⟨h₉, tk₉, m₉, fz₉, sl₉, rfl, S₉, hf₉, j₉⟩ := q
        refine appS S₉.rot (fun h₁₀ S₁₀ => ?_) (by simp only [sizeLine]; omega)
        exact ⟨n + 1 - (i + 1), by omega, i + 1, h₁₀, tk₉, m₉, fz₉, o₇, k + 1, ys ++ [y], sl₉, rfl, hlt, rfl, by rw [List.length_append, hys]; rfl, hok₇, j₉, fun a o q => hf₉ _ _ (hf _ _ q), S₁₀.rot.rot⟩
      · obtain rfl : i = n := Nat.le_antisymm hi (Nat.not_lt.mp hlt)
        refine it.done o h tk s₀ _ _ (S.ownGet (.tail _ (.head _))) hok hfacts fun h₇ tk₇ hx₇ => ?_
        have S₇ := S.swap.lose hx₇
        refine ⟨_, rfl, m', S₇.F.ns, fun h₈ hs₈ => ?_⟩
        exact done D k ys fz h₈ tk₇ hys j hf (S₇.back hs₈.extBut (fun h' e => hnL _ _ e) hab)
  refine compStartC (loop _) (it.self 0 o h₅ _ s₀ _ _ (S₆.ownGet (.tail _ (.head _))) hok (loop _))
end
end Mj
end

section
open PySem PySem.W PyProof.Rows
namespace Mj
section
variable {w : World} {A : Around} {s s₀ : Shared} {env : Env} {E : Value → Shared → Prop}

theorem asgC {x : Str} {pos' pos : Pos} {value : Expr} {Q : Flow → Shared → Prop}
    (h : wpC (model PG w) A (eval value env) (fun v s₁ => wpAny (model PG w) A (storeName env x v) (fun _ => Q .next) E s₁) E s) (hs : swapsWith value (some (.Name x pos')) pos.line env = pure false) :
    wpC (model PG w) A (exec (.Assign [.Name x pos'] value pos) env) Q E s := by
  rw [exec_Assign_Name env x pos' value pos hs]
  refine .first (wpAny_standAt (.bind (h.mono (fun v s₁ q => .first (wpAny_standAt (.of (wpAny_bind (wpAny_bindName (wpAny_mono q (fun _ _ r => wpAny_pure r) fun _ _ r => r)))))) fun _ _ q => q)))
theorem retC {e : Expr} {pos : Pos} {Q : Flow → Shared → Prop} (h : wpC (model PG w) A (eval e env) (fun v => Q (.ret v)) E s) : wpC (model PG w) A (exec (.Return (some e) pos) env) Q E s := by
  rw [exec_Return_some]
  exact .first (wpAny_standAt (.bind (h.mono (fun _ _ q => .pure q) fun _ _ q => q)))
theorem cmp1C {l r : Expr} {op : CmpOp} {pos : Pos} {Q : Value → Shared → Prop}
    (h : wpC (model PG w) A (eval l env) (fun a s₁ => wpC (model PG w) A (eval r env) (fun b s₂ => wpAny (model PG w) A (compareOp op a b) Q E s₂) E s₁) E s)
    (hm : behindInMarks op r = false := by with_unfolding_all rfl) : wpC (model PG w) A (eval (.Compare l [op] [r] pos) env) Q E s := fun Γ p hΓ hc => by
  simp only [eval_Compare1, markedBehindIn_of_false hm, Sem.wp_bind', Sem.wp_holding, Sem.wp_cmd_standAt, Sem.wp_operate]
  exact Sem.wp_mono _ Γ _ (fun a p₁ s₁ h₁ => Sem.wp_mono _ Γ _ (fun b _ s₂ h₂ => h₂ Γ _ hΓ) (fun _ _ _ h' => h') _ _ (h₁ Γ p₁ hΓ hc))
    (fun _ _ _ h' => h') _ _ (h Γ p hΓ hc)
theorem splC {e : Expr} {rest : List Expr} {pos : Pos} {Q : List Value → Shared → Prop}
    (q : wpC (model PG w) A (eval e env) (fun v s₁ => wpAny (model PG w) A (spliced (backTo pos (starEach rest env))) (fun vs s₂ => Q (v :: vs) s₂) E s₁) E s)
    (he : plainE e = true := by with_unfolding_all rfl) : wpC (model PG w) A (spliced (backTo pos (starEach (e :: rest) env))) Q E s := by
  rw [starEach_plain he]
  show wpC (model PG w) A (spliced ((false, eval e env) :: backTo pos (starEach rest env))) Q E s
  rw [spliced]
  refine .bind (q.mono (fun v s₁ h₁ => ?_) fun _ _ x => x)
  simp only [Bool.false_eq_true, if_false]
  exact .of (wpAny_bind (wpAny_pure (wpAny_bind (wpAny_holding (wpAny_mono h₁ (fun vs s₂ h₂ => wpAny_pure h₂) fun _ _ x => x)))))
theorem tupC {elts : List Expr} {k : Nat} {pos : Pos} {Q : Value → Shared → Prop}
    (h : wpC (model PG w) A (spliced (backTo pos (starEach elts env))) (fun vs s₁ => wpAny (model PG w) A (newTuple vs) Q E s₁) E s) : wpC (model PG w) A (eval (.Tuple elts k pos) env) Q E s := by
  show wpC (model PG w) A (do standAt pos; newTuple (← spliced (backTo pos (starEach elts env)))) Q E s
  exact .first (wpAny_standAt (.bind (h.mono (fun _ _ q => .of q) fun _ _ q => q)))
/-- f(e), f a def of the text; e and the call known under the caller alone -/
theorem callC {x : Str} {np pos : Pos} {e : Expr} {Q : Value → Shared → Prop}
    (h : wpAny (model PG w) A (eval (.Name x np) env) (fun fv s₁ => ∃ f : Addr, fv = .ref f ∧ wpC (model PG w) A (eval e env) (fun v s₂ => HasFn s₂.heap f ∧ wpC (model PG w) A (PySem.call (.ref f) [v]) Q E s₂) E s₁) E s)
    (he : plainE e = true := by with_unfolding_all rfl) : wpC (model PG w) A (eval (.Call (.Name x np) [e] [] pos) env) Q E s := by
  show wpC (model PG w) A (do callWith pos (← eval (.Name x np) env) [] (backTo pos (starEach [e] env)) (backToKw pos (keywordEach [] env))) Q E s
  refine .first (wpAny_mono h (fun fv s₁ q => ?_) fun _ _ q => q)
  obtain ⟨f, rfl, q⟩ := q
  rw [starEach_plain he]
  show wpC (model PG w) A (callWith pos (.ref f) [] ((false, eval e env) :: []) []) Q E s₁
  unfold callWith evalArgs
  refine .bind (.holding (.bind (m := spliced [(false, eval e env)]) ?_))
  rw [spliced]
  refine .bind (q.mono (fun v s₂ r => ?_) fun _ _ r => r)
  simp only [Bool.false_eq_true, if_false]
  refine .first (wpAny_pure (.first (wpAny_holding (wpAny_pure (.pure ?_)))))
  refine .holding (.first (wpAny_pure (.first (wpAny_pure (.pure ?_)))))
  refine .first (wpAny_standAt ?_)
  obtain ⟨hf, r⟩ := r
  obtain ⟨k, hk', lk⟩ := keeps_F (M := model PG w) _ hf
  have tail : ∀ {t : Sem Value}, wpC (model PG w) A t Q E s₂ → wpC (model PG w) A (t >>= fun r => PySem.holding [r] point >>= fun _ => pure r) Q E s₂ :=
    fun ht => .bind (ht.mono (fun r s₃ hr => .first (wpAny_holding (wpAny_point (.pure hr)))) fun _ _ x => x)
  have marked (mk : Value) : wpC (model PG w) A (callMarked mk (.ref f) [v] []) Q E s₂ := by unfold callMarked; exact .keep r
  refine .first (lk.here ?_)
  rcases hk' with rfl | rfl | rfl
  · show wpC (model PG w) A (callMarked plainCall (.ref f) [v] [] >>= fun r => PySem.holding [r] point >>= fun _ => pure r) Q E s₂
    exact tail (marked _)
  · exact tail r
  · show wpC (model PG w) A (callMarked callOfAMethodObject (.ref f) [v] [] >>= fun r => PySem.holding [r] point >>= fun _ => pure r) Q E s₂
    exact tail (marked _)
end
end Mj
end

section
open PySem PySem.W PyProof.Rows
namespace Mj
section
variable {w : World} {A : Around} {E : Value → Shared → Prop} {s₀ : Shared} {X : List Addr} {h₀ h : Heap} {L : Addr} {m : Str → Option Value} {own : List (Addr × Obj)} {fz : Addr → Obj → Prop} {tk n : Nat} {vs us : List Value} {env : Env} {Q : Value → Shared → Prop}

/-- t[1:], t a tuple -/
theorem tupFrom1 {value : Expr} {c : Nat} {cp p pos : Pos} {l : Addr} (hsz : vs.length ≤ 1000) (h1v : 1 ≤ vs.length)
    (h1 : wpAny (model PG w) A (eval value env) (fun v s₁ => v = .ref l ∧ ∃ (h₁ : Heap) (tk₁ : Nat) (X : List Addr) (h₀ : Heap) (L : Addr) (m : Str → Option Value) (own : List (Addr × Obj)) (fz : Addr → Obj → Prop), s₁ = St s₀ h₁ tk₁ ∧ Sit X h₀ L m own fz h₁ ∧ h₁.get? l = some (tupO vs) ∧
      (∀ a h' tk', Sit X h₀ L m ((a, tupO (vs.drop 1)) :: own) fz h' → Q (.ref a) (St s₀ h' tk'))) E (St s₀ h tk))
    (hs : ∀ l i, subscripted (.Slice (some (.Constant (.int 1) c cp)) none none p) false (.ref l) (.ref i) = operate [.ref i, .ref l] (getItem (.ref l) (.ref i)) := by intro _ _; with_unfolding_all rfl)
    (ht : ∀ l r, letTemporaryGo value (.ref l) r = pure () := by intro _ _; with_unfolding_all rfl) :
    wpAny (model PG w) A (eval (.Subscript value (.Slice (some (.Constant (.int 1) c cp)) none none p) pos) env) Q E (St s₀ h tk) := by
  refine Subscript_ (wpAny_mono h1 (fun v s₁ q => ?_) fun _ _ q => q)
  obtain ⟨rfl, h₁, tk₁, X, h₀, L, m, own, fz, rfl, S, e, r⟩ := q
  refine wpAny_Slice (eInt (k := c) (pos := cp) fun t tk₂ => wpAny_pure (wpAny_pure ?_))
  have S₁ := (S.push { cls := .type "slice", data := .fields #[.int 1 t, .none, .none] }).drop
  have ht' : IsTup (h₁.push { cls := .type "slice", data := .fields #[.int 1 t, .none, .none] }) l vs.toArray := (isTup_of e).keeps fun _ _ e => Heap.get?_push_of_some _ e
  refine subscriptTail_ops (s := St s₀ (h₁.push { cls := .type "slice", data := .fields #[.int 1 t, .none, .none] }) tk₂) ht'.typeIs slot_tuple_getitem.lookup
    (getItem_tuple_from (a := 1) ht' (Heap.IsSliceOf.new ..) (Nat.le_refl _) (by simpa using h1v) ?_ (by rw [List.size_toArray]; exact Nat.le_trans hsz (by decide))) (hs _ _) (ht _)
  have S₂ := S₁.push (tupO (vs.drop 1))
  exact r _ _ _ S₂

/-- two lists whose items are equal one by one -/
inductive AllEq (c : Nat) (w : World) (h : Heap) : List Value → List Value → Prop
  | nil : AllEq c w h [] []
  | cons {x y : Value} {xs ys : List Value} : EqV c w h x y true → AllEq c w h xs ys → AllEq c w h (x :: xs) (y :: ys)
theorem AllEq.length {c : Nat} {xs ys : List Value} (x : AllEq c w h xs ys) : xs.length = ys.length := by
  induction x with
  | nil => rfl
  | cons _ _ ih => simp [ih]

theorem eq_loop {c n' : Nat} {a b : Addr} {R : Result → Shared → Prop} (ha : h.get? a = some (lstO vs n)) (hb : h.get? b = some (lstO us n')) {xs ys : List Value} (x : AllEq c w h xs ys) :
    ∀ (i tk : Nat) (A : Around), vs.drop i = xs → us.drop i = ys → i ≤ vs.length → i ≤ us.length → A.units + c + 2 < cLine → (∀ tk', R (.ok (.ret (.bool true))) (St s₀ h tk')) →
      codeAny (model PG w) A (.builtin "list.__eq__.loop" ⟨[.ref a, .ref b, rawInt i, rawInt 2], []⟩) R (St s₀ h tk) := by
  induction x with
  | nil =>
    intro i tk A e1 e2 l1 l2 hu q
    refine codeAny_builtin MeetsSeq3.entry_eq_loop ?_
    rw [Around.under_plainId MeetsSeq3.plain_eq_loop _]
    have hl : vs.length = us.length := by have := (drop_nil e1).2; have := (drop_nil e2).2; omega
    have fin : R (.ok (.ret (.bool (vs.toArray.size == us.toArray.size)))) (St s₀ h tk) := by
      rw [List.size_toArray, List.size_toArray, hl, beq_self_eq_true]; exact q tk
    unfold St at fin ⊢
    wp_walk using wpAny_loadPart' ha, wpAny_loadPart' hb
    rw [(drop_nil e1).1]
    wp_walk using wpAny_loadPart' ha, wpAny_loadPart' hb
    exact fin
  | @cons x y xs ys he _ ih =>
    intro i tk A e1 e2 l1 l2 hu q
    have d1 := drop_cons e1
    have d2 := drop_cons e2
    have hl1 := congrArg List.length e1
    have hl2 := congrArg List.length e2
    rw [List.length_drop, List.length_cons] at hl1 hl2
    refine codeAny_builtin MeetsSeq3.entry_eq_loop ?_
    rw [Around.under_plainId MeetsSeq3.plain_eq_loop _]
    unfold St
    wp_walk using wpAny_loadPart' ha, wpAny_loadPart' hb
    rw [d1.1, d2.1]
    refine wpAny_bind (he A.in1 _ _ s₀ tk (by show A.units + 1 + c < cLine; omega) fun tk' => ?_)
    rw [if_pos rfl]
    refine wpAny_pure ⟨plainId_quiet MeetsSeq3.plain_eq_loop _, ?_⟩
    rw [show ((i : Int) + 1) = ((i + 1 : Nat) : Int) by push_cast; rfl]
    exact ih (i + 1) tk' A d1.2 d2.2 (by omega) (by omega) hu q

theorem cmpEq_list {c n' : Nat} {a b : Addr} (ha : h.get? a = some (lstO vs n)) (hb : h.get? b = some (lstO us n')) (x : AllEq c w h vs us) (hu : A.units + c + 4 < cLine) (q : ∀ tk', Q (.bool true) (St s₀ h tk')) :
    wpAny (model PG w) A (compareOp .Eq (.ref a) (.ref b)) Q E (St s₀ h tk) := by
  show wpAny (model PG w) A (richCompare .Eq (.ref a) (.ref b)) Q E (St s₀ h tk)
  refine wpAny_richCompare_same_or (T := "list") ⟨_, ha, rfl⟩ ⟨_, hb, rfl⟩ PySem.F.slot_list_eq ?_ (.inr (by omega))
  refine callAgain PySem.F.slot_list_eq ⟨_, ha, rfl⟩ PySem.F.entry_list_eq (PySem.F.args_list_eq_2 _ _) ?_
  have f3 := AutoSeq1.sub_list_list
  have fin : codeAny (model PG w) A (.builtin "list.__eq__.loop" ⟨[.ref a, .ref b, rawInt ((0 : Nat) : Int), rawInt 2], []⟩) (fun r s' => match r with | .ok (.ret v) => v ≠ .notImplemented ∧ Q v s' | .ok _ => False | .error e => E e s') (St s₀ h tk) :=
    eq_loop ha hb x 0 tk A rfl rfl (Nat.zero_le _) (Nat.zero_le _) (by omega) fun tk' => ⟨by simp, q tk'⟩
  have hl := x.length
  unfold St at fin ⊢
  wp_walk using wpAny_loadPart' ha, wpAny_loadPart' hb
  exact ⟨plainId_quiet MeetsSeq3.plain_eq_loop _, fin⟩
end
end Mj
end

section
open PySem PySem.W PyProof.Rows
namespace Mj
abbrev envW (L a : Addr) (cd : Value) : Env := envOfC "law" (scpOf (stAt 12)) L a cd
/-- statement k of the law's body -/
def lawSt (k : Nat) : Stmt := (bodOf (stAt 12)).getD k (.Pass default)
section
variable {w : World} {A : Around} {E : Value → Shared → Prop} {s₀ : Shared} {h₀ h : Heap} {L a : Addr} {m mg mb : Str → Option Value} {hg : Heap} {own : List (Addr × Obj)} {fz : Addr → Obj → Prop} {tk n : Nat} {vs : List Value} {env : Env} {Q : Value → Shared → Prop} {cd : Value} {ps : Array Value}

theorem cutC {st : Stmt} {rest : List Stmt} {Q : Flow → Shared → Prop} {s : Shared} (P : Shared → Prop) (h1 : wpC (model PG w) A (exec st env) (fun f s' => f = .next ∧ P s') NoE s)
    (h2 : ∀ s', P s' → wpC (model PG w) A (execs rest env) Q NoE s') : wpC (model PG w) A (execs (st :: rest) env) Q NoE s :=
  .cons (h1.mono (fun f s' q => by obtain ⟨rfl, q⟩ := q; exact h2 s' q) fun _ _ q => q)
theorem eCellG {x : Str} {pos : Pos} {v : Value} {c : Addr} {o : Obj} {X : List Addr} (S : Sit X h₀ L m own fz h) (hc : fz c o) (hd : o.data = .cell (some v)) (q : Q v (St s₀ h tk))
    (hk : env.scope.kind = .function := by rfl) (hl : env.kindOf x = some .cell := by rfl) (hlk : env.cells.lookup x = some c := by rfl) (hdb : (x == ("__debug__" : Str)) = false := by decide) :
    wpAny (model PG w) A (eval (.Name x pos) env) Q E (St s₀ h tk) := wpAny_Name (wpAny_loadName_cell hk hl hlk ⟨o, S.get hc, hd⟩ q) hdb
theorem Sit.tups (S : Sit [] h₀ L m own fz h) (hown : ∀ p ∈ own, ∀ vs, p.2 ≠ tupO vs) : Sit [] h₀ L m own (fun a o => fz a o ∨ (h.get? a = some o ∧ ∃ vs, o = tupO vs)) h :=
  S.more fun a o ⟨e, vs, q⟩ => ⟨e, (fun p hp => by rw [q]; exact hown p hp vs), by subst q; intro es ep q; cases q⟩

/-- the entry of x at v -/
def EntIs (fz : Addr → Obj → Prop) (v : Value) (x : Int) : Prop := ∃ D K ks n t', v = .ref D ∧ fz D (tupO [.ref K, .str (entryOf x).ver t']) ∧ fz K (lstO ks n) ∧ All2 (TupIs fz) ks (entryOf x).key
theorem EntIs.mono {f g : Addr → Obj → Prop} (hf : ∀ a o, f a o → g a o) {v : Value} {x : Int} (e : EntIs f v x) : EntIs g v x :=
  let ⟨D, K, ks, n, t', e, q1, q2, q3⟩ := e; ⟨D, K, ks, n, t', e, hf _ _ q1, hf _ _ q2, q3.mono fun _ _ q => q.mono hf⟩

/-- l[:k], l any list -/
theorem sliceToI {value : Expr} {up : Expr} {p pos : Pos} {l : Addr} {k : Nat} {s : Shared} (hsz : vs.length ≤ 1000)
    (h1 : wpAny (model PG w) A (eval value env) (fun v s₁ => v = .ref l ∧ wpAny (model PG w) A (eval up env) (fun u s₂ => ∃ (t : Tok) (h₁ : Heap) (tk₁ : Nat) (X : List Addr) (h₀ : Heap) (L : Addr) (m : Str → Option Value) (own : List (Addr × Obj)) (fz : Addr → Obj → Prop), u = .int k t ∧ s₂ = St s₀ h₁ tk₁ ∧ Sit X h₀ L m own fz h₁ ∧ h₁.IsList l vs.toArray ∧
      (∀ a h', h₁.objs.size ≤ a → Sit X h₀ L m ((a, lstO (vs.take k) 0) :: own) fz h' → Q (.ref a) (St s₀ h' tk₁))) E s₁) E s)
    (hs : ∀ l i, subscripted (.Slice none (some up) none p) false (.ref l) (.ref i) = operate [.ref i, .ref l] (getItem (.ref l) (.ref i)) := by intro _ _; with_unfolding_all rfl)
    (ht : ∀ l r, letTemporaryGo value (.ref l) r = pure () := by intro _ _; with_unfolding_all rfl) :
    wpAny (model PG w) A (eval (.Subscript value (.Slice none (some up) none p) pos) env) Q E s := by
  refine Subscript_ (wpAny_mono h1 (fun v s₁ q => ?_) fun _ _ q => q)
  obtain ⟨rfl, q⟩ := q
  refine wpAny_Slice (wpAny_pure (wpAny_mono q (fun u s₂ r => wpAny_pure ?_) fun _ _ q => q))
  obtain ⟨t, h₁, tk₁, X, h₀, L, m, own, fz, rfl, rfl, S, e, r⟩ := r
  refine slice_listK (s := St s₀ h₁ tk₁) e .none (.int _ t) ?_ (hs _ _) (ht _) (by rw [List.size_toArray]; exact Nat.le_trans hsz (by decide))
  rw [slicePick_upto']
  have S₁ := (S.push { cls := .type "slice", data := .fields #[.none, .int k t, .none] }).drop
  have S₂ := S₁.push (lstO (vs.take k) 0)
  rw [Heap.size_push] at S₂
  exact r _ _ (Nat.le_succ _) S₂

/-- range(len(entries)) : an iterator over the places -/
theorem rangeLen {X : List Addr} {rp lp ep cp1 cp2 : Pos} {c D : Addr} {o : Obj} {k : Nat} {Q : Value → Shared → Prop} (T : Tp w hg mg mb) (B : Bs hg h₀) (S : Sit X h₀ L m own fz h) (hc : fz c o) (hd : o.data = .cell (some (.ref D))) (hD : fz D (lstO vs k)) (hlen : vs.length ≤ 1000)
    (q : ∀ I h' tk', Sit X h₀ L m ((I, { cls := .type "range_iterator", dict := none, data := .fields #[rawInt ((0 : Nat) : Int), rawInt ((vs.length : Int) - ((0 : Nat) : Int)), rawInt 1], slots := #[] }) :: own) fz h' → Q (.ref I) (St s₀ h' tk'))
    (hk : env.scope.kind = .function := by rfl) (hG : env.globals = mainGlobals := by rfl) (hBn : env.builtins = builtinsNs := by rfl) (hx : env.kindOf "range" = some .globalImplicit := by rfl) (hx2 : env.kindOf "len" = some .globalImplicit := by rfl)
    (hl : env.kindOf "entries" = some .cell := by rfl) (hlk : env.cells.lookup ("entries" : Str) = some c := by rfl) :
    wpAny (model PG w) A (eval (.Call (.Name "range" rp) [.Call (.Name "len" lp) [.Name "entries" ep] [] cp1] [] cp2) env) (fun xv s₁ => wpAny (model PG w) A (pyIter xv) Q E s₁) E (St s₀ h tk) := by
  with_reducible refine callNm ?_
  refine eBiG (v := .type "range") T B S T.nRange (by decide) (by decide) ?_ hk hG hBn hx
  refine callTy1 ?_
  refine callNm ?_
  refine eBiG (v := .builtin "len") T B S T.nLen (by decide) (by decide) ?_ hk hG hBn hx2
  refine callBi1 ?_
  refine eCellG S hc hd ?_ hk hl hlk
  refine eLen (S.get hD) hlen fun t tk' => ?_
  refine call_range_1 ?_
  have S₁ := (S.push { cls := .type "range", data := .fields #[.int 0 tk', .int vs.length t, .int 1 (tk' + 1)] })
  refine wpAny_pyIter_range (s := St s₀ (h.push _) (tk' + 1 + 1)) (a := 0) (b := vs.length) (c := 1) (IsRange.new ..) (small_one (by decide) (by decide) (by omega) (by omega)) ?_
  have S₂ := S₁.drop.push { cls := .type "range_iterator", data := .fields #[rawInt 0, rawInt (Builtin.Range.rangeSize 0 vs.length 1), rawInt 1] }
  have hz : Builtin.Range.rangeSize 0 (vs.length : Int) 1 = (vs.length : Int) - ((0 : Nat) : Int) := by
    rw [rangeSize_one]
    split <;> omega
  have S₃ := S₂
  rw [hz] at S₃
  refine q _ _ (tk' + 1 + 1) ?_
  rw [hz]
  exact S₃
end
end Mj
end

section
open PySem PySem.W PyProof.Rows
namespace Mj
/-- the law's own five numbers -/
def fiveL : List Int := [70, 34285027, 192387, 467427, 227]
def xsOf (ns : List Int) : List Int := ns.take 7 ++ fiveL
theorem xsOf_len (ns : List Int) : (xsOf ns).length ≤ 12 := by unfold xsOf; rw [List.length_append, List.length_take]; show _ + 5 ≤ 12; omega
theorem ints_take {vs : List Value} {ns : List Int} (x : IntsAre vs ns) : ∀ k, IntsAre (vs.take k) (ns.take k) := by
  induction x with
  | nil => intro k; rw [List.take_nil, List.take_nil]; exact .nil
  | cons i t _ ih =>
    intro k
    cases k with
    | zero => exact .nil
    | succ k => exact .cons i t (ih k)
theorem ints_app {vs us : List Value} {ns ms : List Int} (x : IntsAre vs ns) (y : IntsAre us ms) : IntsAre (vs ++ us) (ns ++ ms) := by
  induction x with
  | nil => exact y
  | cons i t _ ih => exact .cons i t ih
section
variable {w : World} {A : Around} {s₀ : Shared} {h₀ h : Heap} {L a : Addr} {m mg mb : Str → Option Value} {hg : Heap} {fz : Addr → Obj → Prop} {tk : Nat} {svs : List Value} {ns : List Int} {cd : Value} {ps : Array Value} {oc : Obj} {sl : Addr}

theorem own_ne {D : Addr} {ys : List Value} {k : Nat} {oL oI : Obj} {I : Addr} {own : List (Addr × Obj)} (hL : ∃ es ep, oL.data = .dict es ep) (hI : ∀ xs k, oI.data ≠ .seq xs k) (ho : ∀ p ∈ own, ∀ vs, p.2 ≠ tupO vs) :
    ∀ p ∈ (L, oL) :: (I, oI) :: (D, lstO ys k) :: own, ∀ vs, p.2 ≠ tupO vs := by
  intro p hp vs e
  simp only [List.mem_cons] at hp
  rcases hp with rfl | rfl | rfl | hp
  · obtain ⟨es, ep, q⟩ := hL; have e : oL = _ := e; rw [e] at q; cases q
  · have e : oI = _ := e; exact hI _ _ (by rw [e])
  · have e1 : Value.type "list" = Value.type "tuple" := congrArg Obj.cls e
    injection e1 with e2
    exact absurd e2 (by decide)
  · exact ho p hp vs e

set_option maxHeartbeats 2000000 in
/-- entries = [..] -/
theorem law1 (T : Tp w hg mg mb) (B : Bs hg h₀) (hroom : A.depth + 8 < recursionLimit) (hh : A.handled = none) (hm : m "script" = some (.ref sl)) (hsl : h.IsList sl svs.toArray) (hslen : svs.length ≤ 1000) (hI : IntsAre svs ns) (hoc : oc.data = .cell none)
    (S : Sit [] h₀ L m [(67, tabObj ps), (L + 1, oc)] fz h) :
    wpC (model PG w) A (exec (lawSt 0) (envW L a cd)) (fun f s' => f = .next ∧ ∃ h' tk' fz' o₃ D es k, s' = St s₀ h' tk' ∧ Sit [] h₀ L m [(67, tabObj ps)] fz' h' ∧ fz' (L + 1) o₃ ∧ o₃.data = .cell (some (.ref D)) ∧ fz' D (lstO es k) ∧ All2 (EntIs fz') es (xsOf ns)) NoE (St s₀ h tk) := by
  refine asgC ?_ (by with_unfolding_all rfl)
  refine compS (X := []) (h₀ := h₀) (L := L) (s₀ := s₀) (cl := []) rfl (by decide) rfl (by decide) rfl ?_
  refine wpAny_BinOp ?_
  refine sliceToI (s₀ := s₀) (l := sl) (vs := svs) (k := 7) hslen ?_
  refine eLocG S hm ⟨rfl, ?_⟩
  refine eInt fun t₁ tk₁ => ⟨t₁, h, tk₁, _, _, _, _, _, _, rfl, rfl, S, hsl, fun a₂ h₂ _ S₂' => ?_⟩
  have S₂ := S₂'.freeze
  refine List_ ?_
  with_reducible refine splE (eInt fun u1 _ => ?_)
  with_reducible refine splE (eInt fun u2 _ => ?_)
  with_reducible refine splE (eInt fun u3 _ => ?_)
  with_reducible refine splE (eInt fun u4 _ => ?_)
  with_reducible refine splE (eInt fun u5 _ => ?_)
  with_reducible refine splN ?_
  refine newListS S₂ fun a₃ h₃ _ _ S₃' => ?_
  have S₃ := S₃'.freeze
  refine addS S₃ (S₃.get (.inl (.inr ⟨rfl, rfl⟩))) (S₃.get (.inr ⟨rfl, rfl⟩)) (by rw [List.length_take]; show _ + 5 ≤ _; omega) fun a₄ h₄ _ _ S₄' => ?_
  have S₄ := S₄'.freeze
  refine wpAny_pyIter_list (isList_of (S₄.get (.inr ⟨rfl, rfl⟩))) ?_
  have S₅ := S₄.push { cls := .type "list_iterator", data := .fields #[.ref a₄, .int 0 0] }
  have hxs : IntsAre (svs.take 7 ++ [.int 70 u1, .int 34285027 u2, .int 192387 u3, .int 467427 u4, .int 227 u5]) (xsOf ns) := ints_app (ints_take hI 7) (.cons 70 _ (.cons 34285027 _ (.cons 192387 _ (.cons 467427 _ (.cons 227 _ .nil)))))
  have hlen := hxs.length
  have hl12 := xsOf_len ns
  refine ⟨h₄.objs.size, _, _, _, _, _, _, _, _, _, _, fun i ys fz => All2 (EntIs fz) ys ((xsOf ns).take i), rfl, rfl, S₅, Itr.list hh _ a₄ (svs.take 7 ++ [.int 70 u1, .int 34285027 u2, .int 192387 u3, .int 467427 u4, .int 227 u5]) 0, by omega, ⟨rfl, rfl⟩, (fun p hp => by obtain rfl := List.mem_singleton.mp hp; exact .inr ⟨rfl, rfl⟩), .nil, ?_, ?_⟩
  · intro i v C D o k ys oL m' fz h tk hi hP hys j hf hL hIo S
    obtain ⟨x, t, hx, rfl⟩ := ints_get hxs hP
    refine .of ?_
    with_reducible refine callNm ?_
    refine eGlobG T B S T.hEntry.1 ?_
    with_reducible refine callRf1 ?_
    refine eLocG S rfl ⟨S.hasFn B T.hEntry, ?_⟩
    refine entry_ok T (fun b o e => S.F.keep _ _ (B _ _ e)) (by omega) hh fun D' K ks n t' h' tk' kp hD' hK' e1 e2 e3 => ?_
    have S' := (S.call kp).tups (own_ne hL hIo (by
      intro p hp vs e
      simp only [List.mem_cons, List.not_mem_nil, or_false] at hp
      rcases hp with rfl | rfl
      · cases e
      · have e : oc = _ := e; rw [e] at hoc; cases hoc))
    refine ⟨h', tk', _, _, oL.slots, rfl, S', (fun a o q => .inl (.inl q)), ?_⟩
    show All2 _ _ ((xsOf ns).take (i + 1))
    rw [List.take_add_one, hx]
    refine (j.mono fun _ _ q => q.mono fun a o q => .inl (.inl q)).snoc ⟨D', K, ks, n, t', rfl, .inl (.inr ⟨e1, hD'⟩), .inl (.inr ⟨e2, hK'⟩), e3.mono fun _ _ q => ?_⟩
    obtain ⟨b, tt, v2, q1, q2, q3⟩ := q
    exact ⟨b, tt, v2, q1, .inr ⟨q2, _, rfl⟩, q3⟩
  · intro D k ys fz h tk hys j hf S
    rw [hlen, List.take_length] at j
    have S₆ := S.freeze
    refine wpAny_storeName_cell (c := L + 1) rfl rfl rfl ⟨oc, S₆.ownGet (.tail _ (.head _)), hoc⟩ fun h₇ hc₇ hs₇ => ?_
    obtain ⟨o₃, e₃, d₃⟩ := hc₇
    have S₇ := (S₆.swap.upd hs₇.extBut e₃).freeze
    exact ⟨rfl, h₇, tk, _, o₃, D, ys, k, rfl, S₇, .inr ⟨rfl, rfl⟩, d₃, .inl (.inr ⟨rfl, rfl⟩), j.mono fun _ _ q => q.mono fun a o q => .inl (.inl q)⟩
end
end Mj
end

section
open PySem PySem.W PyProof.Rows
namespace Mj
abbrev entN (xs : List Int) (i : Nat) : EntS := entryOf (xs.getD i 0)
/-- entries stand -/
def Ents (fz : Addr → Obj → Prop) (L : Addr) (xs : List Int) : Prop := ∃ o₃ D es k, fz (L + 1) o₃ ∧ o₃.data = .cell (some (.ref D)) ∧ fz D (lstO es k) ∧ All2 (EntIs fz) es xs
theorem Ents.mono {f g : Addr → Obj → Prop} (hf : ∀ a o, f a o → g a o) {L : Addr} {xs : List Int} (e : Ents f L xs) : Ents g L xs :=
  let ⟨o, D, es, k, c1, c2, c3, c4⟩ := e; ⟨o, D, es, k, hf _ _ c1, c2, hf _ _ c3, c4.mono fun _ _ q => q.mono hf⟩
/-- v is a tuple whose second and third items tell the place i and its version -/
def TopIs (fz : Addr → Obj → Prop) (xs : List Int) (v : Value) (i : Nat) : Prop := ∃ a K t t', v = .ref a ∧ fz a (tupO [.ref K, .int i t, .str (entN xs i).ver t'])
def FndIs (fz : Addr → Obj → Prop) (xs : List Int) (v : Value) (i : Nat) : Prop := ∃ a K kvs n t t', v = .ref a ∧ fz a (tupO [.ref K, .int i t, .str (entN xs i).ver t']) ∧ fz K (lstO kvs n) ∧ All2 ScIs kvs (flatOf (stK (entN xs i).key))
def ToldIs (fz : Addr → Obj → Prop) (xs : List Int) (v : Value) (i : Nat) : Prop := ∃ a K ks n t t', v = .ref a ∧ fz a (tupO [.ref K, .int i t, .str (entN xs i).ver t']) ∧ fz K (lstO ks n) ∧ All2 (TupIs fz) ks (entN xs i).key
theorem FndIs.mono {f g : Addr → Obj → Prop} (hf : ∀ a o, f a o → g a o) {xs : List Int} {v : Value} {i : Nat} (e : FndIs f xs v i) : FndIs g xs v i :=
  let ⟨a, K, kvs, n, t, t', e, q1, q2, q3⟩ := e; ⟨a, K, kvs, n, t, t', e, hf _ _ q1, hf _ _ q2, q3⟩
theorem ToldIs.mono {f g : Addr → Obj → Prop} (hf : ∀ a o, f a o → g a o) {xs : List Int} {v : Value} {i : Nat} (e : ToldIs f xs v i) : ToldIs g xs v i :=
  let ⟨a, K, kvs, n, t, t', e, q1, q2, q3⟩ := e; ⟨a, K, kvs, n, t, t', e, hf _ _ q1, hf _ _ q2, q3.mono fun _ _ q => q.mono hf⟩
theorem TopIs.mono {f g : Addr → Obj → Prop} (hf : ∀ a o, f a o → g a o) {xs : List Int} {v : Value} {i : Nat} (e : TopIs f xs v i) : TopIs g xs v i :=
  let ⟨a, K, t, t', e, q1⟩ := e; ⟨a, K, t, t', e, hf _ _ q1⟩
theorem FndIs.top {f : Addr → Obj → Prop} {xs : List Int} {v : Value} {i : Nat} (e : FndIs f xs v i) : TopIs f xs v i := let ⟨a, K, _, _, t, t', e, q1, _, _⟩ := e; ⟨a, K, t, t', e, q1⟩
theorem ToldIs.top {f : Addr → Obj → Prop} {xs : List Int} {v : Value} {i : Nat} (e : ToldIs f xs v i) : TopIs f xs v i := let ⟨a, K, _, _, t, t', e, q1, _, _⟩ := e; ⟨a, K, t, t', e, q1⟩
theorem TopIs.inj {h : Heap} {xs : List Int} {v : Value} {i j : Nat} (x : TopIs (fun a o => h.get? a = some o) xs v i) (y : TopIs (fun a o => h.get? a = some o) xs v j) : i = j := by
  obtain ⟨a, K, t, t', rfl, q⟩ := x
  obtain ⟨b, K', u, u', e, r⟩ := y
  cases e
  rw [q] at r
  have h3 : ([.ref K, .int i t, .str (entN xs i).ver t'] : List Value) = [.ref K', .int j u, .str (entN xs j).ver u'] := by
    have := congrArg (fun o : Option Obj => o.map (·.data)) r
    simp only [Option.map_some, Option.some.injEq, Data.seq.injEq, and_true] at this
    exact congrArg Array.toList this
  injection h3 with _ h4
  injection h4 with h5 _
  injection h5 with h6 _
  omega
theorem range_get {n i j : Nat} (h : (List.range n)[i]? = some j) : i = j ∧ j < n := by
  have hi := (List.getElem?_eq_some_iff.mp h).1
  rw [List.length_range] at hi
  rw [List.getElem?_range hi] at h
  cases h
  exact ⟨rfl, hi⟩
/-- a key for each thing of a list without two alike -/
theorem key_fun {vs : List Value} (f : Nat → Key) (inj : ∀ (i j : Nat) (v : Value), vs[i]? = some v → vs[j]? = some v → i = j) : ∃ k : Value → Key, ∀ (i : Nat) (v : Value), vs[i]? = some v → k v = f i := by
  classical
  refine ⟨fun v => if h : ∃ i, vs[i]? = some v then f h.choose else [], fun i v e => ?_⟩
  have h : ∃ i, vs[i]? = some v := ⟨i, e⟩
  show (if h : ∃ i, vs[i]? = some v then f h.choose else []) = f i
  rw [dif_pos h]
  exact congrArg f (inj _ _ v h.choose_spec e)
theorem tops_inj {h : Heap} {xs : List Int} {vs : List Value} {n : Nat} (x : All2 (TopIs (fun a o => h.get? a = some o) xs) vs (List.range n)) (i j : Nat) (v : Value) (e1 : vs[i]? = some v) (e2 : vs[j]? = some v) : i = j := by
  obtain ⟨i', r1, q1⟩ := all2_get x e1
  obtain ⟨j', r2, q2⟩ := all2_get x e2
  obtain ⟨rfl, _⟩ := range_get r1
  obtain ⟨rfl, _⟩ := range_get r2
  exact q1.inj q2
theorem ents_at {f : Addr → Obj → Prop} {es : List Value} {xs : List Int} (x : All2 (EntIs f) es xs) {i : Nat} (hi : i < es.length) : ∃ v, es[i]? = some v ∧ EntIs f v (xs.getD i 0) := by
  have hl := x.length
  obtain ⟨v, e, q⟩ := x.get (k := i) (b := xs[i]) (List.getElem?_eq_getElem (by omega))
  refine ⟨v, e, ?_⟩
  rw [List.getD_eq_getElem?_getD, List.getElem?_eq_getElem (by omega)]
  exact q
theorem ver_len (x : Int) : (entryOf x).ver.cps.size < 1000 := by
  have h1 := entAt_ver x (codesOf x).length
  rw [entAt_end] at h1
  have h2 := codesOf_len x
  have : (entryOf x).ver.cps.size = (entryOf x).ver.length := rfl
  omega

section
variable {w : World} {A : Around} {s₀ : Shared} {h₀ h : Heap} {L a : Addr} {m mg mb : Str → Option Value} {hg : Heap} {fz : Addr → Obj → Prop} {tk : Nat} {xs : List Int} {cd : Value}
set_option maxHeartbeats 4000000 in
/-- found = _law_parted([..]) -/
theorem law2 (T : Tp w hg mg mb) (hgn : hg.get? 67 = none) (B : Bs hg h₀) (hroom : A.depth + 100 < recursionLimit) (hun : A.units + 400 < cLine) (hh : A.handled = none) (hfr : A.frames = some [envW L a cd]) (hx12 : xs.length ≤ 12)
    (S : Sit [] h₀ L m [(67, tabObj #[])] fz h) (En : Ents fz L xs) :
    wpC (model PG w) A (exec (lawSt 1) (envW L a cd)) (fun f s' => f = .next ∧ ∃ h' tk' fz' ps' F k vs k1, s' = St s₀ h' tk' ∧ Sit [] h₀ L (fun y => if y = ("found" : Str) then some (.ref F) else m y) [(67, tabObj ps')] fz' h' ∧
      (∀ a o, fz a o → fz' a o) ∧ fz' F (lstO (parted (ltV k1) xs.length vs) k) ∧ All2 (FndIs fz' xs) vs (List.range xs.length) ∧ (∀ (i : Nat) (v : Value), vs[i]? = some v → k1 v = stK (entN xs i).key)) NoE (St s₀ h tk) := by
  obtain ⟨o₃, D, es, k, c1, c2, c3, c4⟩ := En
  have hlen := c4.length
  refine wpC.asg ?_
  refine callC ?_
  refine eGlobG T B S T.hParted.1 ⟨72, rfl, ?_⟩
  refine compS (X := []) (h₀ := h₀) (L := L) (s₀ := s₀) (cl := [("entries", L + 1)]) rfl (by decide) rfl (by decide) rfl ?_
  refine rangeLen T B S c1 c2 c3 (by omega) fun I h₂ tk₂ S₂ => ?_
  refine ⟨I, es.length, _, _, [], h₂, tk₂, _, _, _, _, fun i ys fz => All2 (FndIs fz xs) ys (List.range i), rfl, rfl, S₂, Itr.range hh I es.length, by omega, rfl, (fun p hp => nomatch hp), .nil, ?_, ?_⟩
  · rintro i v C D' o k' ys oL m' fz₄ h₄ tk₄ hi ⟨t, rfl⟩ hys j hf hL hIo S
    obtain ⟨ev, he, De, Ke, ks, ke, te, rfl, q1, q2, q3⟩ := ents_at c4 hi
    refine tupC ?_
    refine splC ?_
    refine callC ?_
    refine eGlobG T B S T.hVer.1 ⟨44, rfl, ?_⟩
    refine .of ?_
    with_reducible refine Subscript_ (Subscript_ ?_)
    refine eCellG S (hf _ _ c1) c2 ?_
    refine eLocG S rfl ?_
    refine subList (S.get (hf _ _ c3)) (by omega) (by omega) (by simpa using he) ?_
    with_reducible refine eInt fun _ _ => ?_
    refine subTup (S.get (hf _ _ q1)) (k := 1) rfl (by decide) ?_
    refine ⟨S.hasFn B T.hVer, ?_⟩
    have hLg : hg.get? L = none := by
      cases e : hg.get? L with
      | none => rfl
      | some o => exact absurd (Heap.lt_size (B _ _ e)) (Nat.not_lt.mpr (S₂.F.above))
    obtain ⟨os, hos, hfl⟩ := entry_good (xs.getD i 0)
    refine cv_ok (elaw := envW L a cd) (Lf := L) (of := oL) T (fun b o e => S.F.keep _ _ (B _ _ e)) (by omega) hh hfr (show (scpOf (stAt 12)).kind ≠ .module by decide) rfl (S.ownGet (.head _)) (fun vs q => by obtain ⟨es, ep, e⟩ := hL; rw [e] at q; cases q) hLg (ver_len _) hos
      fun Dv kvs kn sl h₅ tk₅ kp e5 hDv e6 hsc => ?_
    have S₅ := S.callT kp e5
    have f5 : ∀ a o, fz a o → fzCall fz₄ h₄ h₅ a o := fun a o q => .inl (hf _ _ q)
    refine splE ?_
    refine eLocG S₅ rfl ?_
    refine splE ?_
    with_reducible refine Subscript_ (Subscript_ ?_)
    refine eCellG S₅ (f5 _ _ c1) c2 ?_
    refine eLocG S₅ rfl ?_
    refine subList (S₅.get (f5 _ _ c3)) (by omega) (by omega) (by simpa using he) ?_
    with_reducible refine eInt fun _ _ => ?_
    refine subTup (S₅.get (f5 _ _ q1)) (k := 1) rfl (by decide) ?_
    refine splN ?_
    refine newTupS S₅ fun a₆ h₆ _ _ S₆' => ?_
    have S₆ := S₆'.freeze
    refine ⟨h₆, _, _, _, sl, rfl, S₆, (fun a o q => .inl (.inl q)), ?_⟩
    show All2 _ _ (List.range (i + 1))
    rw [List.range_succ]
    rw [hfl] at hsc
    exact (j.mono fun _ _ q => q.mono fun a o q => .inl (.inl q)).snoc ⟨a₆, Dv, kvs, kn, t, te, rfl, .inr ⟨rfl, rfl⟩, .inl (.inr ⟨e6, hDv⟩), hsc⟩
  · intro D' k' ys fz₄ h₄ tk₄ hys j hf S'
    have S₄ := S'.freeze
    refine ⟨S₄.hasFn B T.hParted, .of ?_⟩
    have jt : All2 (TopIs (fun a o => h₄.get? a = some o) xs) ys (List.range es.length) := j.mono fun _ _ q => q.top.mono fun a o q => S₄.get (.inl q)
    obtain ⟨k1, hk1⟩ := key_fun (vs := ys) (fun i => stK (entN xs i).key) (tops_inj jt)
    refine parted_ok (w := w) (key := k1) xs.length ys (by omega) (by omega) hg mg mb T hgn _ _ _ s₀ h₄ tk₄ D' k' #[] (fun b o e => S₄.F.keep _ _ (B _ _ e)) (by omega) (by omega) hh (S₄.get (.inr ⟨rfl, rfl⟩)) (fun v hv => ?_) (S₄.ownGet (.head _)) ⟨trivial, fun pos c e => by cases e⟩ fun F kF h₅ tk₅ ps₅ kp hF e5 e6 _ => ?_
    · obtain ⟨i, e⟩ := List.mem_iff_getElem?.mp hv
      obtain ⟨i', r, q⟩ := all2_get j e
      obtain ⟨rfl, _⟩ := range_get r
      rw [hk1 _ _ e]
      obtain ⟨b, K, kvs, kn, t, t', rfl, q1, q2, q3⟩ := q
      exact ⟨b, K, _, kvs, kn, rfl, S₄.get (.inl q1), S₄.get (.inl q2), q3, compat_st (key_compat _) (key_rank _)⟩
    · have S₅ := S₄.callT kp e6
      refine stG S₅ fun h₆ tk₆ S₆ => ⟨rfl, h₆, tk₆, _, ps₅, F, kF, ys, k1, rfl, S₆, (fun a o q => .inl (.inl (hf _ _ q))), .inr ⟨e5, hF⟩, ?_, hk1⟩
      rw [← hlen]
      exact j.mono fun _ _ q => q.mono fun a o q => .inl (.inl q)
end
end Mj
end

section
open PySem PySem.W PyProof.Rows
namespace Mj
section
variable {w : World} {A : Around} {s₀ : Shared} {h₀ h : Heap} {L a : Addr} {m mg mb : Str → Option Value} {hg : Heap} {fz : Addr → Obj → Prop} {tk : Nat} {xs : List Int} {cd : Value} {ps : Array Value}
set_option maxHeartbeats 4000000 in
/-- told = _law_inserted([..]) -/
theorem law3 (T : Tp w hg mg mb) (B : Bs hg h₀) (hroom : A.depth + 100 < recursionLimit) (hun : A.units + 400 < cLine) (hh : A.handled = none) (hx12 : xs.length ≤ 12)
    (S : Sit [] h₀ L m [(67, tabObj ps)] fz h) (En : Ents fz L xs) :
    wpC (model PG w) A (exec (lawSt 2) (envW L a cd)) (fun f s' => f = .next ∧ ∃ h' tk' fz' F k vs k2, s' = St s₀ h' tk' ∧ Sit [] h₀ L (fun y => if y = ("told" : Str) then some (.ref F) else m y) [(67, tabObj ps)] fz' h' ∧
      (∀ a o, fz a o → fz' a o) ∧ fz' F (lstO (inserted (ltV k2) vs) k) ∧ All2 (ToldIs fz' xs) vs (List.range xs.length) ∧ (∀ (i : Nat) (v : Value), vs[i]? = some v → k2 v = (entN xs i).key)) NoE (St s₀ h tk) := by
  obtain ⟨o₃, D, es, k, c1, c2, c3, c4⟩ := En
  have hlen := c4.length
  refine wpC.asg ?_
  refine callC ?_
  refine eGlobG T B S T.hIns.1 ⟨79, rfl, ?_⟩
  refine compS (X := []) (h₀ := h₀) (L := L) (s₀ := s₀) (cl := [("entries", L + 1)]) rfl (by decide) rfl (by decide) rfl ?_
  refine rangeLen T B S c1 c2 c3 (by omega) fun I h₂ tk₂ S₂ => ?_
  refine ⟨I, es.length, _, _, [], h₂, tk₂, _, _, _, _, fun i ys fz => All2 (ToldIs fz xs) ys (List.range i), rfl, rfl, S₂, Itr.range hh I es.length, by omega, rfl, (fun p hp => nomatch hp), .nil, ?_, ?_⟩
  · rintro i v C D' o k' ys oL m' fz₄ h₄ tk₄ hi ⟨t, rfl⟩ hys j hf hL hIo S
    obtain ⟨ev, he, De, Ke, ks, ke, te, rfl, q1, q2, q3⟩ := ents_at c4 hi
    refine .of ?_
    refine Tuple_ ?_
    refine splE ?_
    with_reducible refine Subscript_ (Subscript_ ?_)
    refine eCellG S (hf _ _ c1) c2 ?_
    refine eLocG S rfl ?_
    refine subList (S.get (hf _ _ c3)) (by omega) (by omega) (by simpa using he) ?_
    with_reducible refine eInt fun _ _ => ?_
    refine subTup (S.get (hf _ _ q1)) (k := 0) rfl (by decide) ?_
    refine splE ?_
    refine eLocG S rfl ?_
    refine splE ?_
    with_reducible refine Subscript_ (Subscript_ ?_)
    refine eCellG S (hf _ _ c1) c2 ?_
    refine eLocG S rfl ?_
    refine subList (S.get (hf _ _ c3)) (by omega) (by omega) (by simpa using he) ?_
    with_reducible refine eInt fun _ _ => ?_
    refine subTup (S.get (hf _ _ q1)) (k := 1) rfl (by decide) ?_
    refine splN ?_
    refine newTupS S fun a₆ h₆ _ _ S₆' => ?_
    have S₆ := S₆'.freeze
    refine ⟨h₆, _, _, _, oL.slots, rfl, S₆, (fun a o q => .inl q), ?_⟩
    show All2 _ _ (List.range (i + 1))
    rw [List.range_succ]
    exact (j.mono fun _ _ q => q.mono fun a o q => .inl q).snoc ⟨a₆, Ke, ks, ke, t, te, rfl, .inr ⟨rfl, rfl⟩, .inl (hf _ _ q2), q3.mono fun _ _ q => q.mono fun a o q => .inl (hf _ _ q)⟩
  · intro D' k' ys fz₄ h₄ tk₄ hys j hf S'
    have S₄ := S'.freeze
    refine ⟨S₄.hasFn B T.hIns, .of ?_⟩
    have jt : All2 (TopIs (fun a o => h₄.get? a = some o) xs) ys (List.range es.length) := j.mono fun _ _ q => q.top.mono fun a o q => S₄.get (.inl q)
    obtain ⟨k2, hk2⟩ := key_fun (vs := ys) (fun i => (entN xs i).key) (tops_inj jt)
    refine inserted_ok (w := w) (key := k2) T (fun b o e => S₄.F.keep _ _ (B _ _ e)) (by omega) (by omega) hh (S₄.get (.inr ⟨rfl, rfl⟩)) (by omega) (fun v hv => ?_) fun F kF h₅ tk₅ kp _ e5 => ?_
    · obtain ⟨i, e⟩ := List.mem_iff_getElem?.mp hv
      obtain ⟨i', r, q⟩ := all2_get j e
      obtain ⟨rfl, _⟩ := range_get r
      rw [hk2 _ _ e]
      obtain ⟨b, K, ks, kn, t, t', rfl, q1, q2, q3⟩ := q
      exact ⟨b, K, _, ks, kn, rfl, S₄.get (.inl q1), S₄.get (.inl q2), q3.mono fun _ _ q => q.mono fun a o q => S₄.get (.inl q), key_compat _⟩
    · have S₅ := (S₄.call kp).more (g := fun a o => a = F ∧ o = lstO (inserted (ltV k2) ys) kF) (by
        rintro a o ⟨rfl, rfl⟩
        refine ⟨e5, fun p hp e => ?_, fun es ep e => by cases e⟩
        obtain rfl := List.mem_singleton.mp hp
        cases e)
      refine stG S₅ fun h₆ tk₆ S₆ => ⟨rfl, h₆, tk₆, _, F, kF, ys, k2, rfl, S₆, (fun a o q => .inl (.inl (.inl (hf _ _ q)))), .inr ⟨rfl, rfl⟩, ?_, hk2⟩
      rw [← hlen]
      exact j.mono fun _ _ q => q.mono fun a o q => .inl (.inl (.inl q))

/-- v is the pair (place, version) of j -/
def OutIs (fz : Addr → Obj → Prop) (xs : List Int) (v : Value) (i : Nat) : Prop := ∃ a t t', v = .ref a ∧ fz a (tupO [.int i t, .str (entN xs i).ver t'])
theorem OutIs.mono {f g : Addr → Obj → Prop} (hf : ∀ a o, f a o → g a o) {xs : List Int} {v : Value} {i : Nat} (e : OutIs f xs v i) : OutIs g xs v i :=
  let ⟨a, t, t', e, q1⟩ := e; ⟨a, t, t', e, hf _ _ q1⟩
theorem outs_eq {xs : List Int} : ∀ {is : List Nat} {vs us : List Value}, All2 (OutIs (fun a o => h.get? a = some o) xs) vs is → All2 (OutIs (fun a o => h.get? a = some o) xs) us is → AllEq 4 w h vs us
  | [], _, _, x, y => by cases x; cases y; exact .nil
  | i :: is, _, _, x, y => by
    cases x with
    | cons x1 x =>
    cases y with
    | cons y1 y =>
    obtain ⟨a1, t1, t1', rfl, q1⟩ := x1
    obtain ⟨a2, t2, t2', rfl, q2⟩ := y1
    refine .cons ?_ (outs_eq x y)
    have := eqTup (w := w) (k := ((i : Int), .inr (entN xs i).ver)) (l := ((i : Int), .inr (entN xs i).ver)) q1 q2 ⟨_, rfl⟩ ⟨_, rfl⟩ (fun _ => rfl)
    rw [decide_eq_true rfl] at this
    exact this

set_option maxHeartbeats 4000000 in
/-- [item[1:] for item in x] -/
theorem outsC {x : Str} {np px sp p3 p4 : Pos} {cp : Pos} {c : Nat} {pos : Pos} {scope : Scope} {F : Addr} {k : Nat} {vs : List Value} {is : List Nat} {Q : Value → Shared → Prop} (hh : A.handled = none)
    (S : Sit [] h₀ L m [(67, tabObj ps)] fz h) (hm : m x = some (.ref F)) (hF : fz F (lstO vs k)) (hvs : vs.length ≤ 1000) (hit : All2 (TopIs fz xs) vs is)
    (hsc : scope = ⟨.function, [(".0", .local), ("item", .local)], false, false, []⟩) (hxl : (envW L a cd).kindOf x = some .local) (hxd : (x == ("__debug__" : Str)) = false)
    (hfold : ∀ v, foldedSetIterable (.Name x np) (envW L a cd) v = pure v)
    (q : ∀ D k ys fz' h' tk', Sit [] h₀ L m [(67, tabObj ps)] fz' h' → (∀ a o, fz a o → fz' a o) → fz' D (lstO ys k) → All2 (OutIs fz' xs) ys is → Q (.ref D) (St s₀ h' tk')) :
    wpC (model PG w) A (eval (.ListComp (.Subscript (.Name "item" px) (.Slice (some (.Constant (.int 1) c cp)) none none sp) p3) [⟨.Name "item" p4, .Name x np, [], 0⟩] scope pos) (envW L a cd)) Q NoE (St s₀ h tk) := by
  subst hsc
  refine compS (X := []) (h₀ := h₀) (L := L) (s₀ := s₀) (cl := []) rfl (by decide) rfl (by decide) rfl ?_ hfold
  refine eLocG S hm ?_ rfl rfl hxl hxd
  refine wpAny_pyIter_list (isList_of (S.get hF)) ?_
  have S₂ := S.push { cls := .type "list_iterator", data := .fields #[.ref F, .int 0 0] }
  have hl := hit.length
  refine ⟨h.objs.size, _, _, _, _, _, _, _, _, _, _, fun i ys fz => All2 (OutIs fz xs) ys (is.take i), rfl, rfl, S₂, Itr.list hh _ F vs k, hvs, ⟨rfl, rfl⟩, (fun p hp => by obtain rfl := List.mem_singleton.mp hp; exact hF), .nil, ?_, ?_⟩
  · intro i v C D' o k' ys oL m' fz₄ h₄ tk₄ hi hP hys j hf hL hIo S
    obtain ⟨n, hn, b, K, t, t', rfl, q1⟩ := all2_get hit hP
    refine .of ?_
    refine tupFrom1 (s₀ := s₀) (l := b) (vs := [.ref K, .int n t, .str (entN xs n).ver t']) (show 3 ≤ 1000 by decide) (show 1 ≤ 3 by decide) ?_
    refine eLocG S rfl ⟨rfl, h₄, tk₄, _, _, _, _, _, _, rfl, S, S.get (hf _ _ q1), fun a₅ h₅ tk₅ S₅' => ?_⟩
    have S₅ := S₅'.freeze
    refine ⟨h₅, tk₅, _, _, oL.slots, rfl, S₅, (fun a o q => .inl q), ?_⟩
    show All2 _ _ (is.take (i + 1))
    rw [List.take_add_one, hn]
    exact (j.mono fun _ _ q => q.mono fun a o q => .inl q).snoc ⟨a₅, t, t', rfl, .inr ⟨rfl, rfl⟩⟩
  · intro D k' ys fz₄ h₄ tk₄ hys j hf S'
    have S₄ := S'.freeze
    rw [hl, List.take_length] at j
    exact q D k' ys _ h₄ tk₄ S₄ (fun a o q => .inl (hf _ _ q)) (.inr ⟨rfl, rfl⟩) (j.mono fun _ _ q => q.mono fun a o q => .inl q)

set_option maxHeartbeats 4000000 in
/-- return .. == .. -/
theorem law4 {F1 F2 : Addr} {k1 k2 : Nat} {vs us : List Value} {is : List Nat} {Q : Flow → Shared → Prop} (hun : A.units + 400 < cLine) (hh : A.handled = none) (S : Sit [] h₀ L m [(67, tabObj ps)] fz h)
    (m1 : m "found" = some (.ref F1)) (m2 : m "told" = some (.ref F2)) (f1 : fz F1 (lstO vs k1)) (f2 : fz F2 (lstO us k2)) (hl : is.length ≤ 1000) (i1 : All2 (TopIs fz xs) vs is) (i2 : All2 (TopIs fz xs) us is)
    (q : ∀ h' tk', (∀ b o, h₀.get? b = some o → h'.get? b = some o) → h'.get? 67 = some (tabObj ps) → Q (.ret (.bool true)) (St s₀ h' tk')) :
    wpC (model PG w) A (exec (lawSt 3) (envW L a cd)) Q NoE (St s₀ h tk) := by
  have l1 := i1.length
  have l2 := i2.length
  refine retC ?_
  refine cmp1C ?_
  refine outsC (s₀ := s₀) hh S m1 f1 (by omega) i1 rfl rfl (by decide) (fun _ => rfl) fun D1 d1 ys fz₁ h₁ tk₁ S₁ hf₁ e1 j1 => ?_
  refine outsC (s₀ := s₀) hh S₁ m2 (hf₁ _ _ f2) (by omega) (i2.mono fun _ _ q => q.mono hf₁) rfl rfl (by decide) (fun _ => rfl) fun D2 d2 zs fz₂ h₂ tk₂ S₂ hf₂ e2 j2 => ?_
  refine cmpEq_list (c := 4) (S₂.get (hf₂ _ _ e1)) (S₂.get e2) (outs_eq (j1.mono fun _ _ q => q.mono fun a o q => S₂.get (hf₂ _ _ q)) (j2.mono fun _ _ q => q.mono fun a o q => S₂.get q)) (by omega) fun tk₃ => ?_
  exact q h₂ tk₃ S₂.F.keep (S₂.ownGet (.head _))
end
end Mj
end

section
open PySem PySem.W PyProof.Rows
namespace Mj
theorem all2_map {R : Value → Nat → Prop} {u : Nat → Value} : ∀ {is : List Nat}, (∀ j ∈ is, R (u j) j) → All2 R (is.map u) is
  | [], _ => .nil
  | j :: is, h => .cons (h j (.head _)) (all2_map fun i hi => h i (.tail _ hi))
theorem getD_of {vs : List Value} {i : Nat} {v : Value} (h : vs[i]? = some v) : vs.getD i .none = v := by rw [List.getD_eq_getElem?_getD, h]; rfl
theorem as_map {vs : List Value} {n : Nat} (h : vs.length = n) : vs = (List.range n).map fun i => vs.getD i .none := by
  subst h
  apply List.ext_getElem?
  intro i
  rw [List.getElem?_map]
  rcases Nat.lt_or_ge i vs.length with hi | hi
  · rw [List.getElem?_range hi, List.getElem?_eq_getElem hi, Option.map_some, getD_of (List.getElem?_eq_getElem hi)]
  · rw [List.getElem?_eq_none hi, List.getElem?_eq_none (by rw [List.length_range]; exact hi)]; rfl
section
variable {w : World} {A : Around} {s₀ : Shared} {h : Heap} {a sl : Addr} {mg mb : Str → Option Value} {hg : Heap} {tk : Nat} {pm cd doc : Value} {o : Obj} {svs : List Value} {ns : List Int} {Q : Value → Shared → Prop}

/-- law enters its frame -/
theorem enterLaw (T : Tp w hg mg mb) (hgn : hg.get? 67 = none) (B : Bs hg h) (hroom : A.depth < recursionLimit) (ho : h.get? a = some o) (hd : o.data = .func (Calls.docDef "law" (parOf (stAt 12)) (bodOf (stAt 12)) (scpOf (stAt 12)) pm cd doc)) (hcd : h.CodeRec cd "law") (ht : h.get? 67 = some (tabObj #[]))
    (q : ∀ h₁ tk oc, (∀ b o, h.get? b = some o → h₁.get? b = some o) → Bs hg (hideAll h [67]) → Sit [] (hideAll h [67]) h.objs.size (fun y => if y = ("script" : Str) then some (.ref sl) else none) [(67, tabObj #[]), (h.objs.size + 1, oc)] (fun _ _ => False) h₁ → oc.data = .cell none →
      wpC (model PG w) (A.deeper (envW h.objs.size a cd)) (execs (bodOf (stAt 12)) (envW h.objs.size a cd)) (fun f s' => Q (match f with | .ret v => v | _ => .none) s') NoE (St s₀ h₁ tk)) :
    wpC (model PG w) A (PySem.call (.ref a) [.ref sl]) Q NoE (St s₀ h tk) := by
  have BX := B.hide (X := [67]) fun a ha => by obtain rfl := List.mem_singleton.mp ha; exact hgn
  have h67 := Heap.lt_size ht
  refine .call (codeC.fn (s := St s₀ h tk) (fd := Calls.docDef "law" (parOf (stAt 12)) (bodOf (stAt 12)) (scpOf (stAt 12)) pm cd doc) (body := bodOf (stAt 12)) hroom ho hd rfl rfl rfl hcd ?_)
  rw [show bindArgs (Calls.docDef "law" (parOf (stAt 12)) (bodOf (stAt 12)) (scpOf (stAt 12)) pm cd doc) ⟨[.ref sl], []⟩ = pure [(("script" : Str), Value.ref sl)] from rfl]
  refine wpAny_pure (wpAny_newFunctionEnv_cells rfl (fun x hx => .inl (by obtain rfl := List.mem_singleton.mp hx; rfl)) fun env he s' x => ?_)
  subst he
  obtain ⟨h₁, tk₁, rfl, _⟩ := x.done
  have kp := x.toInCall.keep
  refine ⟨(T.nolimit.keeps B).keeps kp, ?_⟩
  obtain ⟨oc, hoc, hcd⟩ := x.cell "entries" (h.objs.size + 1) rfl
  have S : Sit [] (hideAll h [67]) h.objs.size (fun y => if y = ("script" : Str) then some (.ref sl) else none) [(67, tabObj #[]), (h.objs.size + 1, oc)] (fun _ _ => False) h₁ := by
    refine ⟨⟨x.toInCall.ns, fun b o e => kp b o (of_hideAll _ e), by rw [hideAll_size]; exact Nat.le_refl _⟩, (fun _ q => nomatch q), fun p hp => ?_, ?_, (fun _ _ q => q.elim)⟩
    · simp only [List.mem_cons, List.not_mem_nil, or_false] at hp
      rcases hp with rfl | rfl
      · exact ⟨kp _ _ ht, Nat.ne_of_lt h67, hideAll_none _ (.head _), fun q => nomatch q⟩
      · exact ⟨hoc, Nat.succ_ne_self _, Heap.get?_none_of_le (by rw [hideAll_size]; exact Nat.le_succ _), fun q => nomatch q⟩
    · simp only [List.map_cons, List.map_nil, List.nodup_cons, List.mem_singleton, List.not_mem_nil, not_false_eq_true, List.nodup_nil, and_true]
      exact Nat.ne_of_lt (Nat.lt_succ_of_lt h67)
  exact codeC.func (env := envW h.objs.size a cd) ((q h₁ tk₁ oc kp BX S hcd).mono (fun f s' r => r) fun _ _ r => r)

set_option maxHeartbeats 4000000 in
/-- law(script) answers True -/
theorem law_ok (T : Tp w hg mg mb) (hgn : hg.get? 67 = none) (B : Bs hg h) (hroom : A.depth + 150 < recursionLimit) (hun : A.units + 500 < cLine) (hh : A.handled = none) (hfr : A.frames = some []) (ho : h.get? a = some o) (hd : o.data = .func (Calls.docDef "law" (parOf (stAt 12)) (bodOf (stAt 12)) (scpOf (stAt 12)) pm cd doc)) (hcd : h.CodeRec cd "law") (ht : h.get? 67 = some (tabObj #[]))
    (hsl : h.IsList sl svs.toArray) (hI : IntsAre svs ns) (hlen : ns.length ≤ 63)
    (hQ : ∀ h' tk' ps', KeepBut [67] h h' → h'.get? 67 = some (tabObj ps') → Q (.bool true) (St s₀ h' tk')) :
    wpC (model PG w) A (PySem.call (.ref a) [.ref sl]) Q NoE (St s₀ h tk) := by
  refine enterLaw T hgn B (by omega) ho hd hcd ht fun h₁ tk₁ oc kp B₁ S₁ hoc => ?_
  have hd0 : (A.deeper (envW h.objs.size a cd)).depth = A.depth + 1 := rfl
  have hu0 : (A.deeper (envW h.objs.size a cd)).units = A.units + 3 := rfl
  have hfr' : (A.deeper (envW h.objs.size a cd)).frames = some [envW h.objs.size a cd] := by
    show A.frames.map _ = _
    rw [hfr]; rfl
  have hx12 := xsOf_len ns
  have hsl₁ : h₁.IsList sl svs.toArray := let ⟨o', e, r⟩ := hsl; ⟨o', kp _ _ e, r⟩
  have hsv := hI.length
  show wpC _ _ (execs [lawSt 0, lawSt 1, lawSt 2, lawSt 3] (envW h.objs.size a cd)) _ _ _
  refine cutC _ (law1 T B₁ (by omega) hh rfl hsl₁ (by omega) hI hoc S₁) ?_
  rintro _ ⟨h₂, tk₂, fz₂, o₃, D, es, k, rfl, S₂, c1, c2, c3, c4⟩
  have E₂ : Ents fz₂ h.objs.size (xsOf ns) := ⟨o₃, D, es, k, c1, c2, c3, c4⟩
  refine cutC _ (law2 T hgn B₁ (by omega) (by omega) hh hfr' hx12 S₂ E₂) ?_
  rintro _ ⟨h₃, tk₃, fz₃, ps₃, F1, n1, vs1, k1, rfl, S₃, hf₃, f1, a1, hk1⟩
  refine cutC _ (law3 T B₁ (by omega) (by omega) hh hx12 S₃ (E₂.mono hf₃)) ?_
  rintro _ ⟨h₄, tk₄, fz₄, F2, n2, vs2, k2, rfl, S₄, hf₄, f2, a2, hk2⟩
  have l1 := a1.length
  have l2 := a2.length
  rw [List.length_range] at l1 l2
  have g1 : ∀ i, i < (xsOf ns).length → vs1[i]? = some (vs1.getD i .none) ∧ TopIs fz₄ (xsOf ns) (vs1.getD i .none) i := fun i hi => by
    obtain ⟨v, e, q⟩ := a1.get (k := i) (b := i) (List.getElem?_range hi)
    rw [getD_of e]
    exact ⟨e, q.top.mono hf₄⟩
  have g2 : ∀ i, i < (xsOf ns).length → vs2[i]? = some (vs2.getD i .none) ∧ TopIs fz₄ (xsOf ns) (vs2.getD i .none) i := fun i hi => by
    obtain ⟨v, e, q⟩ := a2.get (k := i) (b := i) (List.getElem?_range hi)
    rw [getD_of e]
    exact ⟨e, q.top⟩
  obtain ⟨is, hi1, hi2, e1, e2⟩ := plain_law (keyOf := fun i => (entN (xsOf ns) i).key) (u := fun i => vs1.getD i .none) (v := fun i => vs2.getD i .none) (k1 := k1) (k2 := k2) (n := (xsOf ns).length) (k := (xsOf ns).length) (Nat.le_refl _)
    (fun i hi => hk1 i _ (g1 i hi).1) (fun i hi => hk2 i _ (g2 i hi).1) (fun i _ => key_compat _) (fun i _ => key_rank _)
  rw [← as_map l1] at e1
  rw [← as_map l2] at e2
  rw [e1] at f1
  rw [e2] at f2
  refine .cons ?_
  refine law4 (by omega) hh S₄ rfl rfl (hf₄ _ _ f1) f2 (by omega) (all2_map fun j hj => (g1 j (hi1 j hj)).2) (all2_map fun j hj => (g2 j (hi1 j hj)).2) fun h₅ tk₅ kp₅ t₅ => ?_
  exact hQ h₅ tk₅ ps₃ (fun b o hb e => kp₅ b o (hideAll_get _ e hb)) t₅
end
end Mj
end

section
open PySem PySem.W PyProof.Rows
namespace Mj
section
variable {w : World} {h h' : Heap} {mg mb : Str → Option Value}
theorem hide67 (e67 : h.get? 67 = some (tabObj #[])) {b : Addr} {o : Obj} (e : h.get? b = some o) (ho : o ≠ tabObj #[]) : (hideAll h [67]).get? b = some o :=
  hideAll_get _ e fun q => by
    obtain rfl := List.mem_singleton.mp q
    rw [e67] at e
    cases e
    exact ho rfl
theorem ns67 (e67 : h.get? 67 = some (tabObj #[])) {a : Addr} {m : Str → Option Value} (x : h.Ns a m) : (hideAll h [67]).Ns a m :=
  let ⟨o, es, ep, e, hd, r⟩ := x; ⟨o, es, ep, hide67 e67 e (by intro q; subst q; cases hd), hd, r⟩
theorem rec67 (e67 : h.get? 67 = some (tabObj #[])) {cd : Value} {q : Str} (x : h.CodeRec cd q) : (hideAll h [67]).CodeRec cd q := by
  obtain ⟨c, o, vs, t, rfl, e, hd, hv⟩ := x
  refine ⟨c, o, vs, t, rfl, hide67 e67 e ?_, hd, hv⟩
  intro q
  subst q
  cases hd
  cases hv
theorem fn67 (e67 : h.get? 67 = some (tabObj #[])) {i : Nat} {name : Str} {a : Addr} (x : FnAt h mg i name a) : FnAt (hideAll h [67]) mg i name a := by
  obtain ⟨g, o, pm, cd, e, hd, hc⟩ := x
  exact ⟨g, o, pm, cd, hide67 e67 e (by intro q; subst q; cases hd), hd, rec67 e67 hc⟩
/-- the table of the code hidden, the base stands -/
theorem Tp.hide (T : Tp w h mg mb) (e67 : h.get? 67 = some (tabObj #[])) : Tp w (hideAll h [67]) mg mb where
  g := ns67 e67 T.g
  b := ns67 e67 T.b
  nolimit := let ⟨mc, x, y⟩ := T.nolimit; ⟨mc, ns67 e67 x, y⟩
  nodigits := let ⟨mc, x, y⟩ := T.nodigits; ⟨mc, ns67 e67 x, y⟩
  builtins := T.builtins
  hVer := fn67 e67 T.hVer
  hSplit := fn67 e67 T.hSplit
  hCodes := fn67 e67 T.hCodes
  hEntry := fn67 e67 T.hEntry
  hParted := fn67 e67 T.hParted
  hIns := fn67 e67 T.hIns
  partedC := let ⟨o, pm, e, hd, hc⟩ := T.partedC; ⟨o, pm, hide67 e67 e (by intro q; subst q; cases hd), hd, rec67 e67 hc⟩
  codeHd := let ⟨o, vs, a, b, c, d, f, g, i, e, r⟩ := T.codeHd; ⟨o, vs, a, b, c, d, f, g, i, hideAll_get _ e (by decide), r⟩
  bmain := let ⟨bm, ob, a, b, e, hc, r⟩ := T.bmain; ⟨bm, ob, a, b, hide67 e67 e (by intro q; subst q; cases hc), hc, r⟩
  gPat := T.gPat
  gStages := T.gStages
  pat := let ⟨v0, v1, e⟩ := T.pat; ⟨v0, v1, hideAll_get _ e (by decide)⟩
  code := let ⟨xs, e, r⟩ := T.code; ⟨xs, hideAll_get _ e (by decide), r⟩
  stages := hideAll_get _ T.stages (by decide)
  nLen := T.nLen
  nStr := T.nStr
  nInt := T.nInt
  nRange := T.nRange
  nVE := T.nVE
/-- what the law's call does to the heap -/
theorem old67 (T : Tp w h mg mb) (e67 : h.get? 67 = some (tabObj #[])) {ps : Array Value} (k : KeepBut [67] h h') (e : h'.get? 67 = some (tabObj ps)) : OldK h h' := by
  have ht : isCodeTable h 67 := by
    obtain ⟨o, vs, a, b, c, d, f, g, i, e, hc, hd, hv, _⟩ := T.codeHd
    exact ⟨71, o, vs, e, hc, hd, hv⟩
  refine ⟨fun b o eb => ?_, fun b o eb => ?_⟩
  · by_cases hb : b = 67
    · subst hb
      rw [e67] at eb
      cases eb
      exact .inr (.inl ⟨ht, rfl, #[], ps, rfl, by rw [e]; simp⟩)
    · exact .inl (k b o (by simpa using hb) eb)
  · by_cases hb : b = 67
    · subst hb; exact ⟨_, e⟩
    · exact ⟨o, k b o (by simpa using hb) eb⟩
/-- the law's call, from the claim's own caller -/
theorem law_caller {s₁ : Shared} {a sl : Addr} {o : Obj} {pm cd doc dV kV : Value} {svs : List Value} {ns : List Int} {c : ClaimW} {cl : Str → Option Addr} {mean : ExcName → Option Value} {args : List WData}
    (T : Tp w s₁.heap mg mb) (e67 : s₁.heap.get? 67 = some (tabObj #[])) (hgens : s₁.gens = #[]) (ho : s₁.heap.get? a = some o)
    (hd : o.data = .func { Calls.docDef "law" (parOf (stAt 12)) (bodOf (stAt 12)) (scpOf (stAt 12)) pm cd doc with defaults := dV, kwdefaults := kV }) (hD : Dflts mg s₁.heap (parOf (stAt 12)) [] dV kV) (hcd : s₁.heap.CodeRec cd "law")
    (hsl : s₁.heap.IsList sl svs.toArray) (hI : IntsAre svs ns) (hlen : ns.length ≤ 63) (hn : ∀ cls, c.raises args cls = false) (hp : c.post args (.bool true) args = true) (p : Pos) :
    Sem.wp (model PG w) Ctx0 (PySem.call (.ref a) [.ref sl]) (fun v _ s' => GoodWG c cl mean args s₁ (.ok (.ret v)) s') (fun e _ s' => GoodWG c cl mean args s₁ (.error e) s') p s₁ := by
  obtain ⟨_, rfl⟩ : (parOf (stAt 12)).defaults = [] ∧ dV = .none := by
    rcases hD.pos with x | x
    · exact x
    · exact absurd rfl x.1
  obtain ⟨_, rfl⟩ : ([] : List (Str × Expr)) = [] ∧ kV = .none := by
    rcases hD.kw with x | x
    · exact x
    · exact absurd rfl x.1
  have B : Bs (hideAll s₁.heap [67]) s₁.heap := fun b o e => of_hideAll _ e
  have W : wpC (model PG w) callerA (PySem.call (.ref a) [.ref sl]) (fun v s' => GoodWG c cl mean args s₁ (.ok (.ret v)) s') NoE (St s₁ s₁.heap s₁.toks) := by
    refine law_ok (A := callerA) (T.hide e67) (hideAll_none _ (.head _)) B (by decide) (by decide) rfl rfl ho hd hcd e67 hsl hI hlen fun h' tk' ps' k e => ?_
    exact ⟨.inl ⟨.bool true, .bool true, [], rfl, hn, .bool true, hp, unshared_nil⟩, old67 T e67 k e, rfl, .of_eq hgens⟩
  exact Sem.wp_mono _ _ _ (fun v p' s' q => q) (fun e p' s' q => q.elim) _ _ (W Ctx0 p caller_in (.inl rfl))
end
end Mj
end

section
open PySem PySem.W PyProof.Rows
set_option maxHeartbeats 8000000
namespace Mj
open_top hd for PySem.Challenge.rw_mj0051_01
end Mj
end

section
open PySem PySem.W PyProof.Rows
set_option maxHeartbeats 8000000
namespace Mj
theorem tp_of {w : World} {hg : Heap} {mg mb} {p l mean} (T : Top p l mean mg mb hg) (X : (hd.heap_39 w.params).In hg) : Tp w hg mg mb where
  g := T.g
  b := T.b
  nolimit := T.nolimit
  nodigits := T.nodigits
  builtins := T.builtins
  hVer := ⟨mg_of X T.g rfl, _, _, _, X 44 _ rfl, rfl, ⟨_, _, _, _, rfl, X 43 _ rfl, rfl, rfl⟩⟩
  hSplit := ⟨mg_of X T.g rfl, _, _, _, X 51 _ rfl, rfl, ⟨_, _, _, _, rfl, X 50 _ rfl, rfl, rfl⟩⟩
  hCodes := ⟨mg_of X T.g rfl, _, _, _, X 58 _ rfl, rfl, ⟨_, _, _, _, rfl, X 57 _ rfl, rfl, rfl⟩⟩
  hEntry := ⟨mg_of X T.g rfl, _, _, _, X 65 _ rfl, rfl, ⟨_, _, _, _, rfl, X 64 _ rfl, rfl, rfl⟩⟩
  hParted := ⟨mg_of X T.g rfl, _, _, _, X 72 _ rfl, rfl, ⟨_, _, _, _, rfl, X 71 _ rfl, rfl, rfl⟩⟩
  hIns := ⟨mg_of X T.g rfl, _, _, _, X 79 _ rfl, rfl, ⟨_, _, _, _, rfl, X 78 _ rfl, rfl, rfl⟩⟩
  partedC := ⟨_, _, X 72 _ rfl, rfl, ⟨_, _, _, _, rfl, X 71 _ rfl, rfl, rfl⟩⟩
  codeHd := ⟨_, _, _, _, _, _, _, _, _, X 71 _ rfl, rfl, rfl, rfl, rfl, rfl, rfl, rfl, rfl, by decide⟩
  bmain := T.bmain
  gPat := mg_of X T.g rfl
  gStages := mg_of X T.g rfl
  pat := ⟨_, _, X 36 _ rfl⟩
  code := ⟨_, X 35 _ rfl, by simp only [List.map_toArray]; rfl⟩
  stages := X 37 _ rfl
  nLen := mg_none_of X T.g rfl
  nStr := mg_none_of X T.g rfl
  nInt := mg_none_of X T.g rfl
  nRange := mg_none_of X T.g rfl
  nVE := mg_none_of X T.g rfl
end Mj
end

open PySem PySem.W PyProof.Rows Mj
set_option maxHeartbeats 8000000 in
theorem PySem.Challenge.cw_mj0051_01_holds : PySem.Challenge.rw_mj0051_01.Holds := by
  w_on
  o_law
  refine holds_caller (XP := XL hd.view_39 []) (LeftO.of_split "special-get-raises" hd._proof_42) (Hook.of _) (Hook.keeps _) (fun s e => xl_of s (Bool.and_eq_true_iff.mp e).1) XL.keeps (by rfl) (by rfl) (by rfl) (fun s e => recFacts_of (Bool.and_eq_true_iff.mp e).2) (by rfl) (by first | assumption | decide +kernel) (by decide +kernel) ⟨rfl, rfl, rfl, rfl, rfl, by decide +kernel⟩ ?hw ?hc
  case hw => w_witness2
  case hc =>
    intro w s₀ s₁ mg mb G Y fa o pm cd doc dV kV ho hd hcd hD hmg hg args vals as hpre hlay hrd hwl hlo p
    have KX := km_in_of Y
    have KT := km_tabs_of Y
    have TT := tp_of (Ground.T G) KX
    revert p
    wrow_args hpre hlay hrd hwl hlo
    rename_i ns _ _ _ _ _ _ _ sl svs _ hsl _ _ _ hI _ hlen _
    intro p
    refine law_caller (ns := ns) TT (KT 67 (.head _)) hg ho hd hD hcd hsl hI (by omega) (fun _ => rfl) ?_ p
    first
      | exact postW_of (by wrow_shape) (w_eq_bool (w_res rfl) w_lit) (by rfl)
      | exact postW_of (by wrow_shape) (by wtm_val) (by w_fin)
