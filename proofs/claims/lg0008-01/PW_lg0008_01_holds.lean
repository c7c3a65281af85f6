import PyProof.Rows.All
import Wide.All
import OpenK.AllK
import Wide.FinOn
import PySem.Challenge.RW_lg0008_01
set_option Elab.async false
set_option linter.unusedVariables false
section
set_option maxRecDepth 100000
namespace Mine
open PySem PySem.W PySem.Calls PyProof.Rows

/-! ### the set of two texts: where it is laid -/
theorem below_nil (j : Nat) : SetTable.below #[] j = 0 := rfl
theorem below_one (j0 j : Nat) : SetTable.below #[j0] j = if j0 < j then 1 else 0 := by
  show SetTable.below.go #[j0] j 1 0 1 = _
  simp only [SetTable.below.go]
  by_cases h : j0 < j <;> simp [h]

theorem slot_one {j0 f m : Nat} {l p : Bool} (j : Nat) : (SetTable.mk 7 #[j0] #[] f l m p).slot j = if j0 = j then .live 0 else .empty := by
  unfold SetTable.slot
  dsimp only
  rw [below_one]
  by_cases h : j0 = j
  · subst h; simp
  · by_cases h' : j0 < j
    · simp [h, h', SetTable.has, below_nil]
    · simp [h, h', SetTable.has, below_nil]

theorem go_one {j0 f m : Nat} {l pl : Bool} {hashAt : Nat → Int} {h : Int} (hh : ∀ i, (hashAt i == h) = false) :
    ∀ (k fuel : Nat) (p : SetTable.Probe), p.perturb < 32 ^ k → k + 2 ≤ fuel → p.more = 0 → p.dummy = none → p.j = p.i →
      ∃ j, j ≠ j0 ∧ SetTable.probe.go (SetTable.mk 7 #[j0] #[] f l m pl) hashAt h fuel p = some (.empty j none) := by
  have adv : ∀ p : SetTable.Probe, p.more = 0 → (SetTable.mk 7 #[j0] #[] f l m pl).advance p =
      { p with j := (p.i * 5 + 1 + p.perturb / 32) % 8, more := 0, i := (p.i * 5 + 1 + p.perturb / 32) % 8, perturb := p.perturb / 32 } := by
    intro p hp
    unfold SetTable.advance
    rw [if_neg (by rw [hp]; exact Nat.lt_irrefl 0)]
    simp only [SetTable.leap]
    have e : SetTable.runEnd 7 ((p.i * 5 + 1 + p.perturb / 32) % (7 + 1)) = (p.i * 5 + 1 + p.perturb / 32) % (7 + 1) := by
      unfold SetTable.runEnd
      rw [if_neg (by omega)]
    rw [e, Nat.sub_self]
  intro k
  induction k with
  | zero =>
    intro fuel p h1 h2 h3 h4 h5
    obtain ⟨fuel, rfl⟩ : ∃ n, fuel = n + 2 := ⟨fuel - 2, by omega⟩
    have hz : p.perturb = 0 := by simpa using h1
    by_cases e : j0 = p.j
    · refine ⟨(p.i * 5 + 1) % 8, by omega, ?_⟩
      simp only [SetTable.probe.go, slot_one, if_pos e, hh, Bool.false_eq_true, if_false, adv p h3, hz, h4]
      rw [if_neg (by omega)]
    · refine ⟨p.j, fun q => e q.symm, ?_⟩
      simp only [SetTable.probe.go, slot_one, if_neg e, h4]
  | succ k ih =>
    intro fuel p h1 h2 h3 h4 h5
    obtain ⟨fuel, rfl⟩ : ∃ n, fuel = n + 1 := ⟨fuel - 1, by omega⟩
    by_cases e : j0 = p.j
    · obtain ⟨j, hj, hg⟩ := ih fuel { p with j := (p.i * 5 + 1 + p.perturb / 32) % 8, more := 0, i := (p.i * 5 + 1 + p.perturb / 32) % 8, perturb := p.perturb / 32 }
        (by show p.perturb / 32 < 32 ^ k; rw [Nat.pow_succ] at h1; exact Nat.div_lt_of_lt_mul (by omega)) (by omega) rfl h4 rfl
      refine ⟨j, hj, ?_⟩
      simp only [SetTable.probe.go, slot_one, if_pos e, hh, Bool.false_eq_true, if_false, adv p h3]
      exact hg
    · refine ⟨p.j, fun q => e q.symm, ?_⟩
      simp only [SetTable.probe.go, slot_one, if_neg e, h4]

theorem bits_lt (h : Int) : SetTable.bits h < 32 ^ 13 := by
  unfold SetTable.bits
  have := Int.emod_lt_of_pos h (show (0 : Int) < 2 ^ 64 by decide)
  have := Int.emod_nonneg h (show (2 ^ 64 : Int) ≠ 0 by decide)
  omega

theorem runEnd7 (i : Nat) : SetTable.runEnd 7 i = i := by unfold SetTable.runEnd; rw [if_neg (by omega)]

theorem free_one {j0 f m : Nat} {l p : Bool} (h : Int) : ∃ j, j ≠ j0 ∧ (SetTable.mk 7 #[j0] #[] f l m p).freeSlot h = some (j, false) := by
  obtain ⟨j, hj, e⟩ := go_one (j0 := j0) (f := f) (m := m) (l := l) (pl := p) (hashAt := fun _ => h + 1) (h := h) (fun _ => by simpa using (by omega : ¬ h + 1 = h)) 13 220
    ((SetTable.mk 7 #[j0] #[] f l m p).probeStart h) (bits_lt h) (by omega) (by show SetTable.runEnd 7 _ - _ = 0; rw [runEnd7]; exact Nat.sub_self _) rfl rfl
  refine ⟨j, hj, ?_⟩
  unfold SetTable.freeSlot SetTable.probe
  rw [show 10 * SetTable.turns (SetTable.mk 7 #[j0] #[] f l m p).mask = 220 from rfl, e]
  rfl

noncomputable def slot2 (j0 : Nat) (h : Int) : Nat := (((SetTable.mk 7 #[j0] #[] 0 false 0 false).freeSlot h).map (·.1)).getD 0

theorem go_same {j0 f m f' m' : Nat} {l p l' p' : Bool} {hashAt : Nat → Int} {h : Int} : ∀ (fuel : Nat) (q : SetTable.Probe),
    SetTable.probe.go (SetTable.mk 7 #[j0] #[] f l m p) hashAt h fuel q = SetTable.probe.go (SetTable.mk 7 #[j0] #[] f' l' m' p') hashAt h fuel q
  | 0, _ => rfl
  | fuel + 1, q => by
    simp only [SetTable.probe.go, slot_one]
    by_cases e : j0 = q.j
    · simp only [if_pos e]
      by_cases e' : (hashAt 0 == h) = true
      · simp only [e', if_true]; rfl
      · simp only [e', if_false, Bool.false_eq_true]
        exact go_same fuel _
    · simp only [if_neg e]

theorem free_same {j0 f m f' m' : Nat} {l p l' p' : Bool} (h : Int) : (SetTable.mk 7 #[j0] #[] f l m p).freeSlot h = (SetTable.mk 7 #[j0] #[] f' l' m' p').freeSlot h := by
  unfold SetTable.freeSlot SetTable.probe
  rw [show 10 * SetTable.turns (SetTable.mk 7 #[j0] #[] f l m p).mask = 220 from rfl, go_same (f' := f') (m' := m') (l' := l') (p' := p')]
  rfl

theorem slot2_ne (j0 : Nat) (h : Int) : slot2 j0 h ≠ j0 := by
  obtain ⟨j, hj, e⟩ := free_one (j0 := j0) (f := 0) (m := 0) (l := false) (p := false) h
  unfold slot2
  rw [e]
  exact hj

theorem layNew_one {j0 f m : Nat} {l p : Bool} {e0 : Int × Value} {h : Int} {x : Value} : layNew (SetTable.mk 7 #[j0] #[] f l m p) #[e0] h x =
    (⟨[cond (decide (j0 < slot2 j0 h)) e0 (h, x), cond (decide (j0 < slot2 j0 h)) (h, x) e0]⟩,
     SetTable.mk 7 ⟨[cond (decide (j0 < slot2 j0 h)) j0 (slot2 j0 h), cond (decide (j0 < slot2 j0 h)) (slot2 j0 h) j0]⟩ #[] f l m p, false, false) := by
  obtain ⟨j, hj, e⟩ := free_one (j0 := j0) (f := f) (m := m) (l := l) (p := p) h
  have es : slot2 j0 h = j := by
    unfold slot2
    rw [free_same (f' := f) (m' := m) (l' := l) (p' := p), e]; rfl
  rw [es]
  unfold layNew
  rw [e]
  dsimp only
  unfold SetTable.put
  dsimp only
  rw [below_one]
  by_cases q : j0 < j
  · rw [if_pos q, decide_eq_true q]
    simp [SetTable.insertAt, SetTable.orStandIn, SetTable.fits, SetTable.fill, SetTable.has, below_nil]
  · rw [if_neg q, decide_eq_false q]
    simp [SetTable.insertAt, SetTable.orStandIn, SetTable.fits, SetTable.fill, SetTable.has, below_nil]

theorem go_zero {f m : Nat} {l p : Bool} {hashAt : Nat → Int} {h : Int} (n : Nat) (q : SetTable.Probe) : SetTable.probe.go (SetTable.mk 7 #[] #[] f l m p) hashAt h (n + 1) q = some (.empty q.j q.dummy) := by
  have : ∀ j, (SetTable.mk 7 #[] #[] f l m p).slot j = .empty := fun j => by simp [SetTable.slot, SetTable.has, below_nil]
  simp only [SetTable.probe.go, this]
theorem layNew_zero {f m : Nat} {l p : Bool} {h : Int} {x : Value} : layNew (SetTable.mk 7 #[] #[] f l m p) #[] h x =
    (⟨[(h, x)]⟩, SetTable.mk 7 ⟨[SetTable.bits h % 8]⟩ #[] f l m p, false, false) := by
  unfold layNew
  have : (SetTable.mk 7 #[] #[] f l m p).freeSlot h = some (SetTable.bits h % 8, false) := by
    unfold SetTable.freeSlot SetTable.probe
    rw [show 10 * SetTable.turns (SetTable.mk 7 #[] #[] f l m p).mask = 219 + 1 from rfl, go_zero]
    rfl
  rw [this]
  simp [SetTable.put, below_nil, SetTable.insertAt, SetTable.orStandIn, SetTable.fits, SetTable.fill, SetTable.has]

/-- layNew, so said that it comes out for a table of none or one whatever the hash. -/
noncomputable def layQ (t : SetTable) (es : Array (Int × Value)) (h : Int) (x : Value) : Array (Int × Value) × SetTable × Bool × Bool :=
  match es, t with
  | ⟨[]⟩, ⟨7, ⟨[]⟩, ⟨[]⟩, f, l, m, p⟩ => (⟨[(h, x)]⟩, ⟨7, ⟨[SetTable.bits h % 8]⟩, ⟨[]⟩, f, l, m, p⟩, false, false)
  | ⟨[e0]⟩, ⟨7, ⟨[j0]⟩, ⟨[]⟩, f, l, m, p⟩ =>
    (⟨[cond (decide (j0 < slot2 j0 h)) e0 (h, x), cond (decide (j0 < slot2 j0 h)) (h, x) e0]⟩, ⟨7, ⟨[cond (decide (j0 < slot2 j0 h)) j0 (slot2 j0 h), cond (decide (j0 < slot2 j0 h)) (slot2 j0 h) j0]⟩, ⟨[]⟩, f, l, m, p⟩, false, false)
  | es, t => layNew t es h x

theorem layQ_eq (t : SetTable) (es : Array (Int × Value)) (h : Int) (x : Value) : layNew t es h x = layQ t es h x := by
  unfold layQ
  split
  · exact layNew_zero
  · exact layNew_one
  · rfl

noncomputable def scanQ : { f : Addr → Value → Int → Array (Int × Value) → SetTable → Sem (Option Bool) // setAddByScan = f } :=
  ⟨_, by
    funext a x h es t
    unfold setAddByScan
    simp only [layQ_eq]
    rfl⟩

end Mine
end

section
set_option maxRecDepth 100000
namespace Mine
open PySem PySem.W PySem.Calls PyProof.Rows

noncomputable def inQ : { f : Addr → Value → Int → Nat → Sem Bool // ∀ a x h n, setAddHashedIn a x h (n + 1) = f a x h n } :=
  ⟨_, fun a x h n => by
    unfold setAddHashedIn
    rw [scanQ.2]⟩
noncomputable def hashedQ : { f : Addr → Value → Int → Sem Bool // setAddHashed = f } :=
  ⟨_, by
    funext a x h
    unfold setAddHashed
    rw [inQ.2 a x h 99999]⟩
noncomputable def addQ : { f : Addr → Value → Sem Bool // setAdd = f } :=
  ⟨_, by
    funext a x
    unfold setAdd
    rw [hashedQ.2]⟩
noncomputable def loopQ : { f : Builtin // Builtin.«set.update.loop» = f } :=
  ⟨_, by
    unfold Builtin.«set.update.loop»
    rw [addQ.2]⟩
noncomputable abbrev twT : String → Option Builtin := PySem.W.Fast.tw14364793385576792824
theorem twT_eq : treeTable = twT := PySem.W.Fast.te14364793385576792824
noncomputable def tbQ (id : String) : Option Builtin := cond (id == "set.update.loop") (some loopQ.1) (twT id)
theorem tbQ_eq : treeTable = tbQ := by
  funext id
  unfold tbQ
  cases h : id == "set.update.loop" with
  | true =>
    rw [eq_of_beq h]
    show treeTable "set.update.loop" = some loopQ.1
    rw [← loopQ.2]
    kernel_rfl
  | false => exact congrFun twT_eq id
end Mine
end

section
set_option maxRecDepth 100000
set_option linter.unusedVariables false
namespace Mine
open PySem PySem.W PySem.Calls PyProof.Rows
noncomputable section

/-! ### the text's own statements -/
noncomputable abbrev pg : Program := PySem.Challenge.pw_lg0008_01
noncomputable def stm (i : Nat) : Stmt := pg.main.body.getD i (.Pass ⟨0, 0, 0, 0⟩)
noncomputable def fnP : Stmt → Arguments
  | .FunctionDef _ a _ _ _ _ _ _ _ _ => a
  | _ => ⟨[], [], none, [], [], none, []⟩
noncomputable def fnB : Stmt → List Stmt
  | .FunctionDef _ _ b _ _ _ _ _ _ _ => b
  | _ => []
noncomputable def fnS : Stmt → Scope
  | .FunctionDef _ _ _ _ _ _ s _ _ _ => s
  | _ => ⟨.module, [], false, false, []⟩
noncomputable def clsB : Stmt → List Stmt
  | .ClassDef _ _ _ b _ _ _ _ _ _ _ => b
  | _ => []
noncomputable def stmIn (i j : Nat) : Stmt := (clsB (stm i)).getD j (.Pass ⟨0, 0, 0, 0⟩)

/-! ### the objects that the top leaves (written by our own program) -/
noncomputable abbrev hashB (P : Params) : Int := PyData.keyHash P (Str.ofString " ")
noncomputable abbrev hashT (P : Params) : Int := PyData.keyHash P (Str.ofString "\t")
noncomputable abbrev slotB (P : Params) : Nat := SetTable.bits (hashB P) % 8
noncomputable abbrev slotT (P : Params) : Nat := slot2 (slotB P) (hashT P)
noncomputable abbrev entB (P : Params) : Int × Value := (hashB P, .str (Str.ofString " ") 198)
noncomputable abbrev entT (P : Params) : Int × Value := (hashT P, .str (Str.ofString "\t") 200)
noncomputable abbrev setObj (P : Params) : Obj := ⟨.type "set", none, .set ⟨[cond (decide (slotB P < slotT P)) (entB P) (entT P), cond (decide (slotB P < slotT P)) (entT P) (entB P)]⟩ 2
  ⟨7, ⟨[cond (decide (slotB P < slotT P)) (slotB P) (slotT P), cond (decide (slotB P < slotT P)) (slotT P) (slotB P)]⟩, #[], 0, !P.followText "set-order", 0, false⟩, #[]⟩
noncomputable abbrev obb11 (P : Params) : Obj := ⟨(.type "tuple"), none, (.seq #[] 0), #[]⟩
noncomputable abbrev obb12 (P : Params) : Obj := ⟨.none, none, (.fields #[]), #[]⟩
noncomputable abbrev obb13 (P : Params) : Obj := ⟨(.type "code"), none, (.fields #[(.str (Str.ofString "<module>") 182), (.str (Str.ofString "<module>") 183), (.str (Str.ofString "/claim/cut.py") 184), (.int 1 0), (.int 0 0), (.int 0 0), (.int 0 0), (.int 0 0), (.ref 11), (.bool false), (.int 181 0), (.ref 12), .none, .none, .none, .none, (.int 185 0), (.int 1 0), (.str (Str.ofString "/claim/cut.py") 186)]), #[]⟩
noncomputable abbrev obb14 (P : Params) : Obj := ⟨(.type "frame"), none, .plain, #[(some (.ref 13)), (some (.ref 3)), (some (.ref 3)), none, (some (.str (Str.ofString "__main__") 164)), none, (some (.ref 0))]⟩
noncomputable abbrev obs3 (P : Params) : Obj := ⟨(.type "dict"), none, (.dict #[⟨PyData.keyHash P (Str.ofString "__name__"), (.str (Str.ofString "__name__") 165), (.str (Str.ofString "cpy313.email._header_value_parser") 194)⟩, ⟨PyData.keyHash P (Str.ofString "__doc__"), (.str (Str.ofString "__doc__") 166), .none⟩, ⟨PyData.keyHash P (Str.ofString "__package__"), (.str (Str.ofString "__package__") 167), .none⟩, ⟨PyData.keyHash P (Str.ofString "__loader__"), (.str (Str.ofString "__loader__") 168), (.builtin "__main__.__loader__#opaque")⟩, ⟨PyData.keyHash P (Str.ofString "__spec__"), (.str (Str.ofString "__spec__") 169), .none⟩, ⟨PyData.keyHash P (Str.ofString "__annotations__"), (.str (Str.ofString "__annotations__") 170), (.ref 6)⟩, ⟨PyData.keyHash P (Str.ofString "__builtins__"), (.str (Str.ofString "__builtins__") 171), (.ref 4)⟩, ⟨PyData.keyHash P (Str.ofString "__file__"), (.str (Str.ofString "__file__") 173), (.str (Str.ofString "/claim/cut.py") 172)⟩, ⟨PyData.keyHash P (Str.ofString "__cached__"), (.str (Str.ofString "__cached__") 174), .none⟩, ⟨PyData.keyHash P (Str.ofString "_wall"), (.str (Str.ofString "_wall") 193), (.ref 21)⟩, ⟨PyData.keyHash P (Str.ofString "_WSP"), (.str (Str.ofString "_WSP") 197), (.str (Str.ofString " \t") 196)⟩, ⟨PyData.keyHash P (Str.ofString "WSP"), (.str (Str.ofString "WSP") 202), (.ref 22)⟩] 12), #[]⟩
noncomputable abbrev obs12 (P : Params) : Obj := ⟨.none, none, (.fields #[(.int 1 0), (.int 0 0), (.ref 20)]), #[]⟩
noncomputable abbrev obs15 (P : Params) : Obj := ⟨(.type "tuple"), none, (.seq #[] 0), #[]⟩
noncomputable abbrev obs16 (P : Params) : Obj := ⟨.none, none, (.fields #[]), #[]⟩
noncomputable abbrev obs17 (P : Params) : Obj := ⟨(.type "tuple"), none, (.seq #[(.str (Str.ofString "k") 190)] 0), #[]⟩
noncomputable abbrev obs18 (P : Params) : Obj := ⟨(.type "tuple"), none, (.seq #[] 0), #[]⟩
noncomputable abbrev obs19 (P : Params) : Obj := ⟨.none, none, (.func { name := (Str.ofString "_wall"), qualname := (Str.ofString "_wall"), params := fnP (stm 0), body := .stmts (fnB (stm 0)), scope := fnS (stm 0), globals := 0, closure := [], defaults := .none, kwdefaults := .none, doc := .none, pyModule := .none, annotations := none, code := .none, closureTuple := .none, builtins := 0 : FuncData}), #[]⟩
noncomputable abbrev obs20 (P : Params) : Obj := ⟨(.type "code"), none, (.fields #[(.str (Str.ofString "_wall") 187), (.str (Str.ofString "_wall") 188), (.str (Str.ofString "/claim/cut.py") 189), (.int 1 0), (.int 1 0), (.int 0 0), (.int 0 0), (.int 3 0), (.ref 15), (.bool true), (.int 181 0), (.ref 16), .none, (.ref 17), (.ref 18), (.ref 19), (.int 191 0), (.int 1 0), (.str (Str.ofString "/claim/cut.py") 192)]), #[]⟩
noncomputable abbrev obs21 (P : Params) : Obj := ⟨(.type "function"), none, (.func { name := (Str.ofString "_wall"), qualname := (Str.ofString "_wall"), params := fnP (stm 0), body := .stmts (fnB (stm 0)), scope := fnS (stm 0), globals := 3, closure := [], defaults := .none, kwdefaults := .none, doc := .none, pyModule := (.str (Str.ofString "__main__") 164), annotations := none, code := (.ref 20), closureTuple := .none, builtins := 0 : FuncData}), #[]⟩
noncomputable abbrev obs23 (P : Params) : Obj := ⟨(.type "str_ascii_iterator"), none, (.fields #[.none, (.int 2 0)]), #[]⟩
noncomputable abbrev obs24 (P : Params) : Obj := ⟨(.type "tuple"), none, (.seq #[] 0), #[]⟩
noncomputable abbrev obs25 (P : Params) : Obj := ⟨(.type "StopIteration"), none, (.fields #[(.ref 24), .none, .none, .none, (.bool false), .none]), #[]⟩
noncomputable abbrev obf2 (P : Params) : Obj := ⟨.none, none, (.dict #[⟨PyData.keyHash P (Str.ofString "type.__subclasses__.str.0"), (.str (Str.ofString "type.__subclasses__.str.0") 315), (.int 118 0)⟩, ⟨PyData.keyHash P (Str.ofString "type.__subclasses__.str.n"), (.str (Str.ofString "type.__subclasses__.str.n") 316), (.int 1 0)⟩] 2), #[]⟩
noncomputable abbrev obf3 (P : Params) : Obj := ⟨(.type "dict"), none, (.dict #[⟨PyData.keyHash P (Str.ofString "__name__"), (.str (Str.ofString "__name__") 165), (.str (Str.ofString "law_lg0008_01") 421)⟩, ⟨PyData.keyHash P (Str.ofString "__doc__"), (.str (Str.ofString "__doc__") 166), .none⟩, ⟨PyData.keyHash P (Str.ofString "__package__"), (.str (Str.ofString "__package__") 167), .none⟩, ⟨PyData.keyHash P (Str.ofString "__loader__"), (.str (Str.ofString "__loader__") 168), (.builtin "__main__.__loader__#opaque")⟩, ⟨PyData.keyHash P (Str.ofString "__spec__"), (.str (Str.ofString "__spec__") 169), .none⟩, ⟨PyData.keyHash P (Str.ofString "__annotations__"), (.str (Str.ofString "__annotations__") 170), (.ref 6)⟩, ⟨PyData.keyHash P (Str.ofString "__builtins__"), (.str (Str.ofString "__builtins__") 171), (.ref 4)⟩, ⟨PyData.keyHash P (Str.ofString "__file__"), (.str (Str.ofString "__file__") 173), (.str (Str.ofString "/claim/cut.py") 172)⟩, ⟨PyData.keyHash P (Str.ofString "__cached__"), (.str (Str.ofString "__cached__") 174), .none⟩, ⟨PyData.keyHash P (Str.ofString "_wall"), (.str (Str.ofString "_wall") 193), (.ref 21)⟩, ⟨PyData.keyHash P (Str.ofString "_WSP"), (.str (Str.ofString "_WSP") 197), (.str (Str.ofString " \t") 196)⟩, ⟨PyData.keyHash P (Str.ofString "WSP"), (.str (Str.ofString "WSP") 202), (.ref 22)⟩, ⟨PyData.keyHash P (Str.ofString "make_quoted_pairs"), (.str (Str.ofString "make_quoted_pairs") 209), (.ref 32)⟩, ⟨PyData.keyHash P (Str.ofString "make_parenthesis_pairs"), (.str (Str.ofString "make_parenthesis_pairs") 216), (.ref 39)⟩, ⟨PyData.keyHash P (Str.ofString "quote_string"), (.str (Str.ofString "quote_string") 224), (.ref 46)⟩, ⟨PyData.keyHash P (Str.ofString "Terminal"), (.str (Str.ofString "Terminal") 318), (.ref 118)⟩, ⟨PyData.keyHash P (Str.ofString "WhiteSpaceTerminal"), (.str (Str.ofString "WhiteSpaceTerminal") 349), (.ref 148)⟩, ⟨PyData.keyHash P (Str.ofString "ValueTerminal"), (.str (Str.ofString "ValueTerminal") 380), (.ref 175)⟩, ⟨PyData.keyHash P (Str.ofString "EWWhiteSpaceTerminal"), (.str (Str.ofString "EWWhiteSpaceTerminal") 411), (.ref 202)⟩, ⟨PyData.keyHash P (Str.ofString "get_fws"), (.str (Str.ofString "get_fws") 420), (.ref 211)⟩, ⟨PyData.keyHash P (Str.ofString "_law_tree"), (.str (Str.ofString "_law_tree") 434), (.ref 218)⟩, ⟨PyData.keyHash P (Str.ofString "_law_is_white"), (.str (Str.ofString "_law_is_white") 441), (.ref 225)⟩, ⟨PyData.keyHash P (Str.ofString "_law_shown"), (.str (Str.ofString "_law_shown") 447), (.ref 230)⟩, ⟨PyData.keyHash P (Str.ofString "_law_bare"), (.str (Str.ofString "_law_bare") 453), (.ref 235)⟩, ⟨PyData.keyHash P (Str.ofString "_law_texts"), (.str (Str.ofString "_law_texts") 462), (.ref 242)⟩, ⟨PyData.keyHash P (Str.ofString "_law_pieces"), (.str (Str.ofString "_law_pieces") 472), (.ref 249)⟩, ⟨PyData.keyHash P (Str.ofString "_law_remark"), (.str (Str.ofString "_law_remark") 478), (.ref 254)⟩, ⟨PyData.keyHash P (Str.ofString "_law_read_remark"), (.str (Str.ofString "_law_read_remark") 490), (.ref 261)⟩, ⟨PyData.keyHash P (Str.ofString "_law_read_quoted"), (.str (Str.ofString "_law_read_quoted") 501), (.ref 268)⟩, ⟨PyData.keyHash P (Str.ofString "law"), (.str (Str.ofString "law") 507), (.ref 273)⟩] 30), #[]⟩
noncomputable abbrev obf12 (P : Params) : Obj := ⟨.none, none, (.fields #[(.int 1 0), (.int 0 0), (.ref 20), (.int 7 0), (.int 0 0), (.ref 31), (.int 9 0), (.int 0 0), (.ref 38), (.int 11 0), (.int 0 0), (.ref 45), (.int 14 0), (.int 0 0), (.ref 53), (.int 47 0), (.int 0 0), (.ref 129), (.int 55 0), (.int 0 0), (.ref 156), (.int 63 0), (.int 0 0), (.ref 183), (.int 71 0), (.int 0 0), (.ref 210), (.int 76 0), (.int 0 0), (.ref 217), (.int 92 0), (.int 0 0), (.ref 224), (.int 94 0), (.int 0 0), (.ref 229), (.int 103 0), (.int 0 0), (.ref 234), (.int 105 0), (.int 0 0), (.ref 241), (.int 113 0), (.int 0 0), (.ref 248), (.int 128 0), (.int 0 0), (.ref 253), (.int 136 0), (.int 0 0), (.ref 260), (.int 154 0), (.int 0 0), (.ref 267), (.int 167 0), (.int 0 0), (.ref 272)]), #[]⟩
noncomputable abbrev obf26 (P : Params) : Obj := ⟨(.type "tuple"), none, (.seq #[] 0), #[]⟩
noncomputable abbrev obf27 (P : Params) : Obj := ⟨.none, none, (.fields #[]), #[]⟩
noncomputable abbrev obf28 (P : Params) : Obj := ⟨(.type "tuple"), none, (.seq #[(.str (Str.ofString "value") 206)] 0), #[]⟩
noncomputable abbrev obf29 (P : Params) : Obj := ⟨(.type "tuple"), none, (.seq #[] 0), #[]⟩
noncomputable abbrev obf30 (P : Params) : Obj := ⟨.none, none, (.func { name := (Str.ofString "make_quoted_pairs"), qualname := (Str.ofString "make_quoted_pairs"), params := fnP (stm 4), body := .stmts (fnB (stm 4)), scope := fnS (stm 4), globals := 0, closure := [], defaults := .none, kwdefaults := .none, doc := .none, pyModule := .none, annotations := none, code := .none, closureTuple := .none, builtins := 0 : FuncData}), #[]⟩
noncomputable abbrev obf31 (P : Params) : Obj := ⟨(.type "code"), none, (.fields #[(.str (Str.ofString "make_quoted_pairs") 203), (.str (Str.ofString "make_quoted_pairs") 204), (.str (Str.ofString "/claim/cut.py") 205), (.int 7 0), (.int 1 0), (.int 0 0), (.int 0 0), (.int 3 0), (.ref 26), (.bool true), (.int 181 0), (.ref 27), .none, (.ref 28), (.ref 29), (.ref 30), (.int 207 0), (.int 7 0), (.str (Str.ofString "/claim/cut.py") 208)]), #[]⟩
noncomputable abbrev obf32 (P : Params) : Obj := ⟨(.type "function"), none, (.func { name := (Str.ofString "make_quoted_pairs"), qualname := (Str.ofString "make_quoted_pairs"), params := fnP (stm 4), body := .stmts (fnB (stm 4)), scope := fnS (stm 4), globals := 3, closure := [], defaults := .none, kwdefaults := .none, doc := .none, pyModule := (.str (Str.ofString "cpy313.email._header_value_parser") 194), annotations := none, code := (.ref 31), closureTuple := .none, builtins := 0 : FuncData}), #[]⟩
noncomputable abbrev obf33 (P : Params) : Obj := ⟨(.type "tuple"), none, (.seq #[] 0), #[]⟩
noncomputable abbrev obf34 (P : Params) : Obj := ⟨.none, none, (.fields #[]), #[]⟩
noncomputable abbrev obf35 (P : Params) : Obj := ⟨(.type "tuple"), none, (.seq #[(.str (Str.ofString "value") 213)] 0), #[]⟩
noncomputable abbrev obf36 (P : Params) : Obj := ⟨(.type "tuple"), none, (.seq #[] 0), #[]⟩
noncomputable abbrev obf37 (P : Params) : Obj := ⟨.none, none, (.func { name := (Str.ofString "make_parenthesis_pairs"), qualname := (Str.ofString "make_parenthesis_pairs"), params := fnP (stm 5), body := .stmts (fnB (stm 5)), scope := fnS (stm 5), globals := 0, closure := [], defaults := .none, kwdefaults := .none, doc := .none, pyModule := .none, annotations := none, code := .none, closureTuple := .none, builtins := 0 : FuncData}), #[]⟩
noncomputable abbrev obf38 (P : Params) : Obj := ⟨(.type "code"), none, (.fields #[(.str (Str.ofString "make_parenthesis_pairs") 210), (.str (Str.ofString "make_parenthesis_pairs") 211), (.str (Str.ofString "/claim/cut.py") 212), (.int 9 0), (.int 1 0), (.int 0 0), (.int 0 0), (.int 3 0), (.ref 33), (.bool true), (.int 181 0), (.ref 34), .none, (.ref 35), (.ref 36), (.ref 37), (.int 214 0), (.int 9 0), (.str (Str.ofString "/claim/cut.py") 215)]), #[]⟩
noncomputable abbrev obf39 (P : Params) : Obj := ⟨(.type "function"), none, (.func { name := (Str.ofString "make_parenthesis_pairs"), qualname := (Str.ofString "make_parenthesis_pairs"), params := fnP (stm 5), body := .stmts (fnB (stm 5)), scope := fnS (stm 5), globals := 3, closure := [], defaults := .none, kwdefaults := .none, doc := .none, pyModule := (.str (Str.ofString "cpy313.email._header_value_parser") 194), annotations := none, code := (.ref 38), closureTuple := .none, builtins := 0 : FuncData}), #[]⟩
noncomputable abbrev obf40 (P : Params) : Obj := ⟨(.type "tuple"), none, (.seq #[] 0), #[]⟩
noncomputable abbrev obf41 (P : Params) : Obj := ⟨.none, none, (.fields #[]), #[]⟩
noncomputable abbrev obf42 (P : Params) : Obj := ⟨(.type "tuple"), none, (.seq #[(.str (Str.ofString "value") 220), (.str (Str.ofString "escaped") 221)] 0), #[]⟩
noncomputable abbrev obf43 (P : Params) : Obj := ⟨(.type "tuple"), none, (.seq #[] 0), #[]⟩
noncomputable abbrev obf44 (P : Params) : Obj := ⟨.none, none, (.func { name := (Str.ofString "quote_string"), qualname := (Str.ofString "quote_string"), params := fnP (stm 6), body := .stmts (fnB (stm 6)), scope := fnS (stm 6), globals := 0, closure := [], defaults := .none, kwdefaults := .none, doc := .none, pyModule := .none, annotations := none, code := .none, closureTuple := .none, builtins := 0 : FuncData}), #[]⟩
noncomputable abbrev obf45 (P : Params) : Obj := ⟨(.type "code"), none, (.fields #[(.str (Str.ofString "quote_string") 217), (.str (Str.ofString "quote_string") 218), (.str (Str.ofString "/claim/cut.py") 219), (.int 11 0), (.int 1 0), (.int 0 0), (.int 0 0), (.int 3 0), (.ref 40), (.bool true), (.int 181 0), (.ref 41), .none, (.ref 42), (.ref 43), (.ref 44), (.int 222 0), (.int 11 0), (.str (Str.ofString "/claim/cut.py") 223)]), #[]⟩
noncomputable abbrev obf46 (P : Params) : Obj := ⟨(.type "function"), none, (.func { name := (Str.ofString "quote_string"), qualname := (Str.ofString "quote_string"), params := fnP (stm 6), body := .stmts (fnB (stm 6)), scope := fnS (stm 6), globals := 3, closure := [], defaults := .none, kwdefaults := .none, doc := .none, pyModule := (.str (Str.ofString "cpy313.email._header_value_parser") 194), annotations := none, code := (.ref 45), closureTuple := .none, builtins := 0 : FuncData}), #[]⟩
noncomputable abbrev obf47 (P : Params) : Obj := ⟨(.type "tuple"), none, (.seq #[(.type "str")] 0), #[]⟩
noncomputable abbrev obf48 (P : Params) : Obj := ⟨(.type "builtin_function_or_method"), none, (.fields #[(.builtin "type.__prepare__"), (.type "type")]), #[]⟩
noncomputable abbrev obf49 (P : Params) : Obj := ⟨(.type "dict"), none, (.dict #[⟨PyData.keyHash P (Str.ofString "__module__"), (.str (Str.ofString "__module__") 232), (.str (Str.ofString "cpy313.email._header_value_parser") 194)⟩, ⟨PyData.keyHash P (Str.ofString "__qualname__"), (.str (Str.ofString "__qualname__") 234), (.str (Str.ofString "Terminal") 233)⟩, ⟨PyData.keyHash P (Str.ofString "__firstlineno__"), (.str (Str.ofString "__firstlineno__") 236), (.int 14 235)⟩, ⟨PyData.keyHash P (Str.ofString "as_ew_allowed"), (.str (Str.ofString "as_ew_allowed") 237), (.bool true)⟩, ⟨PyData.keyHash P (Str.ofString "ew_combine_allowed"), (.str (Str.ofString "ew_combine_allowed") 238), (.bool true)⟩, ⟨PyData.keyHash P (Str.ofString "syntactic_break"), (.str (Str.ofString "syntactic_break") 239), (.bool true)⟩, ⟨PyData.keyHash P (Str.ofString "__new__"), (.str (Str.ofString "__new__") 250), (.ref 62)⟩, ⟨PyData.keyHash P (Str.ofString "__repr__"), (.str (Str.ofString "__repr__") 258), (.ref 70)⟩, ⟨PyData.keyHash P (Str.ofString "pprint"), (.str (Str.ofString "pprint") 265), (.ref 77)⟩, ⟨PyData.keyHash P (Str.ofString "all_defects"), (.str (Str.ofString "all_defects") 273), (.ref 85)⟩, ⟨PyData.keyHash P (Str.ofString "_pp"), (.str (Str.ofString "_pp") 282), (.ref 93)⟩, ⟨PyData.keyHash P (Str.ofString "pop_trailing_ws"), (.str (Str.ofString "pop_trailing_ws") 289), (.ref 100)⟩, ⟨PyData.keyHash P (Str.ofString "comments"), (.str (Str.ofString "comments") 297), (.ref 108)⟩, ⟨PyData.keyHash P (Str.ofString "__getnewargs__"), (.str (Str.ofString "__getnewargs__") 304), (.ref 115)⟩, ⟨PyData.keyHash P (Str.ofString "__static_attributes__"), (.str (Str.ofString "__static_attributes__") 307), (.ref 116)⟩, ⟨PyData.keyHash P (Str.ofString "__classcell__"), (.str (Str.ofString "__classcell__") 308), (.ref 50)⟩] 16), #[]⟩
noncomputable abbrev obf50 (P : Params) : Obj := ⟨(.type "cell"), none, (.cell (some (.ref 118))), #[]⟩
noncomputable abbrev obf51 (P : Params) : Obj := ⟨(.type "tuple"), none, (.seq #[] 0), #[]⟩
noncomputable abbrev obf52 (P : Params) : Obj := ⟨.none, none, (.fields #[(.int 19 0), (.int 4 0), (.ref 61), (.int 25 0), (.int 4 0), (.ref 69), (.int 28 0), (.int 4 0), (.ref 76), (.int 32 0), (.int 4 0), (.ref 83), (.int 35 0), (.int 4 0), (.ref 92), (.int 38 0), (.int 4 0), (.ref 99), (.int 42 0), (.int 4 0), (.ref 106), (.int 45 0), (.int 4 0), (.ref 114)]), #[]⟩
noncomputable abbrev obf53 (P : Params) : Obj := ⟨(.type "code"), none, (.fields #[(.str (Str.ofString "Terminal") 227), (.str (Str.ofString "Terminal") 228), (.str (Str.ofString "/claim/cut.py") 229), (.int 14 0), (.int 0 0), (.int 0 0), (.int 0 0), (.int 0 0), (.ref 51), (.bool false), (.int 181 0), (.ref 52), .none, .none, .none, .none, (.int 230 0), (.int 14 0), (.str (Str.ofString "/claim/cut.py") 231)]), #[]⟩
noncomputable abbrev obf54 (P : Params) : Obj := ⟨(.type "frame"), none, .plain, #[(some (.ref 53)), (some (.ref 3)), (some (.ref 49)), none, (some (.str (Str.ofString "cpy313.email._header_value_parser") 194)), none, (some (.ref 0))]⟩
noncomputable abbrev obf55 (P : Params) : Obj := ⟨(.type "tuple"), none, (.seq #[(.ref 50)] 0), #[]⟩
noncomputable abbrev obf56 (P : Params) : Obj := ⟨(.type "tuple"), none, (.seq #[(.str (Str.ofString "__class__") 243)] 0), #[]⟩
noncomputable abbrev obf57 (P : Params) : Obj := ⟨.none, none, (.fields #[]), #[]⟩
noncomputable abbrev obf58 (P : Params) : Obj := ⟨(.type "tuple"), none, (.seq #[(.str (Str.ofString "cls") 244), (.str (Str.ofString "value") 245), (.str (Str.ofString "token_type") 246), (.str (Str.ofString "self") 247)] 0), #[]⟩
noncomputable abbrev obf59 (P : Params) : Obj := ⟨(.type "tuple"), none, (.seq #[] 0), #[]⟩
noncomputable abbrev obf60 (P : Params) : Obj := ⟨.none, none, (.func { name := (Str.ofString "__new__"), qualname := (Str.ofString "Terminal.__new__"), params := fnP (stmIn 7 3), body := .stmts (fnB (stmIn 7 3)), scope := fnS (stmIn 7 3), globals := 0, closure := [], defaults := .none, kwdefaults := .none, doc := .none, pyModule := .none, annotations := none, code := .none, closureTuple := .none, builtins := 0 : FuncData}), #[]⟩
noncomputable abbrev obf61 (P : Params) : Obj := ⟨(.type "code"), none, (.fields #[(.str (Str.ofString "__new__") 240), (.str (Str.ofString "Terminal.__new__") 241), (.str (Str.ofString "/claim/cut.py") 242), (.int 19 0), (.int 3 0), (.int 0 0), (.int 0 0), (.int 3 0), (.ref 56), (.bool true), (.int 181 0), (.ref 57), .none, (.ref 58), (.ref 59), (.ref 60), (.int 248 0), (.int 19 0), (.str (Str.ofString "/claim/cut.py") 249)]), #[]⟩
noncomputable abbrev obf62 (P : Params) : Obj := ⟨(.type "function"), none, (.func { name := (Str.ofString "__new__"), qualname := (Str.ofString "Terminal.__new__"), params := fnP (stmIn 7 3), body := .stmts (fnB (stmIn 7 3)), scope := fnS (stmIn 7 3), globals := 3, closure := [((Str.ofString "__class__"), 50)], defaults := .none, kwdefaults := .none, doc := .none, pyModule := (.str (Str.ofString "cpy313.email._header_value_parser") 194), annotations := none, code := (.ref 61), closureTuple := (.ref 55), builtins := 0 : FuncData}), #[]⟩
noncomputable abbrev obf63 (P : Params) : Obj := ⟨(.type "tuple"), none, (.seq #[(.ref 50)] 0), #[]⟩
noncomputable abbrev obf64 (P : Params) : Obj := ⟨(.type "tuple"), none, (.seq #[(.str (Str.ofString "__class__") 254)] 0), #[]⟩
noncomputable abbrev obf65 (P : Params) : Obj := ⟨.none, none, (.fields #[]), #[]⟩
noncomputable abbrev obf66 (P : Params) : Obj := ⟨(.type "tuple"), none, (.seq #[(.str (Str.ofString "self") 255)] 0), #[]⟩
noncomputable abbrev obf67 (P : Params) : Obj := ⟨(.type "tuple"), none, (.seq #[] 0), #[]⟩
noncomputable abbrev obf68 (P : Params) : Obj := ⟨.none, none, (.func { name := (Str.ofString "__repr__"), qualname := (Str.ofString "Terminal.__repr__"), params := fnP (stmIn 7 4), body := .stmts (fnB (stmIn 7 4)), scope := fnS (stmIn 7 4), globals := 0, closure := [], defaults := .none, kwdefaults := .none, doc := .none, pyModule := .none, annotations := none, code := .none, closureTuple := .none, builtins := 0 : FuncData}), #[]⟩
noncomputable abbrev obf69 (P : Params) : Obj := ⟨(.type "code"), none, (.fields #[(.str (Str.ofString "__repr__") 251), (.str (Str.ofString "Terminal.__repr__") 252), (.str (Str.ofString "/claim/cut.py") 253), (.int 25 0), (.int 1 0), (.int 0 0), (.int 0 0), (.int 3 0), (.ref 64), (.bool true), (.int 181 0), (.ref 65), .none, (.ref 66), (.ref 67), (.ref 68), (.int 256 0), (.int 25 0), (.str (Str.ofString "/claim/cut.py") 257)]), #[]⟩
noncomputable abbrev obf70 (P : Params) : Obj := ⟨(.type "function"), none, (.func { name := (Str.ofString "__repr__"), qualname := (Str.ofString "Terminal.__repr__"), params := fnP (stmIn 7 4), body := .stmts (fnB (stmIn 7 4)), scope := fnS (stmIn 7 4), globals := 3, closure := [((Str.ofString "__class__"), 50)], defaults := .none, kwdefaults := .none, doc := .none, pyModule := (.str (Str.ofString "cpy313.email._header_value_parser") 194), annotations := none, code := (.ref 69), closureTuple := (.ref 63), builtins := 0 : FuncData}), #[]⟩
noncomputable abbrev obf71 (P : Params) : Obj := ⟨(.type "tuple"), none, (.seq #[] 0), #[]⟩
noncomputable abbrev obf72 (P : Params) : Obj := ⟨.none, none, (.fields #[]), #[]⟩
noncomputable abbrev obf73 (P : Params) : Obj := ⟨(.type "tuple"), none, (.seq #[(.str (Str.ofString "self") 262)] 0), #[]⟩
noncomputable abbrev obf74 (P : Params) : Obj := ⟨(.type "tuple"), none, (.seq #[] 0), #[]⟩
noncomputable abbrev obf75 (P : Params) : Obj := ⟨.none, none, (.func { name := (Str.ofString "pprint"), qualname := (Str.ofString "Terminal.pprint"), params := fnP (stmIn 7 5), body := .stmts (fnB (stmIn 7 5)), scope := fnS (stmIn 7 5), globals := 0, closure := [], defaults := .none, kwdefaults := .none, doc := .none, pyModule := .none, annotations := none, code := .none, closureTuple := .none, builtins := 0 : FuncData}), #[]⟩
noncomputable abbrev obf76 (P : Params) : Obj := ⟨(.type "code"), none, (.fields #[(.str (Str.ofString "pprint") 259), (.str (Str.ofString "Terminal.pprint") 260), (.str (Str.ofString "/claim/cut.py") 261), (.int 28 0), (.int 1 0), (.int 0 0), (.int 0 0), (.int 3 0), (.ref 71), (.bool true), (.int 181 0), (.ref 72), .none, (.ref 73), (.ref 74), (.ref 75), (.int 263 0), (.int 28 0), (.str (Str.ofString "/claim/cut.py") 264)]), #[]⟩
noncomputable abbrev obf77 (P : Params) : Obj := ⟨(.type "function"), none, (.func { name := (Str.ofString "pprint"), qualname := (Str.ofString "Terminal.pprint"), params := fnP (stmIn 7 5), body := .stmts (fnB (stmIn 7 5)), scope := fnS (stmIn 7 5), globals := 3, closure := [], defaults := .none, kwdefaults := .none, doc := .none, pyModule := (.str (Str.ofString "cpy313.email._header_value_parser") 194), annotations := none, code := (.ref 76), closureTuple := .none, builtins := 0 : FuncData}), #[]⟩
noncomputable abbrev obf78 (P : Params) : Obj := ⟨(.type "tuple"), none, (.seq #[] 0), #[]⟩
noncomputable abbrev obf79 (P : Params) : Obj := ⟨.none, none, (.fields #[]), #[]⟩
noncomputable abbrev obf80 (P : Params) : Obj := ⟨(.type "tuple"), none, (.seq #[(.str (Str.ofString "self") 269)] 0), #[]⟩
noncomputable abbrev obf81 (P : Params) : Obj := ⟨(.type "tuple"), none, (.seq #[] 0), #[]⟩
noncomputable abbrev obf82 (P : Params) : Obj := ⟨.none, none, (.func { name := (Str.ofString "all_defects"), qualname := (Str.ofString "Terminal.all_defects"), params := fnP (stmIn 7 6), body := .stmts (fnB (stmIn 7 6)), scope := fnS (stmIn 7 6), globals := 0, closure := [], defaults := .none, kwdefaults := .none, doc := .none, pyModule := .none, annotations := none, code := .none, closureTuple := .none, builtins := 0 : FuncData}), #[]⟩
noncomputable abbrev obf83 (P : Params) : Obj := ⟨(.type "code"), none, (.fields #[(.str (Str.ofString "all_defects") 266), (.str (Str.ofString "Terminal.all_defects") 267), (.str (Str.ofString "/claim/cut.py") 268), (.int 31 0), (.int 1 0), (.int 0 0), (.int 0 0), (.int 3 0), (.ref 78), (.bool true), (.int 181 0), (.ref 79), .none, (.ref 80), (.ref 81), (.ref 82), (.int 270 0), (.int 31 0), (.str (Str.ofString "/claim/cut.py") 271)]), #[]⟩
noncomputable abbrev obf84 (P : Params) : Obj := ⟨(.type "function"), none, (.func { name := (Str.ofString "all_defects"), qualname := (Str.ofString "Terminal.all_defects"), params := fnP (stmIn 7 6), body := .stmts (fnB (stmIn 7 6)), scope := fnS (stmIn 7 6), globals := 3, closure := [], defaults := .none, kwdefaults := .none, doc := .none, pyModule := (.str (Str.ofString "cpy313.email._header_value_parser") 194), annotations := none, code := (.ref 83), closureTuple := .none, builtins := 0 : FuncData}), #[]⟩
noncomputable abbrev obf85 (P : Params) : Obj := ⟨(.type "property"), none, (.fields #[(.ref 84), .none, .none, .none, (.str (Str.ofString "all_defects") 273), (.bool false)]), #[]⟩
noncomputable abbrev obf86 (P : Params) : Obj := ⟨(.type "tuple"), none, (.seq #[(.str (Str.ofString "") 274)] 0), #[]⟩
noncomputable abbrev obf87 (P : Params) : Obj := ⟨(.type "tuple"), none, (.seq #[] 0), #[]⟩
noncomputable abbrev obf88 (P : Params) : Obj := ⟨.none, none, (.fields #[]), #[]⟩
noncomputable abbrev obf89 (P : Params) : Obj := ⟨(.type "tuple"), none, (.seq #[(.str (Str.ofString "self") 278), (.str (Str.ofString "indent") 279)] 0), #[]⟩
noncomputable abbrev obf90 (P : Params) : Obj := ⟨(.type "tuple"), none, (.seq #[] 0), #[]⟩
noncomputable abbrev obf91 (P : Params) : Obj := ⟨.none, none, (.func { name := (Str.ofString "_pp"), qualname := (Str.ofString "Terminal._pp"), params := fnP (stmIn 7 7), body := .stmts (fnB (stmIn 7 7)), scope := fnS (stmIn 7 7), globals := 0, closure := [], defaults := .none, kwdefaults := .none, doc := .none, pyModule := .none, annotations := none, code := .none, closureTuple := .none, builtins := 0 : FuncData}), #[]⟩
noncomputable abbrev obf92 (P : Params) : Obj := ⟨(.type "code"), none, (.fields #[(.str (Str.ofString "_pp") 275), (.str (Str.ofString "Terminal._pp") 276), (.str (Str.ofString "/claim/cut.py") 277), (.int 35 0), (.int 2 0), (.int 0 0), (.int 0 0), (.int 3 0), (.ref 87), (.bool true), (.int 181 0), (.ref 88), .none, (.ref 89), (.ref 90), (.ref 91), (.int 280 0), (.int 35 0), (.str (Str.ofString "/claim/cut.py") 281)]), #[]⟩
noncomputable abbrev obf93 (P : Params) : Obj := ⟨(.type "function"), none, (.func { name := (Str.ofString "_pp"), qualname := (Str.ofString "Terminal._pp"), params := fnP (stmIn 7 7), body := .stmts (fnB (stmIn 7 7)), scope := fnS (stmIn 7 7), globals := 3, closure := [], defaults := (.ref 86), kwdefaults := .none, doc := .none, pyModule := (.str (Str.ofString "cpy313.email._header_value_parser") 194), annotations := none, code := (.ref 92), closureTuple := .none, builtins := 0 : FuncData}), #[]⟩
noncomputable abbrev obf94 (P : Params) : Obj := ⟨(.type "tuple"), none, (.seq #[] 0), #[]⟩
noncomputable abbrev obf95 (P : Params) : Obj := ⟨.none, none, (.fields #[]), #[]⟩
noncomputable abbrev obf96 (P : Params) : Obj := ⟨(.type "tuple"), none, (.seq #[(.str (Str.ofString "self") 286)] 0), #[]⟩
noncomputable abbrev obf97 (P : Params) : Obj := ⟨(.type "tuple"), none, (.seq #[] 0), #[]⟩
noncomputable abbrev obf98 (P : Params) : Obj := ⟨.none, none, (.func { name := (Str.ofString "pop_trailing_ws"), qualname := (Str.ofString "Terminal.pop_trailing_ws"), params := fnP (stmIn 7 8), body := .stmts (fnB (stmIn 7 8)), scope := fnS (stmIn 7 8), globals := 0, closure := [], defaults := .none, kwdefaults := .none, doc := .none, pyModule := .none, annotations := none, code := .none, closureTuple := .none, builtins := 0 : FuncData}), #[]⟩
noncomputable abbrev obf99 (P : Params) : Obj := ⟨(.type "code"), none, (.fields #[(.str (Str.ofString "pop_trailing_ws") 283), (.str (Str.ofString "Terminal.pop_trailing_ws") 284), (.str (Str.ofString "/claim/cut.py") 285), (.int 38 0), (.int 1 0), (.int 0 0), (.int 0 0), (.int 3 0), (.ref 94), (.bool true), (.int 181 0), (.ref 95), .none, (.ref 96), (.ref 97), (.ref 98), (.int 287 0), (.int 38 0), (.str (Str.ofString "/claim/cut.py") 288)]), #[]⟩
noncomputable abbrev obf100 (P : Params) : Obj := ⟨(.type "function"), none, (.func { name := (Str.ofString "pop_trailing_ws"), qualname := (Str.ofString "Terminal.pop_trailing_ws"), params := fnP (stmIn 7 8), body := .stmts (fnB (stmIn 7 8)), scope := fnS (stmIn 7 8), globals := 3, closure := [], defaults := .none, kwdefaults := .none, doc := .none, pyModule := (.str (Str.ofString "cpy313.email._header_value_parser") 194), annotations := none, code := (.ref 99), closureTuple := .none, builtins := 0 : FuncData}), #[]⟩
noncomputable abbrev obf101 (P : Params) : Obj := ⟨(.type "tuple"), none, (.seq #[] 0), #[]⟩
noncomputable abbrev obf102 (P : Params) : Obj := ⟨.none, none, (.fields #[]), #[]⟩
noncomputable abbrev obf103 (P : Params) : Obj := ⟨(.type "tuple"), none, (.seq #[(.str (Str.ofString "self") 293)] 0), #[]⟩
noncomputable abbrev obf104 (P : Params) : Obj := ⟨(.type "tuple"), none, (.seq #[] 0), #[]⟩
noncomputable abbrev obf105 (P : Params) : Obj := ⟨.none, none, (.func { name := (Str.ofString "comments"), qualname := (Str.ofString "Terminal.comments"), params := fnP (stmIn 7 9), body := .stmts (fnB (stmIn 7 9)), scope := fnS (stmIn 7 9), globals := 0, closure := [], defaults := .none, kwdefaults := .none, doc := .none, pyModule := .none, annotations := none, code := .none, closureTuple := .none, builtins := 0 : FuncData}), #[]⟩
noncomputable abbrev obf106 (P : Params) : Obj := ⟨(.type "code"), none, (.fields #[(.str (Str.ofString "comments") 290), (.str (Str.ofString "Terminal.comments") 291), (.str (Str.ofString "/claim/cut.py") 292), (.int 41 0), (.int 1 0), (.int 0 0), (.int 0 0), (.int 3 0), (.ref 101), (.bool true), (.int 181 0), (.ref 102), .none, (.ref 103), (.ref 104), (.ref 105), (.int 294 0), (.int 41 0), (.str (Str.ofString "/claim/cut.py") 295)]), #[]⟩
noncomputable abbrev obf107 (P : Params) : Obj := ⟨(.type "function"), none, (.func { name := (Str.ofString "comments"), qualname := (Str.ofString "Terminal.comments"), params := fnP (stmIn 7 9), body := .stmts (fnB (stmIn 7 9)), scope := fnS (stmIn 7 9), globals := 3, closure := [], defaults := .none, kwdefaults := .none, doc := .none, pyModule := (.str (Str.ofString "cpy313.email._header_value_parser") 194), annotations := none, code := (.ref 106), closureTuple := .none, builtins := 0 : FuncData}), #[]⟩
noncomputable abbrev obf108 (P : Params) : Obj := ⟨(.type "property"), none, (.fields #[(.ref 107), .none, .none, .none, (.str (Str.ofString "comments") 297), (.bool false)]), #[]⟩
noncomputable abbrev obf109 (P : Params) : Obj := ⟨(.type "tuple"), none, (.seq #[] 0), #[]⟩
noncomputable abbrev obf110 (P : Params) : Obj := ⟨.none, none, (.fields #[]), #[]⟩
noncomputable abbrev obf111 (P : Params) : Obj := ⟨(.type "tuple"), none, (.seq #[(.str (Str.ofString "self") 301)] 0), #[]⟩
noncomputable abbrev obf112 (P : Params) : Obj := ⟨(.type "tuple"), none, (.seq #[] 0), #[]⟩
noncomputable abbrev obf113 (P : Params) : Obj := ⟨.none, none, (.func { name := (Str.ofString "__getnewargs__"), qualname := (Str.ofString "Terminal.__getnewargs__"), params := fnP (stmIn 7 10), body := .stmts (fnB (stmIn 7 10)), scope := fnS (stmIn 7 10), globals := 0, closure := [], defaults := .none, kwdefaults := .none, doc := .none, pyModule := .none, annotations := none, code := .none, closureTuple := .none, builtins := 0 : FuncData}), #[]⟩
noncomputable abbrev obf114 (P : Params) : Obj := ⟨(.type "code"), none, (.fields #[(.str (Str.ofString "__getnewargs__") 298), (.str (Str.ofString "Terminal.__getnewargs__") 299), (.str (Str.ofString "/claim/cut.py") 300), (.int 45 0), (.int 1 0), (.int 0 0), (.int 0 0), (.int 3 0), (.ref 109), (.bool true), (.int 181 0), (.ref 110), .none, (.ref 111), (.ref 112), (.ref 113), (.int 302 0), (.int 45 0), (.str (Str.ofString "/claim/cut.py") 303)]), #[]⟩
noncomputable abbrev obf115 (P : Params) : Obj := ⟨(.type "function"), none, (.func { name := (Str.ofString "__getnewargs__"), qualname := (Str.ofString "Terminal.__getnewargs__"), params := fnP (stmIn 7 10), body := .stmts (fnB (stmIn 7 10)), scope := fnS (stmIn 7 10), globals := 3, closure := [], defaults := .none, kwdefaults := .none, doc := .none, pyModule := (.str (Str.ofString "cpy313.email._header_value_parser") 194), annotations := none, code := (.ref 114), closureTuple := .none, builtins := 0 : FuncData}), #[]⟩
noncomputable abbrev obf116 (P : Params) : Obj := ⟨(.type "tuple"), none, (.seq #[(.str (Str.ofString "defects") 305), (.str (Str.ofString "token_type") 306)] 0), #[]⟩
noncomputable abbrev obf117 (P : Params) : Obj := ⟨(.type "dict"), none, (.dict #[⟨PyData.keyHash P (Str.ofString "__module__"), (.str (Str.ofString "__module__") 232), (.str (Str.ofString "cpy313.email._header_value_parser") 194)⟩, ⟨PyData.keyHash P (Str.ofString "__firstlineno__"), (.str (Str.ofString "__firstlineno__") 236), (.int 14 235)⟩, ⟨PyData.keyHash P (Str.ofString "as_ew_allowed"), (.str (Str.ofString "as_ew_allowed") 237), (.bool true)⟩, ⟨PyData.keyHash P (Str.ofString "ew_combine_allowed"), (.str (Str.ofString "ew_combine_allowed") 238), (.bool true)⟩, ⟨PyData.keyHash P (Str.ofString "syntactic_break"), (.str (Str.ofString "syntactic_break") 239), (.bool true)⟩, ⟨PyData.keyHash P (Str.ofString "__new__"), (.str (Str.ofString "__new__") 250), (.ref 119)⟩, ⟨PyData.keyHash P (Str.ofString "__repr__"), (.str (Str.ofString "__repr__") 258), (.ref 70)⟩, ⟨PyData.keyHash P (Str.ofString "pprint"), (.str (Str.ofString "pprint") 265), (.ref 77)⟩, ⟨PyData.keyHash P (Str.ofString "all_defects"), (.str (Str.ofString "all_defects") 273), (.ref 85)⟩, ⟨PyData.keyHash P (Str.ofString "_pp"), (.str (Str.ofString "_pp") 282), (.ref 93)⟩, ⟨PyData.keyHash P (Str.ofString "pop_trailing_ws"), (.str (Str.ofString "pop_trailing_ws") 289), (.ref 100)⟩, ⟨PyData.keyHash P (Str.ofString "comments"), (.str (Str.ofString "comments") 297), (.ref 108)⟩, ⟨PyData.keyHash P (Str.ofString "__getnewargs__"), (.str (Str.ofString "__getnewargs__") 304), (.ref 115)⟩, ⟨PyData.keyHash P (Str.ofString "__static_attributes__"), (.str (Str.ofString "__static_attributes__") 307), (.ref 116)⟩, ⟨PyData.keyHash P (Str.ofString "__dict__"), (.str (Str.ofString "__dict__") 311), (.ref 120)⟩, ⟨PyData.keyHash P (Str.ofString "__weakref__"), (.str (Str.ofString "__weakref__") 313), (.ref 121)⟩, ⟨PyData.keyHash P (Str.ofString "__doc__"), (.str (Str.ofString "__doc__") 314), .none⟩] 5), #[]⟩
noncomputable abbrev obf118 (P : Params) : Obj := ⟨(.type "type"), none, (.cls { name := (Str.ofString "Terminal"), bases := [(.type "str")], mro := [(.ref 118), (.type "str"), (.type "object")], ns := 117, qualname := (Str.ofString "Terminal"), hasDict := true, slotNames := [], subclasses := [(.ref 148), (.ref 175)], abstract := false, collection := none, hasDel := false : ClassData}), #[(some (.ref 47)), none, (some (.str (Str.ofString "Terminal") 225)), (some (.str (Str.ofString "Terminal") 233)), (some .none), (some (.bool true))]⟩
noncomputable abbrev obf119 (P : Params) : Obj := ⟨(.type "staticmethod"), none, (.fields #[(.ref 62)]), #[]⟩
noncomputable abbrev obf120 (P : Params) : Obj := ⟨(.type "getset_descriptor"), none, (.fields #[(.str (Str.ofString "__dict__") 310), (.ref 118), (.builtin "function.__dict__"), (.builtin "function.__dict__#set")]), #[]⟩
noncomputable abbrev obf121 (P : Params) : Obj := ⟨(.type "getset_descriptor"), none, (.fields #[(.str (Str.ofString "__weakref__") 312), (.ref 118), (.builtin "ExceptionGroup.__weakref__"), .none]), #[]⟩
noncomputable abbrev obf122 (P : Params) : Obj := ⟨(.type "super"), none, (.fields #[(.ref 118), (.ref 118), (.ref 118)]), #[]⟩
noncomputable abbrev obf123 (P : Params) : Obj := ⟨(.type "builtin_function_or_method"), none, (.fields #[(.builtin "object.__init_subclass__"), (.ref 118)]), #[]⟩
noncomputable abbrev obf124 (P : Params) : Obj := ⟨(.type "tuple"), none, (.seq #[(.ref 118)] 0), #[]⟩
noncomputable abbrev obf125 (P : Params) : Obj := ⟨(.type "builtin_function_or_method"), none, (.fields #[(.builtin "type.__prepare__"), (.type "type")]), #[]⟩
noncomputable abbrev obf126 (P : Params) : Obj := ⟨(.type "dict"), none, (.dict #[⟨PyData.keyHash P (Str.ofString "__module__"), (.str (Str.ofString "__module__") 326), (.str (Str.ofString "cpy313.email._header_value_parser") 194)⟩, ⟨PyData.keyHash P (Str.ofString "__qualname__"), (.str (Str.ofString "__qualname__") 328), (.str (Str.ofString "WhiteSpaceTerminal") 327)⟩, ⟨PyData.keyHash P (Str.ofString "__firstlineno__"), (.str (Str.ofString "__firstlineno__") 330), (.int 47 329)⟩, ⟨PyData.keyHash P (Str.ofString "value"), (.str (Str.ofString "value") 338), (.ref 138)⟩, ⟨PyData.keyHash P (Str.ofString "startswith_fws"), (.str (Str.ofString "startswith_fws") 345), (.ref 145)⟩, ⟨PyData.keyHash P (Str.ofString "__static_attributes__"), (.str (Str.ofString "__static_attributes__") 346), (.ref 146)⟩] 6), #[]⟩
noncomputable abbrev obf127 (P : Params) : Obj := ⟨(.type "tuple"), none, (.seq #[] 0), #[]⟩
noncomputable abbrev obf128 (P : Params) : Obj := ⟨.none, none, (.fields #[(.int 50 0), (.int 4 0), (.ref 136), (.int 53 0), (.int 4 0), (.ref 144)]), #[]⟩
noncomputable abbrev obf129 (P : Params) : Obj := ⟨(.type "code"), none, (.fields #[(.str (Str.ofString "WhiteSpaceTerminal") 321), (.str (Str.ofString "WhiteSpaceTerminal") 322), (.str (Str.ofString "/claim/cut.py") 323), (.int 47 0), (.int 0 0), (.int 0 0), (.int 0 0), (.int 0 0), (.ref 127), (.bool false), (.int 181 0), (.ref 128), .none, .none, .none, .none, (.int 324 0), (.int 47 0), (.str (Str.ofString "/claim/cut.py") 325)]), #[]⟩
noncomputable abbrev obf130 (P : Params) : Obj := ⟨(.type "frame"), none, .plain, #[(some (.ref 129)), (some (.ref 3)), (some (.ref 126)), none, (some (.str (Str.ofString "cpy313.email._header_value_parser") 194)), none, (some (.ref 0))]⟩
noncomputable abbrev obf131 (P : Params) : Obj := ⟨(.type "tuple"), none, (.seq #[] 0), #[]⟩
noncomputable abbrev obf132 (P : Params) : Obj := ⟨.none, none, (.fields #[]), #[]⟩
noncomputable abbrev obf133 (P : Params) : Obj := ⟨(.type "tuple"), none, (.seq #[(.str (Str.ofString "self") 334)] 0), #[]⟩
noncomputable abbrev obf134 (P : Params) : Obj := ⟨(.type "tuple"), none, (.seq #[] 0), #[]⟩
noncomputable abbrev obf135 (P : Params) : Obj := ⟨.none, none, (.func { name := (Str.ofString "value"), qualname := (Str.ofString "WhiteSpaceTerminal.value"), params := fnP (stmIn 8 0), body := .stmts (fnB (stmIn 8 0)), scope := fnS (stmIn 8 0), globals := 0, closure := [], defaults := .none, kwdefaults := .none, doc := .none, pyModule := .none, annotations := none, code := .none, closureTuple := .none, builtins := 0 : FuncData}), #[]⟩
noncomputable abbrev obf136 (P : Params) : Obj := ⟨(.type "code"), none, (.fields #[(.str (Str.ofString "value") 331), (.str (Str.ofString "WhiteSpaceTerminal.value") 332), (.str (Str.ofString "/claim/cut.py") 333), (.int 49 0), (.int 1 0), (.int 0 0), (.int 0 0), (.int 3 0), (.ref 131), (.bool true), (.int 181 0), (.ref 132), .none, (.ref 133), (.ref 134), (.ref 135), (.int 335 0), (.int 49 0), (.str (Str.ofString "/claim/cut.py") 336)]), #[]⟩
noncomputable abbrev obf137 (P : Params) : Obj := ⟨(.type "function"), none, (.func { name := (Str.ofString "value"), qualname := (Str.ofString "WhiteSpaceTerminal.value"), params := fnP (stmIn 8 0), body := .stmts (fnB (stmIn 8 0)), scope := fnS (stmIn 8 0), globals := 3, closure := [], defaults := .none, kwdefaults := .none, doc := .none, pyModule := (.str (Str.ofString "cpy313.email._header_value_parser") 194), annotations := none, code := (.ref 136), closureTuple := .none, builtins := 0 : FuncData}), #[]⟩
noncomputable abbrev obf138 (P : Params) : Obj := ⟨(.type "property"), none, (.fields #[(.ref 137), .none, .none, .none, (.str (Str.ofString "value") 338), (.bool false)]), #[]⟩
noncomputable abbrev obf139 (P : Params) : Obj := ⟨(.type "tuple"), none, (.seq #[] 0), #[]⟩
noncomputable abbrev obf140 (P : Params) : Obj := ⟨.none, none, (.fields #[]), #[]⟩
noncomputable abbrev obf141 (P : Params) : Obj := ⟨(.type "tuple"), none, (.seq #[(.str (Str.ofString "self") 342)] 0), #[]⟩
noncomputable abbrev obf142 (P : Params) : Obj := ⟨(.type "tuple"), none, (.seq #[] 0), #[]⟩
noncomputable abbrev obf143 (P : Params) : Obj := ⟨.none, none, (.func { name := (Str.ofString "startswith_fws"), qualname := (Str.ofString "WhiteSpaceTerminal.startswith_fws"), params := fnP (stmIn 8 1), body := .stmts (fnB (stmIn 8 1)), scope := fnS (stmIn 8 1), globals := 0, closure := [], defaults := .none, kwdefaults := .none, doc := .none, pyModule := .none, annotations := none, code := .none, closureTuple := .none, builtins := 0 : FuncData}), #[]⟩
noncomputable abbrev obf144 (P : Params) : Obj := ⟨(.type "code"), none, (.fields #[(.str (Str.ofString "startswith_fws") 339), (.str (Str.ofString "WhiteSpaceTerminal.startswith_fws") 340), (.str (Str.ofString "/claim/cut.py") 341), (.int 53 0), (.int 1 0), (.int 0 0), (.int 0 0), (.int 3 0), (.ref 139), (.bool true), (.int 181 0), (.ref 140), .none, (.ref 141), (.ref 142), (.ref 143), (.int 343 0), (.int 53 0), (.str (Str.ofString "/claim/cut.py") 344)]), #[]⟩
noncomputable abbrev obf145 (P : Params) : Obj := ⟨(.type "function"), none, (.func { name := (Str.ofString "startswith_fws"), qualname := (Str.ofString "WhiteSpaceTerminal.startswith_fws"), params := fnP (stmIn 8 1), body := .stmts (fnB (stmIn 8 1)), scope := fnS (stmIn 8 1), globals := 3, closure := [], defaults := .none, kwdefaults := .none, doc := .none, pyModule := (.str (Str.ofString "cpy313.email._header_value_parser") 194), annotations := none, code := (.ref 144), closureTuple := .none, builtins := 0 : FuncData}), #[]⟩
noncomputable abbrev obf146 (P : Params) : Obj := ⟨(.type "tuple"), none, (.seq #[] 0), #[]⟩
noncomputable abbrev obf147 (P : Params) : Obj := ⟨(.type "dict"), none, (.dict #[⟨PyData.keyHash P (Str.ofString "__module__"), (.str (Str.ofString "__module__") 326), (.str (Str.ofString "cpy313.email._header_value_parser") 194)⟩, ⟨PyData.keyHash P (Str.ofString "__firstlineno__"), (.str (Str.ofString "__firstlineno__") 330), (.int 47 329)⟩, ⟨PyData.keyHash P (Str.ofString "value"), (.str (Str.ofString "value") 338), (.ref 138)⟩, ⟨PyData.keyHash P (Str.ofString "startswith_fws"), (.str (Str.ofString "startswith_fws") 345), (.ref 145)⟩, ⟨PyData.keyHash P (Str.ofString "__static_attributes__"), (.str (Str.ofString "__static_attributes__") 346), (.ref 146)⟩, ⟨PyData.keyHash P (Str.ofString "__doc__"), (.str (Str.ofString "__doc__") 347), .none⟩] 2), #[]⟩
noncomputable abbrev obf148 (P : Params) : Obj := ⟨(.type "type"), none, (.cls { name := (Str.ofString "WhiteSpaceTerminal"), bases := [(.ref 118)], mro := [(.ref 148), (.ref 118), (.type "str"), (.type "object")], ns := 147, qualname := (Str.ofString "WhiteSpaceTerminal"), hasDict := true, slotNames := [], subclasses := [(.ref 202)], abstract := false, collection := none, hasDel := false : ClassData}), #[(some (.ref 124)), none, (some (.str (Str.ofString "WhiteSpaceTerminal") 319)), (some (.str (Str.ofString "WhiteSpaceTerminal") 327)), (some .none), (some (.bool true))]⟩
noncomputable abbrev obf149 (P : Params) : Obj := ⟨(.type "super"), none, (.fields #[(.ref 148), (.ref 148), (.ref 148)]), #[]⟩
noncomputable abbrev obf150 (P : Params) : Obj := ⟨(.type "builtin_function_or_method"), none, (.fields #[(.builtin "object.__init_subclass__"), (.ref 148)]), #[]⟩
noncomputable abbrev obf151 (P : Params) : Obj := ⟨(.type "tuple"), none, (.seq #[(.ref 118)] 0), #[]⟩
noncomputable abbrev obf152 (P : Params) : Obj := ⟨(.type "builtin_function_or_method"), none, (.fields #[(.builtin "type.__prepare__"), (.type "type")]), #[]⟩
noncomputable abbrev obf153 (P : Params) : Obj := ⟨(.type "dict"), none, (.dict #[⟨PyData.keyHash P (Str.ofString "__module__"), (.str (Str.ofString "__module__") 357), (.str (Str.ofString "cpy313.email._header_value_parser") 194)⟩, ⟨PyData.keyHash P (Str.ofString "__qualname__"), (.str (Str.ofString "__qualname__") 359), (.str (Str.ofString "ValueTerminal") 358)⟩, ⟨PyData.keyHash P (Str.ofString "__firstlineno__"), (.str (Str.ofString "__firstlineno__") 361), (.int 55 360)⟩, ⟨PyData.keyHash P (Str.ofString "value"), (.str (Str.ofString "value") 369), (.ref 165)⟩, ⟨PyData.keyHash P (Str.ofString "startswith_fws"), (.str (Str.ofString "startswith_fws") 376), (.ref 172)⟩, ⟨PyData.keyHash P (Str.ofString "__static_attributes__"), (.str (Str.ofString "__static_attributes__") 377), (.ref 173)⟩] 6), #[]⟩
noncomputable abbrev obf154 (P : Params) : Obj := ⟨(.type "tuple"), none, (.seq #[] 0), #[]⟩
noncomputable abbrev obf155 (P : Params) : Obj := ⟨.none, none, (.fields #[(.int 58 0), (.int 4 0), (.ref 163), (.int 61 0), (.int 4 0), (.ref 171)]), #[]⟩
noncomputable abbrev obf156 (P : Params) : Obj := ⟨(.type "code"), none, (.fields #[(.str (Str.ofString "ValueTerminal") 352), (.str (Str.ofString "ValueTerminal") 353), (.str (Str.ofString "/claim/cut.py") 354), (.int 55 0), (.int 0 0), (.int 0 0), (.int 0 0), (.int 0 0), (.ref 154), (.bool false), (.int 181 0), (.ref 155), .none, .none, .none, .none, (.int 355 0), (.int 55 0), (.str (Str.ofString "/claim/cut.py") 356)]), #[]⟩
noncomputable abbrev obf157 (P : Params) : Obj := ⟨(.type "frame"), none, .plain, #[(some (.ref 156)), (some (.ref 3)), (some (.ref 153)), none, (some (.str (Str.ofString "cpy313.email._header_value_parser") 194)), none, (some (.ref 0))]⟩
noncomputable abbrev obf158 (P : Params) : Obj := ⟨(.type "tuple"), none, (.seq #[] 0), #[]⟩
noncomputable abbrev obf159 (P : Params) : Obj := ⟨.none, none, (.fields #[]), #[]⟩
noncomputable abbrev obf160 (P : Params) : Obj := ⟨(.type "tuple"), none, (.seq #[(.str (Str.ofString "self") 365)] 0), #[]⟩
noncomputable abbrev obf161 (P : Params) : Obj := ⟨(.type "tuple"), none, (.seq #[] 0), #[]⟩
noncomputable abbrev obf162 (P : Params) : Obj := ⟨.none, none, (.func { name := (Str.ofString "value"), qualname := (Str.ofString "ValueTerminal.value"), params := fnP (stmIn 9 0), body := .stmts (fnB (stmIn 9 0)), scope := fnS (stmIn 9 0), globals := 0, closure := [], defaults := .none, kwdefaults := .none, doc := .none, pyModule := .none, annotations := none, code := .none, closureTuple := .none, builtins := 0 : FuncData}), #[]⟩
noncomputable abbrev obf163 (P : Params) : Obj := ⟨(.type "code"), none, (.fields #[(.str (Str.ofString "value") 362), (.str (Str.ofString "ValueTerminal.value") 363), (.str (Str.ofString "/claim/cut.py") 364), (.int 57 0), (.int 1 0), (.int 0 0), (.int 0 0), (.int 3 0), (.ref 158), (.bool true), (.int 181 0), (.ref 159), .none, (.ref 160), (.ref 161), (.ref 162), (.int 366 0), (.int 57 0), (.str (Str.ofString "/claim/cut.py") 367)]), #[]⟩
noncomputable abbrev obf164 (P : Params) : Obj := ⟨(.type "function"), none, (.func { name := (Str.ofString "value"), qualname := (Str.ofString "ValueTerminal.value"), params := fnP (stmIn 9 0), body := .stmts (fnB (stmIn 9 0)), scope := fnS (stmIn 9 0), globals := 3, closure := [], defaults := .none, kwdefaults := .none, doc := .none, pyModule := (.str (Str.ofString "cpy313.email._header_value_parser") 194), annotations := none, code := (.ref 163), closureTuple := .none, builtins := 0 : FuncData}), #[]⟩
noncomputable abbrev obf165 (P : Params) : Obj := ⟨(.type "property"), none, (.fields #[(.ref 164), .none, .none, .none, (.str (Str.ofString "value") 369), (.bool false)]), #[]⟩
noncomputable abbrev obf166 (P : Params) : Obj := ⟨(.type "tuple"), none, (.seq #[] 0), #[]⟩
noncomputable abbrev obf167 (P : Params) : Obj := ⟨.none, none, (.fields #[]), #[]⟩
noncomputable abbrev obf168 (P : Params) : Obj := ⟨(.type "tuple"), none, (.seq #[(.str (Str.ofString "self") 373)] 0), #[]⟩
noncomputable abbrev obf169 (P : Params) : Obj := ⟨(.type "tuple"), none, (.seq #[] 0), #[]⟩
noncomputable abbrev obf170 (P : Params) : Obj := ⟨.none, none, (.func { name := (Str.ofString "startswith_fws"), qualname := (Str.ofString "ValueTerminal.startswith_fws"), params := fnP (stmIn 9 1), body := .stmts (fnB (stmIn 9 1)), scope := fnS (stmIn 9 1), globals := 0, closure := [], defaults := .none, kwdefaults := .none, doc := .none, pyModule := .none, annotations := none, code := .none, closureTuple := .none, builtins := 0 : FuncData}), #[]⟩
noncomputable abbrev obf171 (P : Params) : Obj := ⟨(.type "code"), none, (.fields #[(.str (Str.ofString "startswith_fws") 370), (.str (Str.ofString "ValueTerminal.startswith_fws") 371), (.str (Str.ofString "/claim/cut.py") 372), (.int 61 0), (.int 1 0), (.int 0 0), (.int 0 0), (.int 3 0), (.ref 166), (.bool true), (.int 181 0), (.ref 167), .none, (.ref 168), (.ref 169), (.ref 170), (.int 374 0), (.int 61 0), (.str (Str.ofString "/claim/cut.py") 375)]), #[]⟩
noncomputable abbrev obf172 (P : Params) : Obj := ⟨(.type "function"), none, (.func { name := (Str.ofString "startswith_fws"), qualname := (Str.ofString "ValueTerminal.startswith_fws"), params := fnP (stmIn 9 1), body := .stmts (fnB (stmIn 9 1)), scope := fnS (stmIn 9 1), globals := 3, closure := [], defaults := .none, kwdefaults := .none, doc := .none, pyModule := (.str (Str.ofString "cpy313.email._header_value_parser") 194), annotations := none, code := (.ref 171), closureTuple := .none, builtins := 0 : FuncData}), #[]⟩
noncomputable abbrev obf173 (P : Params) : Obj := ⟨(.type "tuple"), none, (.seq #[] 0), #[]⟩
noncomputable abbrev obf174 (P : Params) : Obj := ⟨(.type "dict"), none, (.dict #[⟨PyData.keyHash P (Str.ofString "__module__"), (.str (Str.ofString "__module__") 357), (.str (Str.ofString "cpy313.email._header_value_parser") 194)⟩, ⟨PyData.keyHash P (Str.ofString "__firstlineno__"), (.str (Str.ofString "__firstlineno__") 361), (.int 55 360)⟩, ⟨PyData.keyHash P (Str.ofString "value"), (.str (Str.ofString "value") 369), (.ref 165)⟩, ⟨PyData.keyHash P (Str.ofString "startswith_fws"), (.str (Str.ofString "startswith_fws") 376), (.ref 172)⟩, ⟨PyData.keyHash P (Str.ofString "__static_attributes__"), (.str (Str.ofString "__static_attributes__") 377), (.ref 173)⟩, ⟨PyData.keyHash P (Str.ofString "__doc__"), (.str (Str.ofString "__doc__") 378), .none⟩] 2), #[]⟩
noncomputable abbrev obf175 (P : Params) : Obj := ⟨(.type "type"), none, (.cls { name := (Str.ofString "ValueTerminal"), bases := [(.ref 118)], mro := [(.ref 175), (.ref 118), (.type "str"), (.type "object")], ns := 174, qualname := (Str.ofString "ValueTerminal"), hasDict := true, slotNames := [], subclasses := [], abstract := false, collection := none, hasDel := false : ClassData}), #[(some (.ref 151)), none, (some (.str (Str.ofString "ValueTerminal") 350)), (some (.str (Str.ofString "ValueTerminal") 358)), (some .none), (some (.bool true))]⟩
noncomputable abbrev obf176 (P : Params) : Obj := ⟨(.type "super"), none, (.fields #[(.ref 175), (.ref 175), (.ref 175)]), #[]⟩
noncomputable abbrev obf177 (P : Params) : Obj := ⟨(.type "builtin_function_or_method"), none, (.fields #[(.builtin "object.__init_subclass__"), (.ref 175)]), #[]⟩
noncomputable abbrev obf178 (P : Params) : Obj := ⟨(.type "tuple"), none, (.seq #[(.ref 148)] 0), #[]⟩
noncomputable abbrev obf179 (P : Params) : Obj := ⟨(.type "builtin_function_or_method"), none, (.fields #[(.builtin "type.__prepare__"), (.type "type")]), #[]⟩
noncomputable abbrev obf180 (P : Params) : Obj := ⟨(.type "dict"), none, (.dict #[⟨PyData.keyHash P (Str.ofString "__module__"), (.str (Str.ofString "__module__") 388), (.str (Str.ofString "cpy313.email._header_value_parser") 194)⟩, ⟨PyData.keyHash P (Str.ofString "__qualname__"), (.str (Str.ofString "__qualname__") 390), (.str (Str.ofString "EWWhiteSpaceTerminal") 389)⟩, ⟨PyData.keyHash P (Str.ofString "__firstlineno__"), (.str (Str.ofString "__firstlineno__") 392), (.int 63 391)⟩, ⟨PyData.keyHash P (Str.ofString "value"), (.str (Str.ofString "value") 400), (.ref 192)⟩, ⟨PyData.keyHash P (Str.ofString "__str__"), (.str (Str.ofString "__str__") 407), (.ref 199)⟩, ⟨PyData.keyHash P (Str.ofString "__static_attributes__"), (.str (Str.ofString "__static_attributes__") 408), (.ref 200)⟩] 6), #[]⟩
noncomputable abbrev obf181 (P : Params) : Obj := ⟨(.type "tuple"), none, (.seq #[] 0), #[]⟩
noncomputable abbrev obf182 (P : Params) : Obj := ⟨.none, none, (.fields #[(.int 66 0), (.int 4 0), (.ref 190), (.int 69 0), (.int 4 0), (.ref 198)]), #[]⟩
noncomputable abbrev obf183 (P : Params) : Obj := ⟨(.type "code"), none, (.fields #[(.str (Str.ofString "EWWhiteSpaceTerminal") 383), (.str (Str.ofString "EWWhiteSpaceTerminal") 384), (.str (Str.ofString "/claim/cut.py") 385), (.int 63 0), (.int 0 0), (.int 0 0), (.int 0 0), (.int 0 0), (.ref 181), (.bool false), (.int 181 0), (.ref 182), .none, .none, .none, .none, (.int 386 0), (.int 63 0), (.str (Str.ofString "/claim/cut.py") 387)]), #[]⟩
noncomputable abbrev obf184 (P : Params) : Obj := ⟨(.type "frame"), none, .plain, #[(some (.ref 183)), (some (.ref 3)), (some (.ref 180)), none, (some (.str (Str.ofString "cpy313.email._header_value_parser") 194)), none, (some (.ref 0))]⟩
noncomputable abbrev obf185 (P : Params) : Obj := ⟨(.type "tuple"), none, (.seq #[] 0), #[]⟩
noncomputable abbrev obf186 (P : Params) : Obj := ⟨.none, none, (.fields #[]), #[]⟩
noncomputable abbrev obf187 (P : Params) : Obj := ⟨(.type "tuple"), none, (.seq #[(.str (Str.ofString "self") 396)] 0), #[]⟩
noncomputable abbrev obf188 (P : Params) : Obj := ⟨(.type "tuple"), none, (.seq #[] 0), #[]⟩
noncomputable abbrev obf189 (P : Params) : Obj := ⟨.none, none, (.func { name := (Str.ofString "value"), qualname := (Str.ofString "EWWhiteSpaceTerminal.value"), params := fnP (stmIn 10 0), body := .stmts (fnB (stmIn 10 0)), scope := fnS (stmIn 10 0), globals := 0, closure := [], defaults := .none, kwdefaults := .none, doc := .none, pyModule := .none, annotations := none, code := .none, closureTuple := .none, builtins := 0 : FuncData}), #[]⟩
noncomputable abbrev obf190 (P : Params) : Obj := ⟨(.type "code"), none, (.fields #[(.str (Str.ofString "value") 393), (.str (Str.ofString "EWWhiteSpaceTerminal.value") 394), (.str (Str.ofString "/claim/cut.py") 395), (.int 65 0), (.int 1 0), (.int 0 0), (.int 0 0), (.int 3 0), (.ref 185), (.bool true), (.int 181 0), (.ref 186), .none, (.ref 187), (.ref 188), (.ref 189), (.int 397 0), (.int 65 0), (.str (Str.ofString "/claim/cut.py") 398)]), #[]⟩
noncomputable abbrev obf191 (P : Params) : Obj := ⟨(.type "function"), none, (.func { name := (Str.ofString "value"), qualname := (Str.ofString "EWWhiteSpaceTerminal.value"), params := fnP (stmIn 10 0), body := .stmts (fnB (stmIn 10 0)), scope := fnS (stmIn 10 0), globals := 3, closure := [], defaults := .none, kwdefaults := .none, doc := .none, pyModule := (.str (Str.ofString "cpy313.email._header_value_parser") 194), annotations := none, code := (.ref 190), closureTuple := .none, builtins := 0 : FuncData}), #[]⟩
noncomputable abbrev obf192 (P : Params) : Obj := ⟨(.type "property"), none, (.fields #[(.ref 191), .none, .none, .none, (.str (Str.ofString "value") 400), (.bool false)]), #[]⟩
noncomputable abbrev obf193 (P : Params) : Obj := ⟨(.type "tuple"), none, (.seq #[] 0), #[]⟩
noncomputable abbrev obf194 (P : Params) : Obj := ⟨.none, none, (.fields #[]), #[]⟩
noncomputable abbrev obf195 (P : Params) : Obj := ⟨(.type "tuple"), none, (.seq #[(.str (Str.ofString "self") 404)] 0), #[]⟩
noncomputable abbrev obf196 (P : Params) : Obj := ⟨(.type "tuple"), none, (.seq #[] 0), #[]⟩
noncomputable abbrev obf197 (P : Params) : Obj := ⟨.none, none, (.func { name := (Str.ofString "__str__"), qualname := (Str.ofString "EWWhiteSpaceTerminal.__str__"), params := fnP (stmIn 10 1), body := .stmts (fnB (stmIn 10 1)), scope := fnS (stmIn 10 1), globals := 0, closure := [], defaults := .none, kwdefaults := .none, doc := .none, pyModule := .none, annotations := none, code := .none, closureTuple := .none, builtins := 0 : FuncData}), #[]⟩
noncomputable abbrev obf198 (P : Params) : Obj := ⟨(.type "code"), none, (.fields #[(.str (Str.ofString "__str__") 401), (.str (Str.ofString "EWWhiteSpaceTerminal.__str__") 402), (.str (Str.ofString "/claim/cut.py") 403), (.int 69 0), (.int 1 0), (.int 0 0), (.int 0 0), (.int 3 0), (.ref 193), (.bool true), (.int 181 0), (.ref 194), .none, (.ref 195), (.ref 196), (.ref 197), (.int 405 0), (.int 69 0), (.str (Str.ofString "/claim/cut.py") 406)]), #[]⟩
noncomputable abbrev obf199 (P : Params) : Obj := ⟨(.type "function"), none, (.func { name := (Str.ofString "__str__"), qualname := (Str.ofString "EWWhiteSpaceTerminal.__str__"), params := fnP (stmIn 10 1), body := .stmts (fnB (stmIn 10 1)), scope := fnS (stmIn 10 1), globals := 3, closure := [], defaults := .none, kwdefaults := .none, doc := .none, pyModule := (.str (Str.ofString "cpy313.email._header_value_parser") 194), annotations := none, code := (.ref 198), closureTuple := .none, builtins := 0 : FuncData}), #[]⟩
noncomputable abbrev obf200 (P : Params) : Obj := ⟨(.type "tuple"), none, (.seq #[] 0), #[]⟩
noncomputable abbrev obf201 (P : Params) : Obj := ⟨(.type "dict"), none, (.dict #[⟨PyData.keyHash P (Str.ofString "__module__"), (.str (Str.ofString "__module__") 388), (.str (Str.ofString "cpy313.email._header_value_parser") 194)⟩, ⟨PyData.keyHash P (Str.ofString "__firstlineno__"), (.str (Str.ofString "__firstlineno__") 392), (.int 63 391)⟩, ⟨PyData.keyHash P (Str.ofString "value"), (.str (Str.ofString "value") 400), (.ref 192)⟩, ⟨PyData.keyHash P (Str.ofString "__str__"), (.str (Str.ofString "__str__") 407), (.ref 199)⟩, ⟨PyData.keyHash P (Str.ofString "__static_attributes__"), (.str (Str.ofString "__static_attributes__") 408), (.ref 200)⟩, ⟨PyData.keyHash P (Str.ofString "__doc__"), (.str (Str.ofString "__doc__") 409), .none⟩] 2), #[]⟩
noncomputable abbrev obf202 (P : Params) : Obj := ⟨(.type "type"), none, (.cls { name := (Str.ofString "EWWhiteSpaceTerminal"), bases := [(.ref 148)], mro := [(.ref 202), (.ref 148), (.ref 118), (.type "str"), (.type "object")], ns := 201, qualname := (Str.ofString "EWWhiteSpaceTerminal"), hasDict := true, slotNames := [], subclasses := [], abstract := false, collection := none, hasDel := false : ClassData}), #[(some (.ref 178)), none, (some (.str (Str.ofString "EWWhiteSpaceTerminal") 381)), (some (.str (Str.ofString "EWWhiteSpaceTerminal") 389)), (some .none), (some (.bool true))]⟩
noncomputable abbrev obf203 (P : Params) : Obj := ⟨(.type "super"), none, (.fields #[(.ref 202), (.ref 202), (.ref 202)]), #[]⟩
noncomputable abbrev obf204 (P : Params) : Obj := ⟨(.type "builtin_function_or_method"), none, (.fields #[(.builtin "object.__init_subclass__"), (.ref 202)]), #[]⟩
noncomputable abbrev obf205 (P : Params) : Obj := ⟨(.type "tuple"), none, (.seq #[] 0), #[]⟩
noncomputable abbrev obf206 (P : Params) : Obj := ⟨.none, none, (.fields #[]), #[]⟩
noncomputable abbrev obf207 (P : Params) : Obj := ⟨(.type "tuple"), none, (.seq #[(.str (Str.ofString "value") 415), (.str (Str.ofString "newvalue") 416), (.str (Str.ofString "fws") 417)] 0), #[]⟩
noncomputable abbrev obf208 (P : Params) : Obj := ⟨(.type "tuple"), none, (.seq #[] 0), #[]⟩
noncomputable abbrev obf209 (P : Params) : Obj := ⟨.none, none, (.func { name := (Str.ofString "get_fws"), qualname := (Str.ofString "get_fws"), params := fnP (stm 11), body := .stmts (fnB (stm 11)), scope := fnS (stm 11), globals := 0, closure := [], defaults := .none, kwdefaults := .none, doc := .none, pyModule := .none, annotations := none, code := .none, closureTuple := .none, builtins := 0 : FuncData}), #[]⟩
noncomputable abbrev obf210 (P : Params) : Obj := ⟨(.type "code"), none, (.fields #[(.str (Str.ofString "get_fws") 412), (.str (Str.ofString "get_fws") 413), (.str (Str.ofString "/claim/cut.py") 414), (.int 71 0), (.int 1 0), (.int 0 0), (.int 0 0), (.int 3 0), (.ref 205), (.bool true), (.int 181 0), (.ref 206), .none, (.ref 207), (.ref 208), (.ref 209), (.int 418 0), (.int 71 0), (.str (Str.ofString "/claim/cut.py") 419)]), #[]⟩
noncomputable abbrev obf211 (P : Params) : Obj := ⟨(.type "function"), none, (.func { name := (Str.ofString "get_fws"), qualname := (Str.ofString "get_fws"), params := fnP (stm 11), body := .stmts (fnB (stm 11)), scope := fnS (stm 11), globals := 3, closure := [], defaults := .none, kwdefaults := .none, doc := .none, pyModule := (.str (Str.ofString "cpy313.email._header_value_parser") 194), annotations := none, code := (.ref 210), closureTuple := .none, builtins := 0 : FuncData}), #[]⟩
noncomputable abbrev obf212 (P : Params) : Obj := ⟨(.type "tuple"), none, (.seq #[] 0), #[]⟩
noncomputable abbrev obf213 (P : Params) : Obj := ⟨.none, none, (.fields #[]), #[]⟩
noncomputable abbrev obf214 (P : Params) : Obj := ⟨(.type "tuple"), none, (.seq #[(.str (Str.ofString "numbers") 426), (.str (Str.ofString "root") 427), (.str (Str.ofString "path") 428), (.str (Str.ofString "x") 429), (.str (Str.ofString "k") 430), (.str (Str.ofString "inner") 431)] 0), #[]⟩
noncomputable abbrev obf215 (P : Params) : Obj := ⟨(.type "tuple"), none, (.seq #[] 0), #[]⟩
noncomputable abbrev obf216 (P : Params) : Obj := ⟨.none, none, (.func { name := (Str.ofString "_law_tree"), qualname := (Str.ofString "_law_tree"), params := fnP (stm 13), body := .stmts (fnB (stm 13)), scope := fnS (stm 13), globals := 0, closure := [], defaults := .none, kwdefaults := .none, doc := .none, pyModule := .none, annotations := none, code := .none, closureTuple := .none, builtins := 0 : FuncData}), #[]⟩
noncomputable abbrev obf217 (P : Params) : Obj := ⟨(.type "code"), none, (.fields #[(.str (Str.ofString "_law_tree") 423), (.str (Str.ofString "_law_tree") 424), (.str (Str.ofString "/claim/cut.py") 425), (.int 76 0), (.int 1 0), (.int 0 0), (.int 0 0), (.int 3 0), (.ref 212), (.bool true), (.int 181 0), (.ref 213), .none, (.ref 214), (.ref 215), (.ref 216), (.int 432 0), (.int 76 0), (.str (Str.ofString "/claim/cut.py") 433)]), #[]⟩
noncomputable abbrev obf218 (P : Params) : Obj := ⟨(.type "function"), none, (.func { name := (Str.ofString "_law_tree"), qualname := (Str.ofString "_law_tree"), params := fnP (stm 13), body := .stmts (fnB (stm 13)), scope := fnS (stm 13), globals := 3, closure := [], defaults := .none, kwdefaults := .none, doc := .none, pyModule := (.str (Str.ofString "law_lg0008_01") 421), annotations := none, code := (.ref 217), closureTuple := .none, builtins := 0 : FuncData}), #[]⟩
noncomputable abbrev obf219 (P : Params) : Obj := ⟨(.type "tuple"), none, (.seq #[] 0), #[]⟩
noncomputable abbrev obf220 (P : Params) : Obj := ⟨.none, none, (.fields #[]), #[]⟩
noncomputable abbrev obf221 (P : Params) : Obj := ⟨(.type "tuple"), none, (.seq #[(.str (Str.ofString "code") 438)] 0), #[]⟩
noncomputable abbrev obf222 (P : Params) : Obj := ⟨(.type "tuple"), none, (.seq #[] 0), #[]⟩
noncomputable abbrev obf223 (P : Params) : Obj := ⟨.none, none, (.func { name := (Str.ofString "_law_is_white"), qualname := (Str.ofString "_law_is_white"), params := fnP (stm 14), body := .stmts (fnB (stm 14)), scope := fnS (stm 14), globals := 0, closure := [], defaults := .none, kwdefaults := .none, doc := .none, pyModule := .none, annotations := none, code := .none, closureTuple := .none, builtins := 0 : FuncData}), #[]⟩
noncomputable abbrev obf224 (P : Params) : Obj := ⟨(.type "code"), none, (.fields #[(.str (Str.ofString "_law_is_white") 435), (.str (Str.ofString "_law_is_white") 436), (.str (Str.ofString "/claim/cut.py") 437), (.int 92 0), (.int 1 0), (.int 0 0), (.int 0 0), (.int 3 0), (.ref 219), (.bool true), (.int 181 0), (.ref 220), .none, (.ref 221), (.ref 222), (.ref 223), (.int 439 0), (.int 92 0), (.str (Str.ofString "/claim/cut.py") 440)]), #[]⟩
noncomputable abbrev obf225 (P : Params) : Obj := ⟨(.type "function"), none, (.func { name := (Str.ofString "_law_is_white"), qualname := (Str.ofString "_law_is_white"), params := fnP (stm 14), body := .stmts (fnB (stm 14)), scope := fnS (stm 14), globals := 3, closure := [], defaults := .none, kwdefaults := .none, doc := .none, pyModule := (.str (Str.ofString "law_lg0008_01") 421), annotations := none, code := (.ref 224), closureTuple := .none, builtins := 0 : FuncData}), #[]⟩
noncomputable abbrev obf226 (P : Params) : Obj := ⟨(.type "tuple"), none, (.seq #[] 0), #[]⟩
noncomputable abbrev obf227 (P : Params) : Obj := ⟨.none, none, (.fields #[]), #[]⟩
noncomputable abbrev obf228 (P : Params) : Obj := ⟨.none, none, (.func { name := (Str.ofString "_law_shown"), qualname := (Str.ofString "_law_shown"), params := fnP (stm 15), body := .stmts (fnB (stm 15)), scope := fnS (stm 15), globals := 0, closure := [], defaults := .none, kwdefaults := .none, doc := .none, pyModule := .none, annotations := none, code := .none, closureTuple := .none, builtins := 0 : FuncData}), #[]⟩
noncomputable abbrev obf229 (P : Params) : Obj := ⟨(.type "code"), none, (.fields #[(.str (Str.ofString "_law_shown") 442), (.str (Str.ofString "_law_shown") 443), (.str (Str.ofString "/claim/cut.py") 444), (.int 94 0), (.int 1 0), (.int 0 0), (.int 0 0), (.int 3 0), (.ref 226), (.bool true), (.int 181 0), (.ref 227), .none, .none, .none, (.ref 228), (.int 445 0), (.int 94 0), (.str (Str.ofString "/claim/cut.py") 446)]), #[]⟩
noncomputable abbrev obf230 (P : Params) : Obj := ⟨(.type "function"), none, (.func { name := (Str.ofString "_law_shown"), qualname := (Str.ofString "_law_shown"), params := fnP (stm 15), body := .stmts (fnB (stm 15)), scope := fnS (stm 15), globals := 3, closure := [], defaults := .none, kwdefaults := .none, doc := .none, pyModule := (.str (Str.ofString "law_lg0008_01") 421), annotations := none, code := (.ref 229), closureTuple := .none, builtins := 0 : FuncData}), #[]⟩
noncomputable abbrev obf231 (P : Params) : Obj := ⟨(.type "tuple"), none, (.seq #[] 0), #[]⟩
noncomputable abbrev obf232 (P : Params) : Obj := ⟨.none, none, (.fields #[]), #[]⟩
noncomputable abbrev obf233 (P : Params) : Obj := ⟨.none, none, (.func { name := (Str.ofString "_law_bare"), qualname := (Str.ofString "_law_bare"), params := fnP (stm 16), body := .stmts (fnB (stm 16)), scope := fnS (stm 16), globals := 0, closure := [], defaults := .none, kwdefaults := .none, doc := .none, pyModule := .none, annotations := none, code := .none, closureTuple := .none, builtins := 0 : FuncData}), #[]⟩
noncomputable abbrev obf234 (P : Params) : Obj := ⟨(.type "code"), none, (.fields #[(.str (Str.ofString "_law_bare") 448), (.str (Str.ofString "_law_bare") 449), (.str (Str.ofString "/claim/cut.py") 450), (.int 103 0), (.int 1 0), (.int 0 0), (.int 0 0), (.int 3 0), (.ref 231), (.bool true), (.int 181 0), (.ref 232), .none, .none, .none, (.ref 233), (.int 451 0), (.int 103 0), (.str (Str.ofString "/claim/cut.py") 452)]), #[]⟩
noncomputable abbrev obf235 (P : Params) : Obj := ⟨(.type "function"), none, (.func { name := (Str.ofString "_law_bare"), qualname := (Str.ofString "_law_bare"), params := fnP (stm 16), body := .stmts (fnB (stm 16)), scope := fnS (stm 16), globals := 3, closure := [], defaults := .none, kwdefaults := .none, doc := .none, pyModule := (.str (Str.ofString "law_lg0008_01") 421), annotations := none, code := (.ref 234), closureTuple := .none, builtins := 0 : FuncData}), #[]⟩
noncomputable abbrev obf236 (P : Params) : Obj := ⟨(.type "tuple"), none, (.seq #[] 0), #[]⟩
noncomputable abbrev obf237 (P : Params) : Obj := ⟨.none, none, (.fields #[]), #[]⟩
noncomputable abbrev obf238 (P : Params) : Obj := ⟨(.type "tuple"), none, (.seq #[(.str (Str.ofString "tree") 457), (.str (Str.ofString "texts") 458), (.str (Str.ofString "part") 459)] 0), #[]⟩
noncomputable abbrev obf239 (P : Params) : Obj := ⟨(.type "tuple"), none, (.seq #[] 0), #[]⟩
noncomputable abbrev obf240 (P : Params) : Obj := ⟨.none, none, (.func { name := (Str.ofString "_law_texts"), qualname := (Str.ofString "_law_texts"), params := fnP (stm 17), body := .stmts (fnB (stm 17)), scope := fnS (stm 17), globals := 0, closure := [], defaults := .none, kwdefaults := .none, doc := .none, pyModule := .none, annotations := none, code := .none, closureTuple := .none, builtins := 0 : FuncData}), #[]⟩
noncomputable abbrev obf241 (P : Params) : Obj := ⟨(.type "code"), none, (.fields #[(.str (Str.ofString "_law_texts") 454), (.str (Str.ofString "_law_texts") 455), (.str (Str.ofString "/claim/cut.py") 456), (.int 105 0), (.int 1 0), (.int 0 0), (.int 0 0), (.int 3 0), (.ref 236), (.bool true), (.int 181 0), (.ref 237), .none, (.ref 238), (.ref 239), (.ref 240), (.int 460 0), (.int 105 0), (.str (Str.ofString "/claim/cut.py") 461)]), #[]⟩
noncomputable abbrev obf242 (P : Params) : Obj := ⟨(.type "function"), none, (.func { name := (Str.ofString "_law_texts"), qualname := (Str.ofString "_law_texts"), params := fnP (stm 17), body := .stmts (fnB (stm 17)), scope := fnS (stm 17), globals := 3, closure := [], defaults := .none, kwdefaults := .none, doc := .none, pyModule := (.str (Str.ofString "law_lg0008_01") 421), annotations := none, code := (.ref 241), closureTuple := .none, builtins := 0 : FuncData}), #[]⟩
noncomputable abbrev obf243 (P : Params) : Obj := ⟨(.type "tuple"), none, (.seq #[] 0), #[]⟩
noncomputable abbrev obf244 (P : Params) : Obj := ⟨.none, none, (.fields #[]), #[]⟩
noncomputable abbrev obf245 (P : Params) : Obj := ⟨(.type "tuple"), none, (.seq #[(.str (Str.ofString "line") 466), (.str (Str.ofString "pieces") 467), (.str (Str.ofString "token") 468), (.str (Str.ofString "size") 469)] 0), #[]⟩
noncomputable abbrev obf246 (P : Params) : Obj := ⟨(.type "tuple"), none, (.seq #[] 0), #[]⟩
noncomputable abbrev obf247 (P : Params) : Obj := ⟨.none, none, (.func { name := (Str.ofString "_law_pieces"), qualname := (Str.ofString "_law_pieces"), params := fnP (stm 18), body := .stmts (fnB (stm 18)), scope := fnS (stm 18), globals := 0, closure := [], defaults := .none, kwdefaults := .none, doc := .none, pyModule := .none, annotations := none, code := .none, closureTuple := .none, builtins := 0 : FuncData}), #[]⟩
noncomputable abbrev obf248 (P : Params) : Obj := ⟨(.type "code"), none, (.fields #[(.str (Str.ofString "_law_pieces") 463), (.str (Str.ofString "_law_pieces") 464), (.str (Str.ofString "/claim/cut.py") 465), (.int 113 0), (.int 1 0), (.int 0 0), (.int 0 0), (.int 3 0), (.ref 243), (.bool true), (.int 181 0), (.ref 244), .none, (.ref 245), (.ref 246), (.ref 247), (.int 470 0), (.int 113 0), (.str (Str.ofString "/claim/cut.py") 471)]), #[]⟩
noncomputable abbrev obf249 (P : Params) : Obj := ⟨(.type "function"), none, (.func { name := (Str.ofString "_law_pieces"), qualname := (Str.ofString "_law_pieces"), params := fnP (stm 18), body := .stmts (fnB (stm 18)), scope := fnS (stm 18), globals := 3, closure := [], defaults := .none, kwdefaults := .none, doc := .none, pyModule := (.str (Str.ofString "law_lg0008_01") 421), annotations := none, code := (.ref 248), closureTuple := .none, builtins := 0 : FuncData}), #[]⟩
noncomputable abbrev obf250 (P : Params) : Obj := ⟨(.type "tuple"), none, (.seq #[] 0), #[]⟩
noncomputable abbrev obf251 (P : Params) : Obj := ⟨.none, none, (.fields #[]), #[]⟩
noncomputable abbrev obf252 (P : Params) : Obj := ⟨.none, none, (.func { name := (Str.ofString "_law_remark"), qualname := (Str.ofString "_law_remark"), params := fnP (stm 19), body := .stmts (fnB (stm 19)), scope := fnS (stm 19), globals := 0, closure := [], defaults := .none, kwdefaults := .none, doc := .none, pyModule := .none, annotations := none, code := .none, closureTuple := .none, builtins := 0 : FuncData}), #[]⟩
noncomputable abbrev obf253 (P : Params) : Obj := ⟨(.type "code"), none, (.fields #[(.str (Str.ofString "_law_remark") 473), (.str (Str.ofString "_law_remark") 474), (.str (Str.ofString "/claim/cut.py") 475), (.int 128 0), (.int 1 0), (.int 0 0), (.int 0 0), (.int 3 0), (.ref 250), (.bool true), (.int 181 0), (.ref 251), .none, .none, .none, (.ref 252), (.int 476 0), (.int 128 0), (.str (Str.ofString "/claim/cut.py") 477)]), #[]⟩
noncomputable abbrev obf254 (P : Params) : Obj := ⟨(.type "function"), none, (.func { name := (Str.ofString "_law_remark"), qualname := (Str.ofString "_law_remark"), params := fnP (stm 19), body := .stmts (fnB (stm 19)), scope := fnS (stm 19), globals := 3, closure := [], defaults := .none, kwdefaults := .none, doc := .none, pyModule := (.str (Str.ofString "law_lg0008_01") 421), annotations := none, code := (.ref 253), closureTuple := .none, builtins := 0 : FuncData}), #[]⟩
noncomputable abbrev obf255 (P : Params) : Obj := ⟨(.type "tuple"), none, (.seq #[] 0), #[]⟩
noncomputable abbrev obf256 (P : Params) : Obj := ⟨.none, none, (.fields #[]), #[]⟩
noncomputable abbrev obf257 (P : Params) : Obj := ⟨(.type "tuple"), none, (.seq #[(.str (Str.ofString "written") 482), (.str (Str.ofString "outer") 483), (.str (Str.ofString "path") 484), (.str (Str.ofString "guarded") 485), (.str (Str.ofString "sign") 486), (.str (Str.ofString "inner") 487)] 0), #[]⟩
noncomputable abbrev obf258 (P : Params) : Obj := ⟨(.type "tuple"), none, (.seq #[] 0), #[]⟩
noncomputable abbrev obf259 (P : Params) : Obj := ⟨.none, none, (.func { name := (Str.ofString "_law_read_remark"), qualname := (Str.ofString "_law_read_remark"), params := fnP (stm 20), body := .stmts (fnB (stm 20)), scope := fnS (stm 20), globals := 0, closure := [], defaults := .none, kwdefaults := .none, doc := .none, pyModule := .none, annotations := none, code := .none, closureTuple := .none, builtins := 0 : FuncData}), #[]⟩
noncomputable abbrev obf260 (P : Params) : Obj := ⟨(.type "code"), none, (.fields #[(.str (Str.ofString "_law_read_remark") 479), (.str (Str.ofString "_law_read_remark") 480), (.str (Str.ofString "/claim/cut.py") 481), (.int 136 0), (.int 1 0), (.int 0 0), (.int 0 0), (.int 3 0), (.ref 255), (.bool true), (.int 181 0), (.ref 256), .none, (.ref 257), (.ref 258), (.ref 259), (.int 488 0), (.int 136 0), (.str (Str.ofString "/claim/cut.py") 489)]), #[]⟩
noncomputable abbrev obf261 (P : Params) : Obj := ⟨(.type "function"), none, (.func { name := (Str.ofString "_law_read_remark"), qualname := (Str.ofString "_law_read_remark"), params := fnP (stm 20), body := .stmts (fnB (stm 20)), scope := fnS (stm 20), globals := 3, closure := [], defaults := .none, kwdefaults := .none, doc := .none, pyModule := (.str (Str.ofString "law_lg0008_01") 421), annotations := none, code := (.ref 260), closureTuple := .none, builtins := 0 : FuncData}), #[]⟩
noncomputable abbrev obf262 (P : Params) : Obj := ⟨(.type "tuple"), none, (.seq #[] 0), #[]⟩
noncomputable abbrev obf263 (P : Params) : Obj := ⟨.none, none, (.fields #[]), #[]⟩
noncomputable abbrev obf264 (P : Params) : Obj := ⟨(.type "tuple"), none, (.seq #[(.str (Str.ofString "written") 494), (.str (Str.ofString "found") 495), (.str (Str.ofString "bare") 496), (.str (Str.ofString "guarded") 497), (.str (Str.ofString "k") 498)] 0), #[]⟩
noncomputable abbrev obf265 (P : Params) : Obj := ⟨(.type "tuple"), none, (.seq #[] 0), #[]⟩
noncomputable abbrev obf266 (P : Params) : Obj := ⟨.none, none, (.func { name := (Str.ofString "_law_read_quoted"), qualname := (Str.ofString "_law_read_quoted"), params := fnP (stm 21), body := .stmts (fnB (stm 21)), scope := fnS (stm 21), globals := 0, closure := [], defaults := .none, kwdefaults := .none, doc := .none, pyModule := .none, annotations := none, code := .none, closureTuple := .none, builtins := 0 : FuncData}), #[]⟩
noncomputable abbrev obf267 (P : Params) : Obj := ⟨(.type "code"), none, (.fields #[(.str (Str.ofString "_law_read_quoted") 491), (.str (Str.ofString "_law_read_quoted") 492), (.str (Str.ofString "/claim/cut.py") 493), (.int 154 0), (.int 1 0), (.int 0 0), (.int 0 0), (.int 3 0), (.ref 262), (.bool true), (.int 181 0), (.ref 263), .none, (.ref 264), (.ref 265), (.ref 266), (.int 499 0), (.int 154 0), (.str (Str.ofString "/claim/cut.py") 500)]), #[]⟩
noncomputable abbrev obf268 (P : Params) : Obj := ⟨(.type "function"), none, (.func { name := (Str.ofString "_law_read_quoted"), qualname := (Str.ofString "_law_read_quoted"), params := fnP (stm 21), body := .stmts (fnB (stm 21)), scope := fnS (stm 21), globals := 3, closure := [], defaults := .none, kwdefaults := .none, doc := .none, pyModule := (.str (Str.ofString "law_lg0008_01") 421), annotations := none, code := (.ref 267), closureTuple := .none, builtins := 0 : FuncData}), #[]⟩
noncomputable abbrev obf269 (P : Params) : Obj := ⟨(.type "tuple"), none, (.seq #[] 0), #[]⟩
noncomputable abbrev obf270 (P : Params) : Obj := ⟨.none, none, (.fields #[]), #[]⟩
noncomputable abbrev obf271 (P : Params) : Obj := ⟨.none, none, (.func { name := (Str.ofString "law"), qualname := (Str.ofString "law"), params := fnP (stm 22), body := .stmts (fnB (stm 22)), scope := fnS (stm 22), globals := 0, closure := [], defaults := .none, kwdefaults := .none, doc := .none, pyModule := .none, annotations := none, code := .none, closureTuple := .none, builtins := 0 : FuncData}), #[]⟩
noncomputable abbrev obf272 (P : Params) : Obj := ⟨(.type "code"), none, (.fields #[(.str (Str.ofString "law") 502), (.str (Str.ofString "law") 503), (.str (Str.ofString "/claim/cut.py") 504), (.int 167 0), (.int 1 0), (.int 0 0), (.int 0 0), (.int 3 0), (.ref 269), (.bool true), (.int 181 0), (.ref 270), .none, .none, .none, (.ref 271), (.int 505 0), (.int 167 0), (.str (Str.ofString "/claim/cut.py") 506)]), #[]⟩
noncomputable abbrev obf273 (P : Params) : Obj := ⟨(.type "function"), none, (.func { name := (Str.ofString "law"), qualname := (Str.ofString "law"), params := fnP (stm 22), body := .stmts (fnB (stm 22)), scope := fnS (stm 22), globals := 3, closure := [], defaults := .none, kwdefaults := .none, doc := .none, pyModule := (.str (Str.ofString "law_lg0008_01") 421), annotations := none, code := (.ref 272), closureTuple := .none, builtins := 0 : FuncData}), #[]⟩
noncomputable def treeb (P : Params) : BT := (.node (boot_o_0 P) (.node (boot_o_1 P) (.node (boot_o_3 P) (.node (boot_o_7 P) .nil .nil) (.node (obb11 P) .nil .nil)) (.node (boot_o_5 P) (.node (boot_o_9 P) .nil .nil) (.node (obb13 P) .nil .nil))) (.node (boot_o_2 P) (.node (boot_o_4 P) (.node (boot_o_8 P) .nil .nil) (.node (obb12 P) .nil .nil)) (.node (boot_o_6 P) (.node (boot_o_10 P) .nil .nil) (.node (obb14 P) .nil .nil))))
noncomputable def heapB (P : Params) : Heap := ⟨⟨[boot_o_0 P, boot_o_1 P, boot_o_2 P, boot_o_3 P, boot_o_4 P, boot_o_5 P, boot_o_6 P, boot_o_7 P, boot_o_8 P, boot_o_9 P, boot_o_10 P, obb11 P, obb12 P, obb13 P, obb14 P]⟩, {}⟩
noncomputable def trees (P : Params) : BT := (.node (boot_o_0 P) (.node (boot_o_1 P) (.node (obs3 P) (.node (boot_o_7 P) (.node (obs15 P) .nil .nil) (.node (obs23 P) .nil .nil)) (.node (obb11 P) (.node (obs19 P) .nil .nil) .nil)) (.node (boot_o_5 P) (.node (boot_o_9 P) (.node (obs17 P) .nil .nil) (.node (obs25 P) .nil .nil)) (.node (obb13 P) (.node (obs21 P) .nil .nil) .nil))) (.node (boot_o_2 P) (.node (boot_o_4 P) (.node (boot_o_8 P) (.node (obs16 P) .nil .nil) (.node (obs24 P) .nil .nil)) (.node (obs12 P) (.node (obs20 P) .nil .nil) .nil)) (.node (boot_o_6 P) (.node (boot_o_10 P) (.node (obs18 P) .nil .nil) .nil) (.node (obb14 P) (.node (setObj P) .nil .nil) .nil))))
noncomputable def treef (P : Params) : BT := (.node (boot_o_0 P) (.node (boot_o_1 P) (.node (obf3 P) (.node (boot_o_7 P) (.node (obs15 P) (.node (obf31 P) (.node (obf63 P) (.node (obf127 P) (.node (obf255 P) .nil .nil) .nil) (.node (obf191 P) .nil .nil)) (.node (obf95 P) (.node (obf159 P) .nil .nil) (.node (obf223 P) .nil .nil))) (.node (obf47 P) (.node (obf79 P) (.node (obf143 P) (.node (obf271 P) .nil .nil) .nil) (.node (obf207 P) .nil .nil)) (.node (obf111 P) (.node (obf175 P) .nil .nil) (.node (obf239 P) .nil .nil)))) (.node (obs23 P) (.node (obf39 P) (.node (obf71 P) (.node (obf135 P) (.node (obf263 P) .nil .nil) .nil) (.node (obf199 P) .nil .nil)) (.node (obf103 P) (.node (obf167 P) .nil .nil) (.node (obf231 P) .nil .nil))) (.node (obf55 P) (.node (obf87 P) (.node (obf151 P) .nil .nil) (.node (obf215 P) .nil .nil)) (.node (obf119 P) (.node (obf183 P) .nil .nil) (.node (obf247 P) .nil .nil))))) (.node (obb11 P) (.node (obs19 P) (.node (obf35 P) (.node (obf67 P) (.node (obf131 P) (.node (obf259 P) .nil .nil) .nil) (.node (obf195 P) .nil .nil)) (.node (obf99 P) (.node (obf163 P) .nil .nil) (.node (obf227 P) .nil .nil))) (.node (obf51 P) (.node (obf83 P) (.node (obf147 P) .nil .nil) (.node (obf211 P) .nil .nil)) (.node (obf115 P) (.node (obf179 P) .nil .nil) (.node (obf243 P) .nil .nil)))) (.node (obf27 P) (.node (obf43 P) (.node (obf75 P) (.node (obf139 P) (.node (obf267 P) .nil .nil) .nil) (.node (obf203 P) .nil .nil)) (.node (obf107 P) (.node (obf171 P) .nil .nil) (.node (obf235 P) .nil .nil))) (.node (obf59 P) (.node (obf91 P) (.node (obf155 P) .nil .nil) (.node (obf219 P) .nil .nil)) (.node (obf123 P) (.node (obf187 P) .nil .nil) (.node (obf251 P) .nil .nil)))))) (.node (boot_o_5 P) (.node (boot_o_9 P) (.node (obs17 P) (.node (obf33 P) (.node (obf65 P) (.node (obf129 P) (.node (obf257 P) .nil .nil) .nil) (.node (obf193 P) .nil .nil)) (.node (obf97 P) (.node (obf161 P) .nil .nil) (.node (obf225 P) .nil .nil))) (.node (obf49 P) (.node (obf81 P) (.node (obf145 P) (.node (obf273 P) .nil .nil) .nil) (.node (obf209 P) .nil .nil)) (.node (obf113 P) (.node (obf177 P) .nil .nil) (.node (obf241 P) .nil .nil)))) (.node (obs25 P) (.node (obf41 P) (.node (obf73 P) (.node (obf137 P) (.node (obf265 P) .nil .nil) .nil) (.node (obf201 P) .nil .nil)) (.node (obf105 P) (.node (obf169 P) .nil .nil) (.node (obf233 P) .nil .nil))) (.node (obf57 P) (.node (obf89 P) (.node (obf153 P) .nil .nil) (.node (obf217 P) .nil .nil)) (.node (obf121 P) (.node (obf185 P) .nil .nil) (.node (obf249 P) .nil .nil))))) (.node (obb13 P) (.node (obs21 P) (.node (obf37 P) (.node (obf69 P) (.node (obf133 P) (.node (obf261 P) .nil .nil) .nil) (.node (obf197 P) .nil .nil)) (.node (obf101 P) (.node (obf165 P) .nil .nil) (.node (obf229 P) .nil .nil))) (.node (obf53 P) (.node (obf85 P) (.node (obf149 P) .nil .nil) (.node (obf213 P) .nil .nil)) (.node (obf117 P) (.node (obf181 P) .nil .nil) (.node (obf245 P) .nil .nil)))) (.node (obf29 P) (.node (obf45 P) (.node (obf77 P) (.node (obf141 P) (.node (obf269 P) .nil .nil) .nil) (.node (obf205 P) .nil .nil)) (.node (obf109 P) (.node (obf173 P) .nil .nil) (.node (obf237 P) .nil .nil))) (.node (obf61 P) (.node (obf93 P) (.node (obf157 P) .nil .nil) (.node (obf221 P) .nil .nil)) (.node (obf125 P) (.node (obf189 P) .nil .nil) (.node (obf253 P) .nil .nil))))))) (.node (obf2 P) (.node (boot_o_4 P) (.node (boot_o_8 P) (.node (obs16 P) (.node (obf32 P) (.node (obf64 P) (.node (obf128 P) (.node (obf256 P) .nil .nil) .nil) (.node (obf192 P) .nil .nil)) (.node (obf96 P) (.node (obf160 P) .nil .nil) (.node (obf224 P) .nil .nil))) (.node (obf48 P) (.node (obf80 P) (.node (obf144 P) (.node (obf272 P) .nil .nil) .nil) (.node (obf208 P) .nil .nil)) (.node (obf112 P) (.node (obf176 P) .nil .nil) (.node (obf240 P) .nil .nil)))) (.node (obs24 P) (.node (obf40 P) (.node (obf72 P) (.node (obf136 P) (.node (obf264 P) .nil .nil) .nil) (.node (obf200 P) .nil .nil)) (.node (obf104 P) (.node (obf168 P) .nil .nil) (.node (obf232 P) .nil .nil))) (.node (obf56 P) (.node (obf88 P) (.node (obf152 P) .nil .nil) (.node (obf216 P) .nil .nil)) (.node (obf120 P) (.node (obf184 P) .nil .nil) (.node (obf248 P) .nil .nil))))) (.node (obf12 P) (.node (obs20 P) (.node (obf36 P) (.node (obf68 P) (.node (obf132 P) (.node (obf260 P) .nil .nil) .nil) (.node (obf196 P) .nil .nil)) (.node (obf100 P) (.node (obf164 P) .nil .nil) (.node (obf228 P) .nil .nil))) (.node (obf52 P) (.node (obf84 P) (.node (obf148 P) .nil .nil) (.node (obf212 P) .nil .nil)) (.node (obf116 P) (.node (obf180 P) .nil .nil) (.node (obf244 P) .nil .nil)))) (.node (obf28 P) (.node (obf44 P) (.node (obf76 P) (.node (obf140 P) (.node (obf268 P) .nil .nil) .nil) (.node (obf204 P) .nil .nil)) (.node (obf108 P) (.node (obf172 P) .nil .nil) (.node (obf236 P) .nil .nil))) (.node (obf60 P) (.node (obf92 P) (.node (obf156 P) .nil .nil) (.node (obf220 P) .nil .nil)) (.node (obf124 P) (.node (obf188 P) .nil .nil) (.node (obf252 P) .nil .nil)))))) (.node (boot_o_6 P) (.node (boot_o_10 P) (.node (obs18 P) (.node (obf34 P) (.node (obf66 P) (.node (obf130 P) (.node (obf258 P) .nil .nil) .nil) (.node (obf194 P) .nil .nil)) (.node (obf98 P) (.node (obf162 P) .nil .nil) (.node (obf226 P) .nil .nil))) (.node (obf50 P) (.node (obf82 P) (.node (obf146 P) .nil .nil) (.node (obf210 P) .nil .nil)) (.node (obf114 P) (.node (obf178 P) .nil .nil) (.node (obf242 P) .nil .nil)))) (.node (obf26 P) (.node (obf42 P) (.node (obf74 P) (.node (obf138 P) (.node (obf266 P) .nil .nil) .nil) (.node (obf202 P) .nil .nil)) (.node (obf106 P) (.node (obf170 P) .nil .nil) (.node (obf234 P) .nil .nil))) (.node (obf58 P) (.node (obf90 P) (.node (obf154 P) .nil .nil) (.node (obf218 P) .nil .nil)) (.node (obf122 P) (.node (obf186 P) .nil .nil) (.node (obf250 P) .nil .nil))))) (.node (obb14 P) (.node (setObj P) (.node (obf38 P) (.node (obf70 P) (.node (obf134 P) (.node (obf262 P) .nil .nil) .nil) (.node (obf198 P) .nil .nil)) (.node (obf102 P) (.node (obf166 P) .nil .nil) (.node (obf230 P) .nil .nil))) (.node (obf54 P) (.node (obf86 P) (.node (obf150 P) .nil .nil) (.node (obf214 P) .nil .nil)) (.node (obf118 P) (.node (obf182 P) .nil .nil) (.node (obf246 P) .nil .nil)))) (.node (obf30 P) (.node (obf46 P) (.node (obf78 P) (.node (obf142 P) (.node (obf270 P) .nil .nil) .nil) (.node (obf206 P) .nil .nil)) (.node (obf110 P) (.node (obf174 P) .nil .nil) (.node (obf238 P) .nil .nil))) (.node (obf62 P) (.node (obf94 P) (.node (obf158 P) .nil .nil) (.node (obf222 P) .nil .nil)) (.node (obf126 P) (.node (obf190 P) .nil .nil) (.node (obf254 P) .nil .nil))))))))
noncomputable def heapF (P : Params) : Heap := ⟨⟨[boot_o_0 P, boot_o_1 P, obf2 P, obf3 P, boot_o_4 P, boot_o_5 P, boot_o_6 P, boot_o_7 P, boot_o_8 P, boot_o_9 P, boot_o_10 P, obb11 P, obf12 P, obb13 P, obb14 P, obs15 P, obs16 P, obs17 P, obs18 P, obs19 P, obs20 P, obs21 P, setObj P, obs23 P, obs24 P, obs25 P, obf26 P, obf27 P, obf28 P, obf29 P, obf30 P, obf31 P, obf32 P, obf33 P, obf34 P, obf35 P, obf36 P, obf37 P, obf38 P, obf39 P, obf40 P, obf41 P, obf42 P, obf43 P, obf44 P, obf45 P, obf46 P, obf47 P, obf48 P, obf49 P, obf50 P, obf51 P, obf52 P, obf53 P, obf54 P, obf55 P, obf56 P, obf57 P, obf58 P, obf59 P, obf60 P, obf61 P, obf62 P, obf63 P, obf64 P, obf65 P, obf66 P, obf67 P, obf68 P, obf69 P, obf70 P, obf71 P, obf72 P, obf73 P, obf74 P, obf75 P, obf76 P, obf77 P, obf78 P, obf79 P, obf80 P, obf81 P, obf82 P, obf83 P, obf84 P, obf85 P, obf86 P, obf87 P, obf88 P, obf89 P, obf90 P, obf91 P, obf92 P, obf93 P, obf94 P, obf95 P, obf96 P, obf97 P, obf98 P, obf99 P, obf100 P, obf101 P, obf102 P, obf103 P, obf104 P, obf105 P, obf106 P, obf107 P, obf108 P, obf109 P, obf110 P, obf111 P, obf112 P, obf113 P, obf114 P, obf115 P, obf116 P, obf117 P, obf118 P, obf119 P, obf120 P, obf121 P, obf122 P, obf123 P, obf124 P, obf125 P, obf126 P, obf127 P, obf128 P, obf129 P, obf130 P, obf131 P, obf132 P, obf133 P, obf134 P, obf135 P, obf136 P, obf137 P, obf138 P, obf139 P, obf140 P, obf141 P, obf142 P, obf143 P, obf144 P, obf145 P, obf146 P, obf147 P, obf148 P, obf149 P, obf150 P, obf151 P, obf152 P, obf153 P, obf154 P, obf155 P, obf156 P, obf157 P, obf158 P, obf159 P, obf160 P, obf161 P, obf162 P, obf163 P, obf164 P, obf165 P, obf166 P, obf167 P, obf168 P, obf169 P, obf170 P, obf171 P, obf172 P, obf173 P, obf174 P, obf175 P, obf176 P, obf177 P, obf178 P, obf179 P, obf180 P, obf181 P, obf182 P, obf183 P, obf184 P, obf185 P, obf186 P, obf187 P, obf188 P, obf189 P, obf190 P, obf191 P, obf192 P, obf193 P, obf194 P, obf195 P, obf196 P, obf197 P, obf198 P, obf199 P, obf200 P, obf201 P, obf202 P, obf203 P, obf204 P, obf205 P, obf206 P, obf207 P, obf208 P, obf209 P, obf210 P, obf211 P, obf212 P, obf213 P, obf214 P, obf215 P, obf216 P, obf217 P, obf218 P, obf219 P, obf220 P, obf221 P, obf222 P, obf223 P, obf224 P, obf225 P, obf226 P, obf227 P, obf228 P, obf229 P, obf230 P, obf231 P, obf232 P, obf233 P, obf234 P, obf235 P, obf236 P, obf237 P, obf238 P, obf239 P, obf240 P, obf241 P, obf242 P, obf243 P, obf244 P, obf245 P, obf246 P, obf247 P, obf248 P, obf249 P, obf250 P, obf251 P, obf252 P, obf253 P, obf254 P, obf255 P, obf256 P, obf257 P, obf258 P, obf259 P, obf260 P, obf261 P, obf262 P, obf263 P, obf264 P, obf265 P, obf266 P, obf267 P, obf268 P, obf269 P, obf270 P, obf271 P, obf272 P, obf273 P]⟩, {}⟩
noncomputable def KK (P : Params) : Frag := (nat_lit 2, obf2 P) :: (nat_lit 3, obf3 P) :: (nat_lit 15, obs15 P) :: (nat_lit 17, obs17 P) :: (nat_lit 18, obs18 P) :: (nat_lit 20, obs20 P) :: (nat_lit 21, obs21 P) :: (nat_lit 22, setObj P) :: (nat_lit 26, obf26 P) :: (nat_lit 28, obf28 P) :: (nat_lit 29, obf29 P) :: (nat_lit 31, obf31 P) :: (nat_lit 32, obf32 P) :: (nat_lit 33, obf33 P) :: (nat_lit 35, obf35 P) :: (nat_lit 36, obf36 P) :: (nat_lit 38, obf38 P) :: (nat_lit 39, obf39 P) :: (nat_lit 40, obf40 P) :: (nat_lit 42, obf42 P) :: (nat_lit 43, obf43 P) :: (nat_lit 45, obf45 P) :: (nat_lit 46, obf46 P) :: (nat_lit 47, obf47 P) :: (nat_lit 50, obf50 P) :: (nat_lit 55, obf55 P) :: (nat_lit 56, obf56 P) :: (nat_lit 58, obf58 P) :: (nat_lit 59, obf59 P) :: (nat_lit 61, obf61 P) :: (nat_lit 62, obf62 P) :: (nat_lit 63, obf63 P) :: (nat_lit 64, obf64 P) :: (nat_lit 66, obf66 P) :: (nat_lit 67, obf67 P) :: (nat_lit 69, obf69 P) :: (nat_lit 70, obf70 P) :: (nat_lit 71, obf71 P) :: (nat_lit 73, obf73 P) :: (nat_lit 74, obf74 P) :: (nat_lit 76, obf76 P) :: (nat_lit 77, obf77 P) :: (nat_lit 78, obf78 P) :: (nat_lit 80, obf80 P) :: (nat_lit 81, obf81 P) :: (nat_lit 83, obf83 P) :: (nat_lit 84, obf84 P) :: (nat_lit 85, obf85 P) :: (nat_lit 86, obf86 P) :: (nat_lit 87, obf87 P) :: (nat_lit 89, obf89 P) :: (nat_lit 90, obf90 P) :: (nat_lit 92, obf92 P) :: (nat_lit 93, obf93 P) :: (nat_lit 94, obf94 P) :: (nat_lit 96, obf96 P) :: (nat_lit 97, obf97 P) :: (nat_lit 99, obf99 P) :: (nat_lit 100, obf100 P) :: (nat_lit 101, obf101 P) :: (nat_lit 103, obf103 P) :: (nat_lit 104, obf104 P) :: (nat_lit 106, obf106 P) :: (nat_lit 107, obf107 P) :: (nat_lit 108, obf108 P) :: (nat_lit 109, obf109 P) :: (nat_lit 111, obf111 P) :: (nat_lit 112, obf112 P) :: (nat_lit 114, obf114 P) :: (nat_lit 115, obf115 P) :: (nat_lit 116, obf116 P) :: (nat_lit 117, obf117 P) :: (nat_lit 118, obf118 P) :: (nat_lit 119, obf119 P) :: (nat_lit 120, obf120 P) :: (nat_lit 121, obf121 P) :: (nat_lit 124, obf124 P) :: (nat_lit 131, obf131 P) :: (nat_lit 133, obf133 P) :: (nat_lit 134, obf134 P) :: (nat_lit 136, obf136 P) :: (nat_lit 137, obf137 P) :: (nat_lit 138, obf138 P) :: (nat_lit 139, obf139 P) :: (nat_lit 141, obf141 P) :: (nat_lit 142, obf142 P) :: (nat_lit 144, obf144 P) :: (nat_lit 145, obf145 P) :: (nat_lit 146, obf146 P) :: (nat_lit 147, obf147 P) :: (nat_lit 148, obf148 P) :: (nat_lit 151, obf151 P) :: (nat_lit 158, obf158 P) :: (nat_lit 160, obf160 P) :: (nat_lit 161, obf161 P) :: (nat_lit 163, obf163 P) :: (nat_lit 164, obf164 P) :: (nat_lit 165, obf165 P) :: (nat_lit 166, obf166 P) :: (nat_lit 168, obf168 P) :: (nat_lit 169, obf169 P) :: (nat_lit 171, obf171 P) :: (nat_lit 172, obf172 P) :: (nat_lit 173, obf173 P) :: (nat_lit 174, obf174 P) :: (nat_lit 175, obf175 P) :: (nat_lit 178, obf178 P) :: (nat_lit 185, obf185 P) :: (nat_lit 187, obf187 P) :: (nat_lit 188, obf188 P) :: (nat_lit 190, obf190 P) :: (nat_lit 191, obf191 P) :: (nat_lit 192, obf192 P) :: (nat_lit 193, obf193 P) :: (nat_lit 195, obf195 P) :: (nat_lit 196, obf196 P) :: (nat_lit 198, obf198 P) :: (nat_lit 199, obf199 P) :: (nat_lit 200, obf200 P) :: (nat_lit 201, obf201 P) :: (nat_lit 202, obf202 P) :: (nat_lit 205, obf205 P) :: (nat_lit 207, obf207 P) :: (nat_lit 208, obf208 P) :: (nat_lit 210, obf210 P) :: (nat_lit 211, obf211 P) :: (nat_lit 212, obf212 P) :: (nat_lit 214, obf214 P) :: (nat_lit 215, obf215 P) :: (nat_lit 217, obf217 P) :: (nat_lit 218, obf218 P) :: (nat_lit 219, obf219 P) :: (nat_lit 221, obf221 P) :: (nat_lit 222, obf222 P) :: (nat_lit 224, obf224 P) :: (nat_lit 225, obf225 P) :: (nat_lit 226, obf226 P) :: (nat_lit 229, obf229 P) :: (nat_lit 230, obf230 P) :: (nat_lit 231, obf231 P) :: (nat_lit 234, obf234 P) :: (nat_lit 235, obf235 P) :: (nat_lit 236, obf236 P) :: (nat_lit 238, obf238 P) :: (nat_lit 239, obf239 P) :: (nat_lit 241, obf241 P) :: (nat_lit 242, obf242 P) :: (nat_lit 243, obf243 P) :: (nat_lit 245, obf245 P) :: (nat_lit 246, obf246 P) :: (nat_lit 248, obf248 P) :: (nat_lit 249, obf249 P) :: (nat_lit 250, obf250 P) :: (nat_lit 253, obf253 P) :: (nat_lit 254, obf254 P) :: (nat_lit 255, obf255 P) :: (nat_lit 257, obf257 P) :: (nat_lit 258, obf258 P) :: (nat_lit 260, obf260 P) :: (nat_lit 261, obf261 P) :: (nat_lit 262, obf262 P) :: (nat_lit 264, obf264 P) :: (nat_lit 265, obf265 P) :: (nat_lit 267, obf267 P) :: (nat_lit 268, obf268 P) :: (nat_lit 269, obf269 P) :: (nat_lit 272, obf272 P) :: (nat_lit 273, obf273 P) :: []
noncomputable def kas : List Addr := [nat_lit 2, nat_lit 3, nat_lit 15, nat_lit 17, nat_lit 18, nat_lit 20, nat_lit 21, nat_lit 22, nat_lit 26, nat_lit 28, nat_lit 29, nat_lit 31, nat_lit 32, nat_lit 33, nat_lit 35, nat_lit 36, nat_lit 38, nat_lit 39, nat_lit 40, nat_lit 42, nat_lit 43, nat_lit 45, nat_lit 46, nat_lit 47, nat_lit 50, nat_lit 55, nat_lit 56, nat_lit 58, nat_lit 59, nat_lit 61, nat_lit 62, nat_lit 63, nat_lit 64, nat_lit 66, nat_lit 67, nat_lit 69, nat_lit 70, nat_lit 71, nat_lit 73, nat_lit 74, nat_lit 76, nat_lit 77, nat_lit 78, nat_lit 80, nat_lit 81, nat_lit 83, nat_lit 84, nat_lit 85, nat_lit 86, nat_lit 87, nat_lit 89, nat_lit 90, nat_lit 92, nat_lit 93, nat_lit 94, nat_lit 96, nat_lit 97, nat_lit 99, nat_lit 100, nat_lit 101, nat_lit 103, nat_lit 104, nat_lit 106, nat_lit 107, nat_lit 108, nat_lit 109, nat_lit 111, nat_lit 112, nat_lit 114, nat_lit 115, nat_lit 116, nat_lit 117, nat_lit 118, nat_lit 119, nat_lit 120, nat_lit 121, nat_lit 124, nat_lit 131, nat_lit 133, nat_lit 134, nat_lit 136, nat_lit 137, nat_lit 138, nat_lit 139, nat_lit 141, nat_lit 142, nat_lit 144, nat_lit 145, nat_lit 146, nat_lit 147, nat_lit 148, nat_lit 151, nat_lit 158, nat_lit 160, nat_lit 161, nat_lit 163, nat_lit 164, nat_lit 165, nat_lit 166, nat_lit 168, nat_lit 169, nat_lit 171, nat_lit 172, nat_lit 173, nat_lit 174, nat_lit 175, nat_lit 178, nat_lit 185, nat_lit 187, nat_lit 188, nat_lit 190, nat_lit 191, nat_lit 192, nat_lit 193, nat_lit 195, nat_lit 196, nat_lit 198, nat_lit 199, nat_lit 200, nat_lit 201, nat_lit 202, nat_lit 205, nat_lit 207, nat_lit 208, nat_lit 210, nat_lit 211, nat_lit 212, nat_lit 214, nat_lit 215, nat_lit 217, nat_lit 218, nat_lit 219, nat_lit 221, nat_lit 222, nat_lit 224, nat_lit 225, nat_lit 226, nat_lit 229, nat_lit 230, nat_lit 231, nat_lit 234, nat_lit 235, nat_lit 236, nat_lit 238, nat_lit 239, nat_lit 241, nat_lit 242, nat_lit 243, nat_lit 245, nat_lit 246, nat_lit 248, nat_lit 249, nat_lit 250, nat_lit 253, nat_lit 254, nat_lit 255, nat_lit 257, nat_lit 258, nat_lit 260, nat_lit 261, nat_lit 262, nat_lit 264, nat_lit 265, nat_lit 267, nat_lit 268, nat_lit 269, nat_lit 272, nat_lit 273]

noncomputable abbrev noPos : Pos := ⟨0, 0, 0, 0⟩
noncomputable abbrev topEnv : Env := { scope := pg.main.scope, locals := mainNs, globals := mainNs, cells := [], code := .ref 13, frame := some 14 }
noncomputable abbrev topCode : Code := .body (behindTheImports pg) topEnv
noncomputable abbrev topB : List Frame := [topFrame noPos]
noncomputable def stsA : List Stmt := [stm 0, stm 1, stm 2, stm 3]
noncomputable def stsB : List Stmt := [stm 4, stm 5, stm 6, stm 7, stm 8, stm 9, stm 10, stm 11, stm 12, stm 13, stm 14, stm 15, stm 16, stm 17, stm 18, stm 19, stm 20, stm 21, stm 22]
noncomputable abbrev stB (w : World) (os : OsState) : SharedT := ⟨treeb w.params, 15, {}, #[], {}, 187, os⟩
noncomputable abbrev stS (w : World) (os : OsState) : SharedT := ⟨trees w.params, 26, {}, #[], {}, 203, os⟩
noncomputable abbrev stF (w : World) (os : OsState) : SharedT := ⟨treef w.params, 274, {}, #[], {}, 508, os⟩
noncomputable abbrev posA : Pos := ⟨6, 0, 6, 3⟩
noncomputable abbrev posF : Pos := ⟨167, 0, 181, 59⟩
theorem segT_eq : @segRunT = PySem.W.Fast.tw10110043849684766642 := PySem.W.Fast.te10110043849684766642

theorem pcA (w : World) : (fun os => segRunT treeTable pg w 11 (some (.ref 6)) 1 200 (stB w os) (piecesOf stsA topEnv topCode noPos topB)) =
    fun os => some (Flow.next, stS w os, topCode, posA) := by
  refine byRow2 "special-get-raises" (P := fun w => (fun os => segRunT treeTable pg w 11 (some (.ref 6)) 1 200 (stB w os) (piecesOf stsA topEnv topCode noPos topB)) = fun os => some (Flow.next, stS w os, topCode, posA)) ?_ ?_ w
  · intro w
    rw [tbQ_eq, segT_eq]
    kernel_rfl
  · intro w
    rw [tbQ_eq, segT_eq]
    kernel_rfl
theorem pcB (w : World) : (fun os => segRunT treeTable pg w 11 (some (.ref 6)) 1 2200 (stS w os) (piecesOf stsB topEnv topCode posA topB)) =
    fun os => some (Flow.next, stF w os, topCode, posF) := by
  rw [twT_eq, segT_eq]
  kernel_rfl
end
end Mine
end

section
set_option maxRecDepth 100000
namespace Mine
open PySem PySem.W PySem.Calls PyProof.Rows
noncomputable section
theorem body_eq : behindTheImports pg = stsA ++ (stsB ++ []) := by kernel_rfl
noncomputable abbrev shB (w : World) (os : OsState) : Shared := ⟨heapB w.params, #[], {}, 187, os⟩
noncomputable abbrev shF (w : World) (os : OsState) : Shared := ⟨heapF w.params, #[], {}, 508, os⟩
theorem pcPre (w : World) (os : OsState) : topGo treeTable pg w 11 (some (.ref 6)) 12 ⟨boot_heap w.params, Array.mk [], boot_drawn, boot_toks, os⟩ (topStub pg) =
    some (shB w os, ⟨denote treeTable topCode, topCode, noPos, topB⟩) := by
  kernel_rfl
theorem pcBlock (w : World) (os : OsState) : segRun treeTable pg w 11 (some (.ref 6)) 1 1 (shB w os) (blockOf (behindTheImports pg) topEnv topCode noPos topB) =
    some (Flow.next, (stB w os).abs, topCode, noPos) := by
  kernel_rfl
theorem pcFin (w : World) (os : OsState) : topRun treeTable pg w 11 (some (.ref 6)) 2 (stF w os).abs ⟨doneF .next, topCode, posF, topB⟩ = some (shF w os) := by
  kernel_rfl
theorem topRuns (w : World) (os : OsState) : topRun treeTable pg w 11 (some (.ref 6)) (12 + (1 + (200 + (2200 + 2)))) ⟨boot_heap w.params, Array.mk [], boot_drawn, boot_toks, os⟩ (topStub pg) = some (shF w os) := by
  have h1 := piece_app (q := noPos) (rest := []) (segRun_of (congrFun (pcB w) os)) (piece_nil (pcFin w os))
  have h2 := piece_app (q := noPos) (segRun_of (congrFun (pcA w) os)) h1
  rw [← body_eq] at h2
  exact go_top (pcPre w os) (piece_block (pcBlock w os) h2)
end
end Mine
end

section
set_option maxRecDepth 100000
namespace Mine
open PySem PySem.W PySem.Calls PyProof.Rows
noncomputable section
noncomputable abbrev qv : Program := { pg with main := { pg.main with body := [stm 22] } }
noncomputable abbrev looseV : List Str := ["_wall", "_WSP", "WSP", "make_quoted_pairs", "make_parenthesis_pairs", "quote_string", "Terminal", "WhiteSpaceTerminal", "ValueTerminal", "EWWhiteSpaceTerminal", "get_fws", "_law_tree", "_law_is_white", "_law_shown", "_law_bare", "_law_texts", "_law_pieces", "_law_remark", "_law_read_remark", "_law_read_quoted"]
theorem kas_eq (P : Params) : kas = (KK P).map (·.1) := by kernel_rfl
noncomputable abbrev hkV : Hook := kHook KK kas kas_eq
theorem lk1 (w : World) (os : OsState) : (staticsOk (importedModules pg.main.body) (boot_heap w.params) (heapF w.params) && namesBound pg (heapF w.params) && gensDone (shF w os) && laidKept (boot_heap w.params) (heapF w.params)) = true := by
  kernel_rfl
theorem lk2 (w : World) (os : OsState) : openSeen qv looseV (importedModules pg.main.body) (fun _ => true) true (shF w os) = openGood qv looseV := by
  kernel_rfl
theorem lk3 (w : World) (os : OsState) : hkV.obs (shF w os) = hkV.val w := by
  kernel_rfl
theorem open0 (w : World) : (fencedOpening treeTable pg w 5000).map (fun s => (s.heap, s.gens, s.drawn, s.toks)) = some (boot_heap w.params, Array.mk [], boot_drawn, boot_toks) :=
  boot_open (by kernel_rfl) (by decide) (fun s => by kernel_rfl) w
theorem size0 (w : World) : ((boot_heap w.params).isNs mainGlobals && (Array.mk [] : Array GenState).size == 0, (boot_heap w.params).objs.size, (boot_heap w.params).nsMap mainGlobals "__annotations__") = (true, 11, some (.ref 6)) := by
  kernel_rfl
theorem leftV : LeftO pg qv looseV (fun _ => true) hkV.obs hkV.val 5000 :=
  LeftO.of_pieces (H₁ := heapF) (gs₁ := #[]) (d₁ := {}) (k₁ := 508) open0 size0 topRuns (by decide) fun w => funext fun os => by
    rw [lk1 w os, show openSeen qv looseV (importedModules pg.main.body) (fun _ => true) true ⟨heapF w.params, #[], {}, 508, os⟩ = _ from lk2 w os, show hkV.obs ⟨heapF w.params, #[], {}, 508, os⟩ = _ from lk3 w os]
end
end Mine
end

section
set_option maxRecDepth 100000
open PySem PySem.W PySem.Calls PyProof.Rows Mine
namespace Mine
noncomputable def lawRec : DefRec := ⟨Str.ofString "law", fnP (stm 22), fnB (stm 22), fnS (stm 22), ⟨167, 0, 181, 59⟩⟩
theorem lawDef : defOf qv (Str.ofString "law") = some (lawRec, []) := by kernel_rfl
theorem lawThe : pg.theDef (Str.ofString "law") = some (lawRec.params, lawRec.body, lawRec.scope) := by kernel_rfl
theorem lawKw : kwWritten? lawRec.params.kwonlyargs lawRec.params.kw_defaults = some [] := by kernel_rfl
end Mine
set_option maxHeartbeats 4000000
theorem Mine.head (walk : WalkO qv looseV (fun _ _ => True) hkV.says PySem.Challenge.rw_lg0008_01.row.toRowW lawRec [] fun f vs => PySem.call f vs) : PySem.Challenge.rw_lg0008_01.Holds := by
  w_on
  o_law
  rename_i said
  refine holds_open (r := PySem.Challenge.rw_lg0008_01.row) (q := qv) (loose := looseV) (Xt := fun _ => true) (XP := fun _ _ => True) (Yf := hkV.obs) (Ya := hkV.val) (YP := hkV.says) (N := 5000) leftV hkV.of hkV.keeps (fun _ _ => trivial) (fun _ _ _ _ _ => trivial) lawDef lawThe lawKw (fun _ _ => PySem.W.recFacts_nil rfl) rfl said (by decide +kernel) ⟨rfl, rfl, rfl, rfl, rfl, by decide +kernel⟩ ?hw walk
  case hw => w_witness2
end

section
set_option maxRecDepth 100000
set_option linter.unusedVariables false
namespace Mine
open PySem PySem.W PySem.Calls PyProof.Rows PySem.Spec

noncomputable abbrev TopV (mean : ExcName → Option Value) (mg mb : Str → Option Value) (h : Heap) : Prop := Top qv (looseW qv looseV) mean mg mb h
/-- all that stood stands as it was -/
noncomputable abbrev Kp (h h' : Heap) : Prop := ∀ b o, h.get? b = some o → h'.get? b = some o
theorem Kp.refl {h : Heap} : Kp h h := fun _ _ e => e
theorem Kp.trans {h h' h'' : Heap} (a : Kp h h') (b : Kp h' h'') : Kp h h'' := fun x o e => b x o (a x o e)
theorem frK {h₀ h h' : Heap} {L : Addr} {m : Str → Option Value} (F : Fr h₀ L h m) (k : Kp h h') : Fr h₀ L h' m := ⟨F.ns.keeps k, fun b o e => k b o (F.keep b o e), F.above⟩
theorem nwK {h₀ h h' : Heap} {L : Addr} {news : List (Addr × Obj)} (N : News h₀ L h news) (k : Kp h h') : News h₀ L h' news := fun p hp => ⟨k _ _ (N p hp).1, (N p hp).2⟩

/-- room for n more calls within one another -/
structure Ok (A : Around) (n : Nat) : Prop where
  depth : A.depth + n < 900
  units : A.units + 64 * n < 9000
  handled : A.handled = none
  frames : ∃ l, A.frames = some l
theorem Ok.deeper {A : Around} {n : Nat} {env : Env} (o : Ok A (n + 1)) : Ok (A.deeper env) n :=
  ⟨by have := o.depth; show A.depth + 1 + n < 900; omega, by have := o.units; show A.units + 3 + 64 * n < 9000; omega, o.handled, let ⟨l, h⟩ := o.frames; ⟨env :: l, by show A.frames.map (env :: ·) = _; rw [h]; rfl⟩⟩
theorem Ok.less {A : Around} {n m : Nat} (o : Ok A n) (h : m ≤ n) : Ok A m := ⟨by have := o.depth; omega, by have := o.units; omega, o.handled, o.frames⟩
theorem Ok.room {A : Around} {n : Nat} (o : Ok A n) : A.depth < recursionLimit := by have := o.depth; show A.depth < 1000; omega
theorem Ok.line {A : Around} {n : Nat} (o : Ok A n) : A.units < cLine := by have := o.units; show A.units < 9900; omega
theorem Ok.in1 {A : Around} {n : Nat} (o : Ok A (n + 1)) : Ok A.in1 n := ⟨by have := o.depth; show A.depth + n < 900; omega, by have := o.units; show A.units + 1 + 64 * n < 9000; omega, o.handled, o.frames⟩

/-- the call of a def of the top's -/
theorem call_fn {w : World} {A : Around} {s : Shared} {f : Addr} {o : Obj} {name : Str} {params : Arguments} {body : List Stmt} {scope : Scope} {pm cd doc : Value} {vals : List Value} {binds : List (Str × Value)}
    {Q E : Value → Shared → Prop} {mean : ExcName → Option Value} {mg mb : Str → Option Value}
    (X : (KK w.params).In s.heap) (T : TopV mean mg mb s.heap) (hl : (KK w.params).lookup f = some o) (hd : o.data = .func (docDef name params body scope pm cd doc)) (hc : codeIn (KK w.params) cd name = true)
    (hroom : A.depth < recursionLimit) (hbind : bindArgs (docDef name params body scope pm cd doc) ⟨vals, []⟩ = pure binds) (hloc : ∀ x ∈ binds, scope.names.lookup x.1 = some .local)
    (h : ∀ h₁ L, Fr s.heap L h₁ (fun x => binds.reverse.lookup x) → News s.heap L h₁ [] → Kp s.heap h₁ →
      wpAny (model pg w) (A.deeper (envOf name scope L f cd)) (execs body (envOf name scope L f cd))
        (fun fl s' => Q (match fl with | .ret v => v | _ => .none) s') (fun _ _ => False) { s with heap := h₁, toks := s.toks + binds.length })
    (hco : scope.isCoroutine = false := by rfl) (hgen : scope.isGenerator = false := by rfl) (hk : scope.kind = .function := by rfl) (hcell : ∀ x ∈ scope.names, x.2 ≠ .cell := by decide) :
    wpAny (model pg w) A (call (.ref f) vals) Q E s :=
  wpAny_call (call_plain_ret hroom (X _ _ hl) hd T.nolimit (codeRec_of X hc) hbind hloc (fun h₁ F => h h₁ _ F News.nil F.keep) hco hgen hk hcell)

/-! ### loops -/
/-- how a turn ends -/
noncomputable def StepTo {σ : Type} (h₀ : Heap) (L : Addr) (ps : σ → List (Str × Value)) (Inv : σ → List (Addr × Obj) → Prop) (I : Addr) (oI : Obj) (s₁ : Shared) (Q : Flow → Shared → Prop) (f : Flow) (s₂ : Shared) : Prop :=
  match f with
  | .ret v => Q (.ret v) s₂
  | .brk => Q .next s₂
  | _ => ∃ c h' tk m₂ news₂, s₂ = { s₁ with heap := h', toks := tk } ∧ Fr h₀ L h' m₂ ∧ News h₀ L h' (news₂ ++ [(I, oI)]) ∧ (∀ p ∈ news₂, p.1 ≠ I) ∧ (∀ p ∈ ps c, m₂ p.1 = some p.2) ∧ Inv c news₂

theorem kstB_self {m : Str → Option Value} {ps : List (Str × Value)} (h : ∀ p ∈ ps, m p.1 = some p.2) : kstB m ps = m := funext fun z => kstB_eq h fun _ => rfl

section
variable {prog : Program} {w : World} {A : Around} {E : Value → Shared → Prop} {s : Shared} {env : Env} {h₀ : Heap} {Q : Flow → Shared → Prop}

/-- a loop over what is walked, by an invariant over a state of one's own -/
theorem loop_core {σ : Type} {x : Str} {body : List Stmt} {I : Addr} {fp : List Addr} {n : Nat} {P : Nat → Value → Prop} {St : Nat → Heap → Prop} {m : Str → Option Value} {news : List (Addr × Obj)}
    (ps : σ → List (Str × Value)) (Inv : Nat → σ → List (Addr × Obj) → Prop) (c : σ)
    (W : Walks prog w A I fp [I] n P St) (hfp : ∀ b ∈ fp, b = I ∨ ∃ o, h₀.get? b = some o) (hlive : ∀ i h, St i h → ∃ o, h.get? I = some o) (hI : h₀.get? I = none) (hLI : env.locals ≠ I) (hnw : ∀ p ∈ news, p.1 ≠ I)
    (hst : St 0 s.heap) (F : Fr h₀ env.locals s.heap m) (N : News h₀ env.locals s.heap news) (hm : ∀ p ∈ ps c, m p.1 = some p.2) (h0 : Inv 0 c news)
    (turn : ∀ i v c₁ u news₁ h tk oI, i < n → P i v → Inv i c₁ news₁ → (∀ p ∈ news₁, p.1 ≠ I) → Fr h₀ env.locals h (fun y => if y = x then some v else kstB u (ps c₁) y) → News h₀ env.locals h (news₁ ++ [(I, oI)]) →
      wpAny (model prog w) A (execs body env) (StepTo h₀ env.locals ps (Inv (i + 1)) I oI { s with heap := h, toks := tk } Q) E { s with heap := h, toks := tk })
    (done : ∀ c₁ u news₁ h tk, Inv n c₁ news₁ → Fr h₀ env.locals h (kstB u (ps c₁)) → News h₀ env.locals h news₁ → Q .next { s with heap := h, toks := tk }) :
    LoopAtV prog w A h₀ env x body Q E (.ref I) s := by
  refine ⟨I, fp, [I], n, P, St, m, news, fun i m₁ news₁ => ∃ c₁, (∀ p ∈ ps c₁, m₁ p.1 = some p.2) ∧ Inv i c₁ news₁, rfl, W, ?_, ?_, ?_, hst, F, N, ⟨c, hm, h0⟩, ?_, ?_⟩
  · intro hb
    rcases hfp _ hb with e | ⟨o, e⟩
    · exact hLI e
    · exact absurd (Heap.lt_size e) (Nat.not_lt.mpr F.above)
  · intro b hb; rw [List.mem_singleton.mp hb]; exact hI
  · intro p hp hb; exact hnw p hp (List.mem_singleton.mp hb)
  · rintro i v m₁ news₁ s₁ own ⟨h, tk, rfl⟩ hi hP ⟨c₁, hm₁, hJ⟩ hn₁ hown hoat hall hst₁ F₁ N₁
    obtain ⟨oI, hoI⟩ := hlive _ _ hst₁
    have hne : ∀ p ∈ news₁, p.1 ≠ I := fun p hp e => hn₁ p hp (by rw [e]; exact List.mem_singleton.mpr rfl)
    have hmem : (I, oI) ∈ own := hall I (W.sub I (List.mem_singleton.mpr rfl)) hI oI hoI
    have e : (fun y => if y = x then some v else kstB m₁ (ps c₁) y) = fun y => if y = x then some v else m₁ y := by rw [kstB_self hm₁]
    have N₂ : News h₀ env.locals h (news₁ ++ [(I, oI)]) := fun p hp => by
      rcases List.mem_append.mp hp with hp | hp
      · exact N₁ p (List.mem_append_right _ hp)
      · rw [List.mem_singleton.mp hp]; exact N₁ _ (List.mem_append_left _ hmem)
    refine wpAny_mono (turn i v c₁ m₁ news₁ h tk oI hi hP hJ hne (e ▸ F₁) N₂) (fun f s₂ hf => ?_) fun _ _ x => x
    have key : (∃ c h' tk' m₂ news₂, s₂ = { ({ s with heap := h, toks := tk } : Shared) with heap := h', toks := tk' } ∧ Fr h₀ env.locals h' m₂ ∧ News h₀ env.locals h' (news₂ ++ [(I, oI)]) ∧ (∀ p ∈ news₂, p.1 ≠ I) ∧ (∀ p ∈ ps c, m₂ p.1 = some p.2) ∧ Inv (i + 1) c news₂) →
        LoopStepU h₀ env.locals [I] own (fun m₁ news₁ => ∃ c₁, (∀ p ∈ ps c₁, m₁ p.1 = some p.2) ∧ Inv (i + 1) c₁ news₁) { s with heap := h, toks := tk } .next s₂ := by
      rintro ⟨c₂, h', tk', m₂, news₂, rfl, F₂, N₂, hn₂, hm₂, hJ₂⟩
      refine ⟨rfl, h', tk', m₂, news₂, rfl, F₂, fun p hp => ?_, fun p hp hb => hn₂ p hp (List.mem_singleton.mp hb), c₂, hm₂, hJ₂⟩
      rcases List.mem_append.mp hp with hp | hp
      · have hat := hoat p hp
        rcases hfp _ (hown p hp) with e | ⟨o, e⟩
        · have : p = (I, oI) := by
            obtain ⟨a, b⟩ := p
            dsimp only at e hat
            subst e
            rw [hoI] at hat
            cases hat
            rfl
          rw [this]
          exact N₂ _ (List.mem_append_right _ (List.mem_singleton.mpr rfl))
        · have := (N₁ p (List.mem_append_left _ hp)).2.2
          rw [e] at this; cases this
      · exact N₂ p (List.mem_append_left _ hp)
    cases f with
    | ret v => exact hf
    | brk => exact hf
    | next => exact .next (key hf)
    | cont => exact .cont (key hf)
  · rintro h' tk m' news' F' N' _ ⟨c₁, hm₁, hJ⟩
    exact done c₁ m' news' h' tk hJ (by rw [kstB_self hm₁]; exact F') N'

theorem new_none {h₀ h : Heap} {L : Addr} {m : Str → Option Value} (F : Fr h₀ L h m) : h₀.get? h.objs.size = none := by
  cases e : h₀.get? h.objs.size with
  | none => rfl
  | some o => exact absurd (Heap.lt_size (F.keep _ _ e)) (Nat.lt_irrefl _)
theorem new_ne {h₀ h : Heap} {L : Addr} {news : List (Addr × Obj)} (N : News h₀ L h news) : ∀ p ∈ news, p.1 ≠ h.objs.size := fun p hp e => absurd (Heap.lt_size (N p hp).1) (by rw [e]; exact Nat.lt_irrefl _)

theorem iter_str {σ : Type} {x : Str} {body : List Stmt} {xt : Str} {tx : Tok} {m : Str → Option Value} {news : List (Addr × Obj)} (ps : σ → List (Str × Value)) (Inv : Nat → σ → List (Addr × Obj) → Prop) (c : σ)
    (hh : A.handled = none) (F : Fr h₀ env.locals s.heap m) (N : News h₀ env.locals s.heap news) (hm : ∀ p ∈ ps c, m p.1 = some p.2) (h0 : Inv 0 c news)
    (turn : ∀ i ch t c₁ u news₁ h tk I oI, xt.cps[i]? = some ch → Inv i c₁ news₁ → (∀ p ∈ news₁, p.1 ≠ I) → Fr h₀ env.locals h (fun y => if y = x then some (.str ⟨#[ch]⟩ t) else kstB u (ps c₁) y) → News h₀ env.locals h (news₁ ++ [(I, oI)]) →
      wpAny (model prog w) A (execs body env) (StepTo h₀ env.locals ps (Inv (i + 1)) I oI { s with heap := h, toks := tk } Q) E { s with heap := h, toks := tk })
    (done : ∀ c₁ u news₁ h tk, Inv xt.cps.size c₁ news₁ → Fr h₀ env.locals h (kstB u (ps c₁)) → News h₀ env.locals h news₁ → Q .next { s with heap := h, toks := tk }) :
    wpAny (model prog w) A (pyIter (.str xt tx)) (fun it s₂ => LoopAtV prog w A h₀ env x body Q E it s₂) E s := by
  have go : ∀ (ty : String) (W : Walks prog w A s.heap.objs.size [s.heap.objs.size] [s.heap.objs.size] xt.cps.size (SignAt xt) (fun i h => h.IsStrIter s.heap.objs.size ty xt tx i)),
      LoopAtV prog w A h₀ env x body Q E (.ref s.heap.objs.size) { s with heap := s.heap.push { cls := .type ty, data := .fields #[.str xt tx, .int 0 0] } } := fun ty W => by
    refine loop_core ps Inv c W (fun b hb => .inl (List.mem_singleton.mp hb)) (fun i h ⟨o, ho, _⟩ => ⟨o, ho⟩) (new_none F) (Nat.ne_of_lt F.ns.lt) (new_ne N) ⟨_, Heap.get?_push_size _ rfl, rfl, rfl⟩ (F.push _)
      (fun p hp => ⟨Heap.get?_push_of_some _ (N p hp).1, (N p hp).2⟩) hm h0 ?_ (fun c₁ u news₁ h tk a b d => done c₁ u news₁ h tk a b d)
    rintro i v c₁ u news₁ h tk oI hi ⟨ch, t, hch, rfl⟩ hJ hne F₁ N₁
    exact turn i ch t c₁ u news₁ h tk _ oI hch hJ hne F₁ N₁
  cases ha : xt.cps.all (· < 128)
  · exact wpAny_pyIter_wide ha (go _ (Walks.strWide hh _ _ _))
  · exact wpAny_pyIter_ascii ha (go _ (Walks.strAscii hh _ _ _))

theorem iter_list {σ : Type} {x : Str} {body : List Stmt} {l : Addr} {items : Array Value} {m : Str → Option Value} {news : List (Addr × Obj)} (ps : σ → List (Str × Value)) (Inv : Nat → σ → List (Addr × Obj) → Prop) (c : σ)
    (hh : A.handled = none) (hl : h₀.IsList l items) (F : Fr h₀ env.locals s.heap m) (N : News h₀ env.locals s.heap news) (hm : ∀ p ∈ ps c, m p.1 = some p.2) (h0 : Inv 0 c news)
    (turn : ∀ i v c₁ u news₁ h tk I oI, items[i]? = some v → Inv i c₁ news₁ → (∀ p ∈ news₁, p.1 ≠ I) → Fr h₀ env.locals h (fun y => if y = x then some v else kstB u (ps c₁) y) → News h₀ env.locals h (news₁ ++ [(I, oI)]) →
      wpAny (model prog w) A (execs body env) (StepTo h₀ env.locals ps (Inv (i + 1)) I oI { s with heap := h, toks := tk } Q) E { s with heap := h, toks := tk })
    (done : ∀ c₁ u news₁ h tk, Inv items.size c₁ news₁ → Fr h₀ env.locals h (kstB u (ps c₁)) → News h₀ env.locals h news₁ → Q .next { s with heap := h, toks := tk }) :
    wpAny (model prog w) A (pyIter (.ref l)) (fun it s₂ => LoopAtV prog w A h₀ env x body Q E it s₂) E s := by
  obtain ⟨o, ho, hc, n, hd⟩ := hl
  have hl' : s.heap.IsList l items := ⟨o, F.keep _ _ ho, hc, n, hd⟩
  have hne : l ≠ s.heap.objs.size := Nat.ne_of_lt (Heap.lt_size (F.keep _ _ ho))
  refine wpAny_pyIter_list hl' ?_
  refine loop_core ps Inv c (Walks.list hh s.heap.objs.size l hne items) ?_ (fun i h st => let ⟨o, ho, _⟩ := st.1; ⟨o, ho⟩) (new_none F) (Nat.ne_of_lt F.ns.lt) (new_ne N) ⟨⟨_, Heap.get?_push_size _ rfl, rfl, rfl⟩, ?_⟩ (F.push _)
      (fun p hp => ⟨Heap.get?_push_of_some _ (N p hp).1, (N p hp).2⟩) hm h0 ?_ (fun c₁ u news₁ h tk a b d => done c₁ u news₁ h tk a b d)
  · intro b hb
    rcases List.mem_cons.mp hb with rfl | hb
    · exact .inl rfl
    · rw [List.mem_singleton.mp hb]; exact .inr ⟨o, ho⟩
  · exact ⟨o, Heap.get?_push_of_some _ (F.keep _ _ ho), hc, n, hd⟩
  · intro i v c₁ u news₁ h tk oI hi hv hJ hne F₁ N₁
    exact turn i v c₁ u news₁ h tk _ oI hv hJ hne F₁ N₁
theorem iter_range {σ : Type} {x : Str} {body : List Stmt} {r : Addr} {b₀ : Int} {t₀ u₀ v₀ : Tok} {n : Nat} {m : Str → Option Value} {news : List (Addr × Obj)} (ps : σ → List (Str × Value)) (Inv : Nat → σ → List (Addr × Obj) → Prop) (c : σ)
    (hh : A.handled = none) (hr : IsRange s.heap r 0 b₀ 1 t₀ u₀ v₀) (hsmall : Builtin.Range.small 0 b₀ 1 = true) (hn : Builtin.Range.rangeSize 0 b₀ 1 = (n : Int)) (F : Fr h₀ env.locals s.heap m) (N : News h₀ env.locals s.heap news)
    (hm : ∀ p ∈ ps c, m p.1 = some p.2) (h0 : Inv 0 c news)
    (turn : ∀ (i : Nat) t c₁ u news₁ h tk I oI, i < n → Inv i c₁ news₁ → (∀ p ∈ news₁, p.1 ≠ I) → Fr h₀ env.locals h (fun y => if y = x then some (.int i t) else kstB u (ps c₁) y) → News h₀ env.locals h (news₁ ++ [(I, oI)]) →
      wpAny (model prog w) A (execs body env) (StepTo h₀ env.locals ps (Inv (i + 1)) I oI { s with heap := h, toks := tk } Q) E { s with heap := h, toks := tk })
    (done : ∀ c₁ u news₁ h tk, Inv n c₁ news₁ → Fr h₀ env.locals h (kstB u (ps c₁)) → News h₀ env.locals h news₁ → Q .next { s with heap := h, toks := tk }) :
    wpAny (model prog w) A (pyIter (.ref r)) (fun it s₂ => LoopAtV prog w A h₀ env x body Q E it s₂) E s := by
  refine wpAny_pyIter_range hr hsmall ?_
  refine loop_core ps Inv c (Walks.range hh s.heap.objs.size 0 1 n) (fun b hb => .inl (List.mem_singleton.mp hb)) (fun i h st => ⟨_, st⟩) (new_none F) (Nat.ne_of_lt F.ns.lt) (new_ne N)
    (by show IsRangeIter _ _ _ _ _; rw [hn]; simpa using Heap.get?_push_size _ rfl) (F.push _) (fun p hp => ⟨Heap.get?_push_of_some _ (N p hp).1, (N p hp).2⟩) hm h0 ?_ (fun c₁ u news₁ h tk a b d => done c₁ u news₁ h tk a b d)
  rintro i v c₁ u news₁ h tk oI hi ⟨t, rfl⟩ hJ hne F₁ N₁
  refine turn i t c₁ u news₁ h tk _ oI hi hJ hne ?_ N₁
  have e : (0 : Int) + (i : Int) * 1 = i := by omega
  rw [e] at F₁
  exact F₁

noncomputable def StepW {σ : Type} (h₀ : Heap) (L : Addr) (ps : σ → List (Str × Value)) (Inv : σ → List (Addr × Obj) → Prop) (μ : σ → Nat) (c : σ) (s : Shared) (Q : Flow → Shared → Prop) (f : Flow) (s₂ : Shared) : Prop :=
  match f with
  | .ret v => Q (.ret v) s₂
  | .brk => Q .next s₂
  | _ => ∃ c' h' tk m₂ news₂, s₂ = { s with heap := h', toks := tk } ∧ Fr h₀ L h' m₂ ∧ News h₀ L h' news₂ ∧ (∀ p ∈ ps c', m₂ p.1 = some p.2) ∧ Inv c' news₂ ∧ μ c' < μ c

theorem while_inv {σ : Type} {test : Expr} {body : List Stmt} {pos : Pos} {L : Addr} {m : Str → Option Value} {news : List (Addr × Obj)} (ps : σ → List (Str × Value)) (Inv : σ → List (Addr × Obj) → Prop) (μ : σ → Nat) (c : σ)
    (F : Fr h₀ L s.heap m) (N : News h₀ L s.heap news) (hm : ∀ p ∈ ps c, m p.1 = some p.2) (h0 : Inv c news)
    (turn : ∀ c₁ u news₁ h tk, Inv c₁ news₁ → Fr h₀ L h (kstB u (ps c₁)) → News h₀ L h news₁ →
      wpAny (model prog w) A (isTrue test env (eval test env)) (fun b s₂ => if b = true then wpAny (model prog w) A (execs body env) (StepW h₀ L ps Inv μ c₁ s Q) E s₂ else Q .next s₂) E { s with heap := h, toks := tk })
    (hE : PassesOwn (model prog w) A env E := by passes_own) :
    wpAny (model prog w) A (exec (.While test body [] pos) env) Q E s := by
  refine While_inv2 (fun n m₁ news₁ => ∃ c₁, (∀ p ∈ ps c₁, m₁ p.1 = some p.2) ∧ Inv c₁ news₁ ∧ μ c₁ = n) F N ⟨c, hm, h0, rfl⟩ ?_ hE
  rintro n m₁ news₁ h tk F₁ N₁ ⟨c₁, hm₁, hI, rfl⟩
  refine wpAny_mono (turn c₁ m₁ news₁ h tk hI (by rw [kstB_self hm₁]; exact F₁) N₁) (fun b s₂ p => ?_) fun _ _ x => x
  cases b with
  | false => simpa using p
  | true =>
    simp only [if_true] at p ⊢
    refine wpAny_mono p (fun f s₃ q => ?_) fun _ _ x => x
    cases f with
    | ret v => exact q
    | brk => exact q
    | next =>
      obtain ⟨c', h', tk', m', news', rfl, F', N', hm', hI', hlt⟩ := q
      exact ⟨h', tk', m', news', μ c', rfl, F', N', hlt, c', hm', hI', rfl⟩
    | cont =>
      obtain ⟨c', h', tk', m', news', rfl, F', N', hm', hI', hlt⟩ := q
      exact ⟨h', tk', m', news', μ c', rfl, F', N', hlt, c', hm', hI', rfl⟩
end
end Mine
end

section
set_option maxRecDepth 100000
set_option linter.unusedVariables false
namespace Mine
open PySem PySem.W PySem.Calls PyProof.Rows PySem.Spec

theorem len_one (c : Nat) : (Str.mk #[c]).length = 1 := rfl
theorem len_item (x : Str) (i : Int) : (Txt.item x i).length = 1 := rfl
theorem len_mk (l : List Nat) : (Str.mk l.toArray).length = l.length := by show l.toArray.size = _; rw [List.size_toArray]
theorem mk_append (a b : List Nat) : Str.mk a.toArray ++ Str.mk b.toArray = Str.mk (a ++ b).toArray := by
  refine PySem.Str.ext' ?_
  rw [PySem.Str.cps_append]
  simp
theorem str_mk (x : Str) : Str.mk x.cps.toList.toArray = x := by cases x; simp
theorem take_succ_cps {x : Str} {i c : Nat} (h : x.cps[i]? = some c) : x.cps.toList.take (i + 1) = x.cps.toList.take i ++ [c] := by
  rw [List.take_add_one, Array.getElem?_toList, h]; rfl
theorem idx_nat {i n : Nat} (h : i < n) : seqIndex? (i : Int) n = some i := by
  unfold seqIndex?
  rw [if_neg (by omega : ¬ (i : Int) < 0)]
  rw [if_pos (by simp; omega)]
  simp
theorem idx_last {n : Nat} (h : 0 < n) : seqIndex? (-1) n = some (n - 1) := by
  unfold seqIndex?
  rw [if_pos (by decide : (-1 : Int) < 0)]
  rw [if_pos (by simp; omega)]
  simp; omega
theorem item_eq {x : Str} {i c : Nat} (h : x.cps[i]? = some c) : Txt.item x (i : Int) = ⟨#[c]⟩ := by
  have hi : i < x.length := (Array.getElem?_eq_some_iff.mp h).1
  unfold Txt.item Txt.charAt
  rw [idx_nat hi, Option.bind_some, h]
  rfl
theorem occ_one (y : Str) (c : Nat) : (Builtin.Str.occurrences y ⟨#[c]⟩ 0 y.length 1).isEmpty = !decide (c ∈ y.cps.toList) := by
  rw [← StrLaws.found_one, Bool.not_not]
theorem mk_beq (a b : List Nat) : (Str.mk a.toArray == Str.mk b.toArray) = decide (a = b) := by
  by_cases h : a = b
  · subst h; simp
  · rw [decide_eq_false h]
    refine beq_eq_false_iff_ne.mpr fun e => h ?_
    have := congrArg (fun s : Str => s.cps.toList) e
    simpa using this
theorem stepTo_next {σ : Type} {h₀ : Heap} {L : Addr} {ps : σ → List (Str × Value)} {Inv : σ → List (Addr × Obj) → Prop} {I : Addr} {oI : Obj} {s₁ : Shared} {Q : Flow → Shared → Prop} (c : σ) {h' : Heap} {tk : Nat} {m₂ : Str → Option Value}
    (news₂ : List (Addr × Obj)) (F : Fr h₀ L h' m₂) (N : News h₀ L h' (news₂ ++ [(I, oI)])) (hn : ∀ p ∈ news₂, p.1 ≠ I) (hm : ∀ p ∈ ps c, m₂ p.1 = some p.2) (hI : Inv c news₂) :
    StepTo h₀ L ps Inv I oI s₁ Q .next { s₁ with heap := h', toks := tk } := ⟨c, h', tk, m₂, news₂, rfl, F, N, hn, hm, hI⟩
theorem ints_snoc {vs : List Value} {ns : List Int} {k : Int} {t : Tok} (h : IntsAre vs ns) : IntsAre (vs ++ [.int k t]) (ns ++ [k]) := h.append (.cons k t .nil)
end Mine
end

section
set_option maxRecDepth 100000
set_option linter.unusedVariables false
namespace Mine
open PySem PySem.W PySem.Calls PyProof.Rows PySem.Spec

/-- the ledger with the object at a changed -/
noncomputable def setL (a : Addr) (o : Obj) (news : List (Addr × Obj)) : List (Addr × Obj) := news.map fun p => if p.1 = a then (a, o) else p
theorem setL_off {a : Addr} {o : Obj} : ∀ {news : List (Addr × Obj)}, (∀ p ∈ news, p.1 ≠ a) → setL a o news = news
  | [], _ => rfl
  | p :: r, h => by
    show (if p.1 = a then (a, o) else p) :: setL a o r = _
    rw [if_neg (h p (.head _)), setL_off fun q hq => h q (.tail _ hq)]
theorem upd_setL {a : Addr} {o o' : Obj} : ∀ {news : List (Addr × Obj)}, (a, o) ∈ news → (news.map (·.1)).Nodup → Upd a o o' news (setL a o' news)
  | p :: r, h, hn => by
    rw [List.map_cons, List.nodup_cons] at hn
    rcases List.mem_cons.mp h with rfl | h
    · have off : ∀ q ∈ r, q.1 ≠ a := fun q hq e => hn.1 (List.mem_map.mpr ⟨q, hq, e⟩)
      show Upd a o o' ((a, o) :: r) ((if a = a then (a, o') else (a, o)) :: setL a o' r)
      rw [if_pos rfl, setL_off off]
      exact .head off
    · have hne : p.1 ≠ a := fun e => hn.1 (List.mem_map.mpr ⟨(a, o), h, e.symm⟩)
      show Upd a o o' (p :: r) ((if p.1 = a then (a, o') else p) :: setL a o' r)
      rw [if_neg hne]
      exact .tail hne (upd_setL h hn.2)
theorem setL_addrs {a : Addr} {o : Obj} (news : List (Addr × Obj)) : (setL a o news).map (·.1) = news.map (·.1) := by
  unfold setL
  rw [List.map_map]
  refine List.map_congr_left fun p _ => ?_
  show (if p.1 = a then (a, o) else p).1 = p.1
  split
  · rename_i e; exact e.symm
  · rfl

section
variable {prog : Program} {w : World} {M : Model} {A : Around} {E : Value → Shared → Prop} {s : Shared} {h₀ : Heap} {L D : Addr} {m : Str → Option Value} {news news' : List (Addr × Obj)} {env : Env}

theorem fits_small {k : Int} (h0 : -(2 ^ 63) ≤ k) (h1 : k < 2 ^ 63) : Builtin.List.listFitsIndex k = true := by
  by_cases h : k < 0
  · exact fitsIndex_neg h h0
  · exact fitsIndex_of (by omega) h1

theorem getItem_at {its : Array Value} {n : Nat} {k : Int} {t : Tok} {j : Nat} {x : Value} {Q : Value → Shared → Prop} (ho : s.heap.IsList D its) (h0 : -(2 ^ 63) ≤ k) (h1 : k < 2 ^ 63)
    (hj : seqIndex? k its.size = some j) (hx : its[j]? = some x) (h : Q x s) : wpAny (model prog w) A (getItem (.ref D) (.int k t)) Q E s := by
  by_cases hk : k < 0
  · have e : -(its.size : Int) ≤ k ∧ j = (k + its.size).toNat := by
      unfold seqIndex? at hj
      rw [if_pos hk] at hj
      dsimp only at hj
      split at hj
      · rename_i q
        simp only [Bool.and_eq_true, decide_eq_true_eq] at q
        exact ⟨by omega, (Option.some.inj hj).symm⟩
      · cases hj
    exact wpAny_getItem_list_neg ho hk e.1 h0 (by rw [← e.2]; exact hx) h
  · have e : j = k.toNat := by
      unfold seqIndex? at hj
      rw [if_neg hk] at hj
      dsimp only at hj
      split at hj
      · exact (Option.some.inj hj).symm
      · cases hj
    exact wpAny_getItem_list ho (by omega) h1 (by rw [← e]; exact hx) h

theorem setItem_at {its : Array Value} {n : Nat} {k : Int} {t : Tok} {j : Nat} {v : Value} {Q : Unit → Shared → Prop} (ho : s.heap.get? D = some (listOf its n)) (h0 : -(2 ^ 63) ≤ k) (h1 : k < 2 ^ 63)
    (hj : seqIndex? k its.size = some j) (hlt : j < its.size) (h : ∀ h', h'.get? D = some (listOf (its.setIfInBounds j v) n) → Heap.SameBut D s.heap h' → Q () { s with heap := h' }) :
    wpAny (model prog w) A (setItem (.ref D) (.int k t) v) Q E s := by
  have hl : s.heap.IsList D its := ⟨_, ho, rfl, n, rfl⟩
  unfold setItem
  refine wpAny_holding ?_
  first | refine wpAny_bind (wpAny_pure ?_) | skip
  refine wpAny_bind (wpAny_sequenceKey hl.typeIs (by decide) ?_)
  refine wpAny_bind (wpAny_callSpecial?_slot (name := Str.ofString "__setitem__") hl.typeIs slot_list_setitem
    (wpAny_call_entry slot_list_setitem hl.typeIs entry_list_setitem ?_ (args_list_setitem _ _ _)))
  show wpAny _ _ (Builtin.List.listSubscript? (.int k t) >>= _) _ _ s
  refine wpAny_bind (wpAny_listSubscript_int (fits_small h0 h1) ?_)
  clear h0 h1
  have hx' : its[j]? = some its[j] := Array.getElem?_eq_getElem hlt
  have fin : (s.heap.update D (Obj.mapSeq (·.setIfInBounds j v))).get? D = some (listOf (its.setIfInBounds j v) n) := by
    rw [Heap.get?_update_self _ ho rfl]
    simp [Obj.mapSeq]
  cases k with
  | ofNat i =>
    have e : j = i := by
      have hj' : seqIndex? (i : Int) its.size = some j := hj
      unfold seqIndex? at hj'
      have hi0 : ¬ ((i : Int) < 0) := by omega
      rw [if_neg hi0] at hj'
      dsimp only at hj'
      split at hj'
      · have := Option.some.inj hj'
        omega
      · cases hj'
    subst e
    show wpAny _ _ ((seqItemAt D j >>= fun r => pure (r.map (j, ·))) >>= _) _ _ s
    refine wpAny_bind (wpAny_bind (wpAny_seqItemAt ho rfl (wpAny_pure ?_)))
    rw [hx']
    show wpAny _ _ (setSeqItemAt D j v >>= _) _ _ s
    refine wpAny_bind (wpAny_setSeqItemAt ho rfl ?_)
    first
      | exact wpAny_bind (wpAny_pure (wpAny_pure ⟨.none, rfl, wpAny_pure (h _ fin (Heap.SameBut.update ..))⟩))
      | exact wpAny_pure ⟨.none, rfl, wpAny_pure (h _ fin (Heap.SameBut.update ..))⟩
  | negSucc i =>
    show wpAny _ _ ((Builtin.List.listItems (.ref D) >>= fun xs => pure ((seqIndex? (Int.negSucc i) xs.size).bind fun i => xs[i]?.map (i, ·))) >>= _) _ _ s
    refine wpAny_bind (wpAny_bind ?_)
    show wpAny _ _ (seqItems? (.ref D) >>= _) _ _ s
    refine wpAny_bind (wpAny_seqItems ho rfl (wpAny_pure (wpAny_pure ?_)))
    rw [hj]
    simp only [Option.bind_some, hx', Option.map_some]
    show wpAny _ _ (setSeqItemAt D j v >>= _) _ _ s
    refine wpAny_bind (wpAny_setSeqItemAt ho rfl ?_)
    first
      | exact wpAny_bind (wpAny_pure (wpAny_pure ⟨.none, rfl, wpAny_pure (h _ fin (Heap.SameBut.update ..))⟩))
      | exact wpAny_pure ⟨.none, rfl, wpAny_pure (h _ fin (Heap.SameBut.update ..))⟩

theorem setItem_U {its : Array Value} {n : Nat} {k : Int} {t : Tok} {j : Nat} {v : Value} {Q : Unit → Shared → Prop} (F : Fr h₀ L s.heap m) (N : News h₀ L s.heap news) (U : Upd D (listOf its n) (listOf (its.setIfInBounds j v) n) news news')
    (h0 : -(2 ^ 63) ≤ k) (h1 : k < 2 ^ 63) (hj : seqIndex? k its.size = some j) (hlt : j < its.size) (h : ∀ h', Fr h₀ L h' m → News h₀ L h' news' → Q () { s with heap := h' }) :
    wpAny (model prog w) A (setItem (.ref D) (.int k t) v) Q E s := by
  obtain ⟨pre, post, rfl, rfl, a, b⟩ := U.split
  have z := N (D, listOf its n) (List.mem_append.mpr (.inr (.head _)))
  exact setItem_at z.1 h0 h1 hj hlt fun h' ho' hs => h h' (F.change hs z.2.1 z.2.2) (news_set N a b hs ho')

theorem upd_mem {d : Addr} {o o' : Obj} {l l' : List (Addr × Obj)} (U : Upd d o o' l l') : (d, o) ∈ l := by
  obtain ⟨pre, post, rfl, _⟩ := U.split
  exact List.mem_append.mpr (.inr (.head _))

theorem sub_U {value slice : Expr} {its : Array Value} {n j : Nat} {k : Int} {u : Tok} {v : Value} {Q : Value → Shared → Prop} (N : News h₀ L s.heap news) (hm : (D, listOf its n) ∈ news)
    (hj : seqIndex? k its.size = some j) (hx : its[j]? = some v) (h0 : -(2 ^ 63) ≤ k) (h1 : k < 2 ^ 63) (h : Q v s)
    (hs : subscripted slice false (.ref D) (.int k u) = operate [.ref D, .int k u] (getItem (.ref D) (.int k u)) := by with_unfolding_all rfl) :
    wpAny (model prog w) A (subscriptTail value slice (.ref D) (.int k u)) Q E s :=
  have hl : s.heap.IsList D its := ⟨_, (N _ hm).1, rfl, n, rfl⟩
  tail_any hl.typeIs slot_list_getitem.lookup (getItem_at (n := 0) hl h0 h1 hj hx h) hs
theorem get_U {its : Array Value} {n j : Nat} {k : Int} {u : Tok} {v : Value} {Q : Value → Shared → Prop} (N : News h₀ L s.heap news) (hm : (D, listOf its n) ∈ news)
    (hj : seqIndex? k its.size = some j) (hx : its[j]? = some v) (h0 : -(2 ^ 63) ≤ k) (h1 : k < 2 ^ 63) (h : Q v s) :
    wpAny (model prog w) A (getItem (.ref D) (.int k u)) Q E s :=
  getItem_at (n := 0) ⟨_, (N _ hm).1, rfl, n, rfl⟩ h0 h1 hj hx h
theorem idx_snoc (as : List Value) (v : Value) : seqIndex? (-1) (as ++ [v]).toArray.size = some as.length := by
  rw [List.size_toArray, List.length_append]
  exact (idx_last (by simp)).trans (by simp)
theorem at_snoc (as : List Value) (v : Value) : (as ++ [v]).toArray[as.length]? = some v := by simp
/-- a list against the empty one -/
theorem ne_nil {B : Addr} {ds : List PyData} {as : List Addr} {nb : Nat} {Q : Value → Shared → Prop} (hr : Reads s.heap (.ref D) (.list ds) as) (hs : SeqAt.shaped (.list ds) = true) (N : News h₀ L s.heap news) (hm : (B, listOf #[] nb) ∈ news) (hu : A.units + 64 < cLine)
    (h : Q (.bool (!ds.isEmpty)) s) : wpAny (model prog w) A (compareOp .NotEq (.ref D) (.ref B)) Q E s := by
  refine ne_dataH hr (Reads.list (N _ hm).1 rfl rfl .nil) hs (by decide) hu ?_
  cases ds with
  | nil => exact h
  | cons d ds => exact h
end
inductive F2 {α β : Type} (R : α → β → Prop) : List α → List β → Prop
  | nil : F2 R [] []
  | cons {a b as bs} : R a b → F2 R as bs → F2 R (a :: as) (b :: bs)
theorem F2.mono {α β : Type} {R R' : α → β → Prop} (f : ∀ a b, R a b → R' a b) : ∀ {as : List α} {bs : List β}, F2 R as bs → F2 R' as bs
  | _, _, .nil => .nil
  | _, _, .cons h t => .cons (f _ _ h) (t.mono f)
theorem F2.length {α β : Type} {R : α → β → Prop} : ∀ {as : List α} {bs : List β}, F2 R as bs → as.length = bs.length
  | _, _, .nil => rfl
  | _, _, .cons _ t => by simp [t.length]
theorem F2.append {α β : Type} {R : α → β → Prop} : ∀ {as as' : List α} {bs bs' : List β}, F2 R as bs → F2 R as' bs' → F2 R (as ++ as') (bs ++ bs')
  | _, _, _, _, .nil, h => h
  | _, _, _, _, .cons h t, h' => .cons h (t.append h')
theorem F2.snoc {α β : Type} {R : α → β → Prop} {as : List α} {bs : List β} {a : α} {b : β} (h : F2 R as bs) (k : R a b) : F2 R (as ++ [a]) (bs ++ [b]) := h.append (.cons k .nil)
theorem F2.get {α β : Type} {R : α → β → Prop} : ∀ {as : List α} {bs : List β}, F2 R as bs → ∀ {i : Nat} {a : α}, as[i]? = some a → ∃ b, bs[i]? = some b ∧ R a b
  | _, _, .nil, i, a, h => by simp at h
  | _, _, .cons k t, 0, a, h => by simp at h; subst h; exact ⟨_, rfl, k⟩
  | _, _, .cons k t, i + 1, a, h => by simp at h; simpa using t.get h
end Mine
end

section
set_option maxRecDepth 100000
set_option linter.unusedVariables false
set_option maxHeartbeats 0
namespace Mine
open PySem PySem.W PySem.Calls PyProof.Rows PySem.Spec PyProof.Rows.LCg
section
variable {prog : Program} {w : World} {A : Around} {E : Value → Shared → Prop} {R : Result → Shared → Prop} {s : Shared} {h₀ : Heap} {L : Addr} {m : Str → Option Value} {env : Env}

/-- the turns of a comprehension of one clause, whatever its target -/
theorem cl_loop {elt target iter : Expr} {ifs : List Expr} {scope : Scope} {pos : Pos} {it acc : Value} {env : Env} (I : Nat → Shared → Prop)
    (turn : ∀ n s (E' : Value → Shared → Prop), I n s → wpAny (model prog w) A (pyNext it) (fun r s₁ => match r with
      | none => R (.ok .next) s₁
      | some v => wpAny (model prog w) A (letOwnedTupleGo target it v) (fun _ s₀ => wpAny (model prog w) A (assign target env v) (fun _ s₂ =>
          wpAny (model prog w) A (forIn ifs true fun c r => if r = true then do let ok ← isTrue c env (eval c env); pure (ForInStep.yield ok) else pure (ForInStep.yield r)) (fun ok s₃ =>
            if ok = true then wpAny (model prog w) A (eval elt env) (fun x s₄ => wpAny (model prog w) A (call (.builtin "list.append") [acc, x]) (fun _ s₅ => ∃ m, m < n ∧ I m s₅) E' s₄) E' s₃
            else ∃ m, m < n ∧ I m s₃) E' s₂) E' s₀) E' s₁) E' s)
    (n : Nat) (h : I n s) : codeAny (model prog w) A (.compLoop (.ListComp elt [⟨target, iter, ifs, 0⟩] scope pos) 0 it acc env) R s := by
  refine codeAny_loop rfl I (fun n s hI => ?_) n h
  show wpAny _ A ((compTurn (.ListComp elt [⟨target, iter, ifs, 0⟩] scope pos) 0 it acc env).onRaise (fun x => do noteFrame x env; theTreesLotGoes x)) _ _ s
  refine wpAny_noted ?_
  rw [compTurn_list]
  refine wpAny_bind (wpAny_standAt (wpAny_bind (wpAny_mono (turn n s _ hI) (fun r s₁ h₁ => ?_) fun _ _ h' => h')))
  cases r with
  | none => exact wpAny_pure h₁
  | some v =>
    refine wpAny_bind (wpAny_mono h₁ (fun _ s₀ h₀' => ?_) fun _ _ h' => h')
    refine wpAny_bind (wpAny_mono h₀' (fun _ s₂ h₂ => ?_) fun _ _ h' => h')
    refine wpAny_bind (wpAny_mono h₂ (fun ok s₃ h₃ => ?_) fun _ _ h' => h')
    cases ok with
    | false => exact wpAny_pure ⟨rfl, h₃⟩
    | true => exact wpAny_bind (wpAny_bind (wpAny_mono h₃ (fun x s₄ h₄ => wpAny_bind (wpAny_mono h₄ (fun _ s₅ h₅ => wpAny_pure (wpAny_pure ⟨rfl, h₅⟩)) fun _ _ h' => h')) fun _ _ h' => h'))

/-- how a turn of ours ends -/
noncomputable def TEnd (h₀ : Heap) (L : Addr) (m : Str → Option Value) (s₁ : Shared) (I C D : Addr) (oD : Obj) (St : Heap → Prop) (rest : List (Addr × Obj) → Prop) (s₂ : Shared) : Prop :=
  ∃ h' tk oI oC m₂ news', s₂ = { s₁ with heap := h', toks := tk } ∧ NsObj oC m₂ ∧ Fr h₀ L h' m ∧ News h₀ L h' ((I, oI) :: (C, oC) :: (D, oD) :: news') ∧ Off3 I C D news' ∧ St h' ∧ rest news'

theorem block_G {target elt iter : Expr} {ifs : List Expr} {scope : Scope} {cl : List (Str × Addr)} {pos : Pos} {s₂ : Shared} {I : Addr} {fp : List Addr} {n : Nat} {P : Nat → Value → Prop} {St : Nat → Heap → Prop} {news : List (Addr × Obj)}
    {RR : Value → Addr → Result → Shared → Prop} (Inv : Nat → List Value → List (Addr × Obj) → Prop)
    (W : Walks prog w A I fp [I] n P St) (hsz : n ≤ sizeLine) (hIo : ∀ i h, St i h → ∃ o, h.get? I = some o)
    (hcell : ∀ y ∈ scope.names, y.2 ≠ .cell) (hkind : scope.kind = .function) (hst : St 0 s₂.heap) (hfp : ∀ b ∈ fp, b < s₂.heap.objs.size)
    (F : Fr h₀ L s₂.heap m) (N : News h₀ L s₂.heap news) (hIL : L ≠ I) (hI₀ : h₀.get? I = none) (off : ∀ p ∈ news, p.1 ≠ I)
    (h0 : Inv 0 [] news)
    (turn : ∀ i v ys news' oI C oC D m₂ h tk (E' : Value → Shared → Prop), i < n → P i v → Inv i ys news' → NsObj oC m₂ → Fr h₀ L h m → News h₀ L h ((I, oI) :: (C, oC) :: (D, lst ys) :: news') → Off3 I C D news' → ((@Ne Nat I C) ∧ (@Ne Nat I D) ∧ (@Ne Nat C D)) → St (i + 1) h →
      wpAny (model prog w) A (letOwnedTupleGo target (.ref I) v) (fun _ s₀ => wpAny (model prog w) A (assign target (compEnvC scope cl C env) v) (fun _ s₃ =>
        wpAny (model prog w) A (forIn ifs true fun c r => if r = true then do let ok ← isTrue c (compEnvC scope cl C env) (eval c (compEnvC scope cl C env)); pure (ForInStep.yield ok) else pure (ForInStep.yield r)) (fun ok s₄ =>
          if ok = true then wpAny (model prog w) A (eval elt (compEnvC scope cl C env)) (fun y => TEnd h₀ L m { s₂ with heap := h, toks := tk } I C D (lst ys) (St (i + 1)) (Inv (i + 1) (ys ++ [y]))) E' s₄
          else TEnd h₀ L m { s₂ with heap := h, toks := tk } I C D (lst ys) (St (i + 1)) (Inv (i + 1) ys) s₄) E' s₃) E' s₀) E' { s₂ with heap := h, toks := tk })
    (hRR : ∀ D C h tk m' ys news', Fr h₀ L h m → News h₀ L h ((D, lst ys) :: news') → Off1 D news' → h.Ns C m' → h₀.get? C = none → C ≠ L → C ≠ D → (∀ p ∈ news', p.1 ≠ C) → Inv n ys news' → RR (.ref D) C (.ok .next) { s₂ with heap := h, toks := tk }) :
    wpAny (model prog w) A (newList []) (fun acc s₃ => wpAny (model prog w) A (newFunctionEnv scope env.globals cl [] env.qual none .none (some env)) (fun cenv s₄ =>
      codeAny (model prog w) A (.compStart (.ListComp elt [⟨target, iter, ifs, 0⟩] scope pos) 0 (.ref I) acc { cenv with scope := relabel scope env }) (RR acc cenv.locals) s₄) E s₃) E s₂ := by
  refine wpAny_newObj_type (wpAny_newFunctionEnv hcell (by intro y hy; simp at hy) (fun h₁ hns₁ hsb₁ => ?_) hkind)
  dsimp only at hns₁ hsb₁ ⊢
  generalize hH2 : s₂.heap.push { cls := .type "list", dict := none, data := .seq ([] : List Value).toArray } = H2 at hns₁ hsb₁ ⊢
  have hC : H2.objs.size = s₂.heap.objs.size + 1 := by rw [← hH2, Heap.size_push]
  generalize hDd : s₂.heap.objs.size = D at *
  generalize hCc : H2.objs.size = C at *
  have hDC : D ≠ C := by rw [hC]; exact Nat.ne_of_lt (Nat.lt_succ_self _)
  have below : ∀ b, b < D → b ≠ C ∧ b ≠ D := fun b hb => ⟨by rw [hC]; exact Nat.ne_of_lt (Nat.lt_succ_of_lt hb), Nat.ne_of_lt hb⟩
  have hDf : D ∉ fp := fun hm => Nat.lt_irrefl _ (hfp _ hm)
  have hCf : C ∉ fp := fun hm => by have := hfp _ hm; rw [hC] at this; exact Nat.lt_irrefl _ (Nat.lt_of_succ_lt this)
  have hIlt : I < D := hfp I (W.sub I (List.mem_singleton.mpr rfl))
  have lt : ∀ {b o}, s₂.heap.get? b = some o → b < D := fun e => hDd ▸ Heap.lt_size e
  have old : ∀ b o, s₂.heap.get? b = some o → h₁.get? b = some o := fun b o e => hsb₁.extBut b o (below b (lt e)).1 (Heap.get?_push_of_some _ (hH2 ▸ Heap.get?_push_of_some _ e))
  have hacc : h₁.get? D = some (lst []) := hsb₁.extBut _ _ hDC (Heap.get?_push_of_some _ (hH2 ▸ hDd ▸ Heap.get?_push_size _ rfl))
  have hst₁ : St 0 h₁ := W.frame _ _ _ hst fun b _ o e => old b o e
  have fresh₀ : ∀ a, D ≤ a → h₀.get? a = none := fun a ha => by
    cases e : h₀.get? a with
    | none => rfl
    | some o' => exact absurd (lt (F.keep a o' e)) (Nat.not_lt.mpr ha)
  have hD₀ : h₀.get? D = none := fresh₀ _ (Nat.le_refl _)
  have hC₀ : h₀.get? C = none := fresh₀ _ (by rw [hC]; exact Nat.le_succ _)
  have hLlt : L < D := hDd ▸ F.ns.lt
  have hDL : D ≠ L := Ne.symm (below L hLlt).2
  have hCL : C ≠ L := Ne.symm (below L hLlt).1
  have hCI : I ≠ C := (below I hIlt).1
  have hDI : I ≠ D := (below I hIlt).2
  have off₀ : Off3 I C D news := Off3.of fun p hp => ⟨off p hp, (below _ (lt (N p hp).1)).1, (below _ (lt (N p hp).1)).2⟩
  have loop : ∀ s₃ : Shared, s₃ = { s₂ with heap := h₁, toks := s₂.toks + ([] : List (Str × Value)).length } →
      codeAny (model prog w) A (.compLoop (.ListComp elt [⟨target, iter, ifs, 0⟩] scope pos) 0 (.ref I) (.ref D) (compEnvC scope cl C env)) (RR (.ref D) C) s₃ := by
    rintro s₃ rfl
    refine cl_loop
      (fun k s' => ∃ h' tk i ys m' news', s' = { s₂ with heap := h', toks := tk } ∧ i ≤ n ∧ k = n + 1 - i ∧ ys.length ≤ i ∧ St i h' ∧ Fr h₀ L h' m ∧ h'.Ns C m' ∧ News h₀ L h' ((D, lst ys) :: news') ∧ Off3 I C D news' ∧ Inv i ys news') ?_ (n + 1)
      ⟨h₁, _, 0, [], _, news, rfl, Nat.zero_le _, rfl, Nat.le_refl _, hst₁, F.keeps old, hns₁, fun p hp => ?_, off₀, h0⟩
    · rintro k s' E' ⟨h', tk, i, ys, m', news', rfl, hi, rfl, hyl, hst', F', hn', N', off', hI'⟩
      have off3 := off'.mem
      have offI : ∀ p ∈ (D, lst ys) :: news', p.1 ≠ I := fun p hp => by
        rcases List.mem_cons.mp hp with rfl | hp
        · exact Ne.symm hDI
        · exact (off3 p hp).1
      by_cases hlt : i < n
      · refine W.item i _ _ _ hlt hst' fun v h₂ tk₂ hPv hst₂ hk₂ => ?_
        obtain ⟨oI, heI⟩ := hIo _ _ hst₂
        obtain ⟨oC, heC, hoC⟩ := ns_obj (hn'.at' (h' := h₂) fun o e => hk₂ _ o (by simpa using Ne.symm hCI) e)
        have N₂ := news_but N' hk₂ offI
        have N₃ : News h₀ L h₂ ((I, oI) :: (C, oC) :: (D, lst ys) :: news') := fun p hp => by
          rcases List.mem_cons.mp hp with rfl | hp
          · exact ⟨heI, Ne.symm hIL, hI₀⟩
          · rcases List.mem_cons.mp hp with rfl | hp
            · exact ⟨heC, hCL, hC₀⟩
            · exact N₂ p hp
        have fin : ∀ (ys' : List Value) (h₅ : Heap) (tk₅ : Nat) (oI oC : Obj) (m₃ : Str → Option Value) (news₅ : List (Addr × Obj)), ys'.length ≤ i + 1 → NsObj oC m₃ → Fr h₀ L h₅ m → News h₀ L h₅ ((I, oI) :: (C, oC) :: (D, lst ys') :: news₅) → Off3 I C D news₅ → St (i + 1) h₅ → Inv (i + 1) ys' news₅ →
            ∃ q, q < n + 1 - i ∧ ∃ h' tk i ys m' news', ({ s₂ with heap := h₅, toks := tk₅ } : Shared) = { s₂ with heap := h', toks := tk } ∧ i ≤ n ∧ q = n + 1 - i ∧ ys.length ≤ i ∧ St i h' ∧ Fr h₀ L h' m ∧ h'.Ns C m' ∧ News h₀ L h' ((D, lst ys) :: news') ∧ Off3 I C D news' ∧ Inv i ys news' :=
          fun ys' h₅ tk₅ oI oC m₃ news₅ hl hoC F₅ N₅ off₅ hst₅ hI₅ => ⟨n + 1 - (i + 1), by omega, h₅, tk₅, i + 1, ys', m₃, news₅, rfl, hlt, rfl, hl, hst₅, F₅, hoC.ns (N₅ _ (.tail _ (.head _))).1, fun p hp => N₅ p (.tail _ (.tail _ hp)), off₅, hI₅⟩
        refine wpAny_mono (turn i v ys news' oI C oC D _ h₂ tk₂ _ hlt hPv hI' hoC (fr_but F' hk₂ hIL hI₀) N₃ off' ⟨hCI, hDI, Ne.symm hDC⟩ hst₂) (fun _ s₃ h₃ => ?_) fun _ _ e => e
        refine wpAny_mono h₃ (fun _ s₄ h₄ => ?_) fun _ _ e => e
        refine wpAny_mono h₄ (fun ok s₅ h₅ => ?_) fun _ _ e => e
        cases ok with
        | false =>
          simp only [Bool.false_eq_true, if_false] at h₅ ⊢
          obtain ⟨h₅, tk₅, oI₅, oC₅, m₅, news₅, rfl, hoC₅, F₅, N₅, off₅, hst₅, hI₅⟩ := h₅
          exact fin ys h₅ tk₅ oI₅ oC₅ m₅ news₅ (Nat.le_succ_of_le hyl) hoC₅ F₅ N₅ off₅ hst₅ hI₅
        | true =>
          simp only [if_true] at h₅ ⊢
          refine wpAny_mono h₅ (fun y s₆ h₆ => ?_) fun _ _ e => e
          obtain ⟨h₅, tk₅, oI₅, oC₅, m₅, news₅, rfl, hoC₅, F₅, N₅, off₅, hst₅, hI₅⟩ := h₆
          have zD := (N₅ (D, lst ys) (.tail _ (.tail _ (.head _)))).1
          refine append_at (hsz := by show ys.toArray.size ≤ sizeLine; rw [List.size_toArray]; exact Nat.le_trans (Nat.le_trans hyl hi) hsz) zD fun h₆ hs₆ hD₆ => ?_
          have off5 := off₅.mem
          refine fin (ys ++ [y]) h₆ tk₅ oI₅ oC₅ m₅ news₅ (by rw [List.length_append, List.length_singleton]; exact Nat.succ_le_succ hyl) hoC₅ (F₅.change hs₆ hDL hD₀) (fun p hp => ?_) off₅ (W.frame _ _ _ hst₅ fun b hb o e => hs₆.extBut b o (fun q => hDf (q ▸ hb)) e) hI₅
          rcases List.mem_cons.mp hp with rfl | hp
          · exact ⟨hs₆.extBut _ _ hDI (N₅ _ (.head _)).1, (N₅ _ (.head _)).2⟩
          · rcases List.mem_cons.mp hp with rfl | hp
            · exact ⟨hs₆.extBut _ _ (Ne.symm hDC) (N₅ _ (.tail _ (.head _))).1, (N₅ _ (.tail _ (.head _))).2⟩
            · rcases List.mem_cons.mp hp with rfl | hp
              · exact ⟨hD₆.trans (congrArg some (lst_snoc ys y)), hDL, hD₀⟩
              · have z := N₅ p (.tail _ (.tail _ (.tail _ hp)))
                exact ⟨hs₆.extBut _ _ (off5 p hp).2.2 z.1, z.2⟩
      · obtain rfl : i = n := Nat.le_antisymm hi (Nat.not_lt.mp hlt)
        refine W.done _ _ _ hst' fun h₂ tk₂ hk₂ => ?_
        exact hRR D C h₂ tk₂ _ ys news' (fr_but F' hk₂ hIL hI₀) (news_but N' hk₂ offI) off'.one (hn'.at' fun o e => hk₂ _ o (by simpa using Ne.symm hCI) e) hC₀ hCL (Ne.symm hDC) (fun p hp => (off3 p hp).2.1) hI'
    · rcases List.mem_cons.mp hp with rfl | hp
      · exact ⟨hacc, hDL, hD₀⟩
      · exact ⟨old _ _ (N p hp).1, (N p hp).2⟩
  exact codeAny_compStart_list (loop _ rfl) (W.self 0 _ _ _ hst₁ (loop _ rfl))

/-- the library's turns, by an invariant -/
theorem rest_inv {elt : Expr} {x : Str} {scope : Scope} {cl : List (Str × Addr)} {S : List (Addr × Obj) → Prop} {P : Nat → Value → Prop} {Fin : List Value → List (Addr × Obj) → Prop} (Inv : Nat → List Value → List (Addr × Obj) → Prop) {n : Nat}
    (turn : ∀ i ys news v I oI C oC D m₂ h tk (E' : Value → Shared → Prop), i < n → Inv i ys news → P i v → NsObj oC m₂ → m₂ x = some v → Fr h₀ L h m → News h₀ L h ((I, oI) :: (C, oC) :: (D, lst ys) :: news) → Off3 I C D news → ((@Ne Nat I C) ∧ (@Ne Nat I D) ∧ (@Ne Nat C D)) →
      wpAny (model prog w) A (eval elt (compEnvC scope cl C env)) (CompEnd h₀ L m { s with heap := h, toks := tk } I oI C oC D (lst ys) S (fun y news' => Inv (i + 1) (ys ++ [y]) news')) E' { s with heap := h, toks := tk })
    (fin : ∀ ys news, Inv n ys news → Fin ys news) : ∀ (k i : Nat) (ys : List Value) (news : List (Addr × Obj)), i + k = n → Inv i ys news → CompRest prog w A h₀ L m env elt x scope cl s S P Fin k i ys news
  | 0, i, ys, news, e, hI => by
    obtain rfl : i = n := by omega
    exact fin ys news hI
  | k + 1, i, ys, news, e, hI => fun v I oI C oC D m₂ h tk E' hP hC hx F N off ne =>
    wpAny_mono (turn i ys news v I oI C oC D m₂ h tk E' (by omega) hI hP hC hx F N off ne) (fun y s₂ z => by
      obtain ⟨h', tk', news', e', F', N', off', hS, hI'⟩ := z
      exact ⟨h', tk', news', e', F', N', off', hS, rest_inv Inv turn fin k (i + 1) _ news' (by omega) hI'⟩) fun _ _ z => z
end
end Mine
end

section
set_option maxRecDepth 100000
set_option linter.unusedVariables false
set_option maxHeartbeats 0
namespace Mine
open PySem PySem.W PySem.Calls PyProof.Rows PySem.Spec PyProof.Rows.LCg
section
variable {prog : Program} {w : World} {A : Around} {E : Value → Shared → Prop} {s : Shared} {h₀ : Heap} {L : Addr} {m : Str → Option Value} {env : Env}

theorem draw_list2 {it l : Addr} {v0 v1 : Value} {Q : List Value → Shared → Prop} (hne : l ≠ it) (hit : s.heap.IsListIter it l 0) (hl : s.heap.IsList l #[v0, v1])
    (hQ : ∀ h', h'.IsListIter it l 2 → h'.IsList l #[v0, v1] → Heap.ExtBut it s.heap h' → Q [v0, v1] { s with heap := h' }) : wpAny (model prog w) A (draw (.ref it) 2) Q E s := by
  show wpAny _ _ (pyNext (.ref it) >>= _) Q E s
  refine wpAny_bind (wpAny_pyNext_list_item hit hl (x := v0) rfl fun h₁ hit₁ hs₁ => ?_)
  have hl₁ := hl.extBut hs₁.extBut hne
  refine wpAny_bind (wpAny_holding ?_)
  show wpAny _ _ (pyNext (.ref it) >>= _) _ E _
  refine wpAny_bind (wpAny_pyNext_list_item hit₁ hl₁ (x := v1) rfl fun h₂ hit₂ hs₂ => ?_)
  refine wpAny_bind (wpAny_holding ?_)
  show wpAny _ _ (pure []) _ E _
  exact wpAny_pure (wpAny_pure (wpAny_pure (hQ h₂ hit₂ (hl₁.extBut hs₂.extBut hne) fun b o hb e => hs₂.extBut b o hb (hs₁.extBut b o hb e))))

theorem unpack_list2 {l : Addr} {v0 v1 : Value} {elts : List Expr} {x1} {pos : Pos} {Q : Unit → Shared → Prop} (hh : A.handled = none) (hl : s.heap.IsList l #[v0, v1])
    (hn : (assignEach elts env).length = 2) (hstar : (assignEach elts env).findIdx? (·.1) = none)
    (h : ∀ h', Kp s.heap h' → wpAny (model prog w) A (assignInOrder ((assignEach elts env).map (·.2)) [v0, v1]) Q E { s with heap := h' }) :
    wpAny (model prog w) A (assign (.Tuple elts x1 pos) env (.ref l)) Q E s := by
  have hlt : l ≠ s.heap.objs.size := by obtain ⟨o, ho, _⟩ := hl; exact Nat.ne_of_lt (Heap.lt_size ho)
  rw [assign_Tuple]
  refine wpAny_bind (wpAny_standAt ?_)
  unfold unpack
  rw [hn, hstar]
  refine wpAny_bind (wpAny_holding ?_)
  unfold unpackItems
  refine wpAny_bind ?_
  unfold notIterableAtAll
  refine wpAny_bind (wpAny_specialOf hl.typeIs slot_list_iter.lookup ?_)
  refine wpAny_pure ?_
  simp only [Bool.false_eq_true, if_false]
  refine wpAny_bind (wpAny_holding (wpAny_pyIter_list hl ?_))
  refine wpAny_bind (wpAny_holding (draw_list2 hlt ⟨_, Heap.get?_push_size _ rfl, rfl, rfl⟩ (hl.push _) fun h₁ hit₁ hl₁ hs₁ => ?_))
  rw [if_neg (by simp)]
  refine wpAny_bind (wpAny_holding (wpAny_pyNext_list_end hh hit₁ hl₁ (by simp) fun h₂ he₂ => ?_))
  simp only [Option.isSome_none, Bool.false_eq_true, if_false]
  exact wpAny_pure (h h₂ fun b o e => he₂ b o (Nat.ne_of_lt (Heap.lt_size e)) (hs₁ b o (Nat.ne_of_lt (Heap.lt_size e)) (Heap.get?_push_of_some _ e)))

theorem off3_C {I C D : Addr} {news : List (Addr × Obj)} (off : Off3 I C D news) : ∀ p ∈ news, p.1 ≠ C := fun p hp => (off.mem p hp).2.1
/-- two names of a comprehension's block get their values -/
theorem assign_two {a b : Str} {pa pb : Pos} {scope : Scope} {cl : List (Str × Addr)} {I C D : Addr} {oI oC oD : Obj} {m₂ : Str → Option Value} {news : List (Addr × Obj)} {v0 v1 : Value} {Q : Unit → Shared → Prop}
    (hkind : scope.kind = .function) (ha : scope.names.lookup a = some .local) (hb : scope.names.lookup b = some .local) (hab : a ≠ b)
    (hC : NsObj oC m₂) (F : Fr h₀ L s.heap m) (N : News h₀ L s.heap ((I, oI) :: (C, oC) :: (D, oD) :: news)) (off : Off3 I C D news) (ne : (@Ne Nat I C) ∧ (@Ne Nat I D) ∧ (@Ne Nat C D))
    (h : ∀ h' tk oC' m', NsObj oC' m' → m' a = some v0 → m' b = some v1 → Fr h₀ L h' m → News h₀ L h' ((I, oI) :: (C, oC') :: (D, oD) :: news) → Q () { s with heap := h', toks := tk }) :
    wpAny (model prog w) A (assignInOrder ((assignEach [.Name a pa, .Name b pb] (compEnvC scope cl C env)).map (·.2)) [v0, v1]) Q E s := by
  have zC := N _ (.tail _ (.head _))
  refine assignInOrder_cons (wpAny_assign_Name (wpAny_storeName_local (lookup_relabel_local ha) (hC.ns zC.1) (fun h₆ hn₆ hs₆ => ?_) (by simp [compEnvC, relabel, hkind])))
  refine assignInOrder_cons (wpAny_assign_Name (wpAny_storeName_local (lookup_relabel_local hb) hn₆ (fun h₃ hn₃ hs₃ => ?_) (by simp [compEnvC, relabel, hkind])))
  refine assignInOrder_nil ?_
  obtain ⟨oC', heC, hoC⟩ := ns_obj hn₃
  have up : ∀ c o, c ≠ C → s.heap.get? c = some o → h₃.get? c = some o := fun c o hc e => hs₃.extBut c o hc (hs₆.extBut c o hc e)
  refine h h₃ _ oC' _ hoC (by simp [hab]) (by simp) ((F.change hs₆ zC.2.1 zC.2.2).change hs₃ zC.2.1 zC.2.2) fun p hp => ?_
  rcases List.mem_cons.mp hp with rfl | hp
  · exact ⟨up _ _ ne.1 (N _ (.head _)).1, (N _ (.head _)).2⟩
  · rcases List.mem_cons.mp hp with rfl | hp
    · exact ⟨heC, zC.2⟩
    · have z := N p (.tail _ (.tail _ hp))
      refine ⟨up _ _ ?_ z.1, z.2⟩
      rcases List.mem_cons.mp hp with rfl | hp
      · exact Ne.symm ne.2.2
      · exact off3_C off p hp

/-- a comprehension over a list of the ledger or of the base, by an invariant of one's own -/
theorem listcomp_G {target elt iter : Expr} {ifs : List Expr} {scope : Scope} {cl : List (Str × Addr)} {pos : Pos} {Q : Value → Shared → Prop} (F₀ : Fr h₀ L s.heap m)
    (hclos : closureFor scope env = pure cl) (hcell : ∀ y ∈ scope.names, y.2 ≠ .cell) (hkind : scope.kind = .function)
    (hnames : ∀ y ∈ scope.names, y.2 = .local → scope.names.lookup y.1 = some .local)
    (h : wpAny (model prog w) A (eval iter env) (fun xv s₁ => ∃ ax its news, ∃ Inv : Nat → List Value → List (Addr × Obj) → Prop, xv = .ref ax ∧ A.handled = none ∧ Fr h₀ L s₁.heap m ∧ News h₀ L s₁.heap news ∧ (∀ i ys nw, Inv i ys nw → SrcAt h₀ ax its nw) ∧ its.size ≤ sizeLine ∧ Inv 0 [] news ∧
      (∀ s₂ : Shared, (∃ h, s₂ = { s₁ with heap := h }) → (∀ i v ys news' I oI C oC D m₂ h tk (E' : Value → Shared → Prop), its[i]? = some v → Inv i ys news' → NsObj oC m₂ → Fr h₀ L h m → News h₀ L h ((I, oI) :: (C, oC) :: (D, lst ys) :: news') → Off3 I C D news' → ((@Ne Nat I C) ∧ (@Ne Nat I D) ∧ (@Ne Nat C D)) →
        h.IsListIter I ax (i + 1) →
        wpAny (model prog w) A (letOwnedTupleGo target (.ref I) v) (fun _ s₀ => wpAny (model prog w) A (assign target (compEnvC scope cl C env) v) (fun _ s₃ =>
        wpAny (model prog w) A (forIn ifs true fun c r => if r = true then do let ok ← isTrue c (compEnvC scope cl C env) (eval c (compEnvC scope cl C env)); pure (ForInStep.yield ok) else pure (ForInStep.yield r)) (fun ok s₄ =>
          if ok = true then wpAny (model prog w) A (eval elt (compEnvC scope cl C env)) (fun y => TEnd h₀ L m { s₂ with heap := h, toks := tk } I C D (lst ys) (fun h' => h'.get? I = some oI) (Inv (i + 1) (ys ++ [y]))) E' s₄
          else TEnd h₀ L m { s₂ with heap := h, toks := tk } I C D (lst ys) (fun h' => h'.get? I = some oI) (Inv (i + 1) ys) s₄) E' s₃) E' s₀) E' { s₂ with heap := h, toks := tk }) ∧
        (∀ ys nw, Inv its.size ys nw → FinE h₀ L m s₂ Q ys nw))) E s)
    (hs : ∀ x, foldedSetIterable iter env x = pure x := by intro _; rfl) :
    wpAny (model prog w) A (eval (.ListComp elt [⟨target, iter, ifs, 0⟩] scope pos) env) Q E s := by
  rw [eval_ListComp]
  refine wpAny_comprehension_free (use := none) rfl hs hclos hkind hnames (wpAny_mono h (fun xv s₁ h₁ => ?_) fun _ _ e => e)
  obtain ⟨ax, its, news, Inv, rfl, hh, F, N, hsrc, hsz, h0, rest⟩ := h₁
  have hl := (hsrc _ _ _ h0).list F.keep N
  have hlt : ax < s₁.heap.objs.size := by obtain ⟨_, e, _⟩ := hl; exact Heap.lt_size e
  refine wpAny_pyIter_list hl ?_
  have up : ∀ b o, s₁.heap.get? b = some o → (s₁.heap.push { cls := .type "list_iterator", data := .fields #[.ref ax, .int 0 0] }).get? b = some o := fun b o e => Heap.get?_push_of_some _ e
  obtain ⟨turn, fin⟩ := rest _ ⟨_, rfl⟩
  refine block_G Inv (Walks.list hh s₁.heap.objs.size ax (Nat.ne_of_lt hlt) its) hsz (fun i h st => by obtain ⟨o, e, _⟩ := st.1; exact ⟨o, e⟩) hcell hkind ⟨⟨_, Heap.get?_push_size _ rfl, rfl, rfl⟩, hl.push _⟩ (fun b hb => ?_)
    (F.keeps up) (N.grown up) (Nat.ne_of_lt F.ns.lt) (next_is_new F) (fun p hp => Nat.ne_of_lt (Heap.lt_size (N p hp).1)) h0 ?_ ?_
  · show b < (s₁.heap.push _).objs.size
    rw [Heap.size_push]
    rcases List.mem_cons.mp hb with rfl | hb
    · exact Nat.lt_succ_self _
    · rw [List.mem_singleton.mp hb]; exact Nat.lt_succ_of_lt hlt
  · intro i v ys news' oI C oC D m₂ h tk E' hi hP hI hoC F' N' off ne hst
    have key : ∀ {Inv' : List (Addr × Obj) → Prop} {S₂ : Shared}, (∀ nw, Inv' nw → SrcAt h₀ ax its nw) → TEnd h₀ L m { s₁ with heap := h, toks := tk } s₁.heap.objs.size C D (lst ys) (fun h' => h'.get? s₁.heap.objs.size = some oI) Inv' S₂ →
        TEnd h₀ L m { s₁ with heap := h, toks := tk } s₁.heap.objs.size C D (lst ys) (fun h => h.IsListIter s₁.heap.objs.size ax (i + 1) ∧ h.IsList ax its) Inv' S₂ := by
      rintro Inv' S₂ hsr ⟨h', tk', oI', oC', m', nw, e, hoC', F₂, N₂, off₂, eI, hI₂⟩
      exact ⟨h', tk', oI', oC', m', nw, e, hoC', F₂, N₂, off₂, list_st (i + 1) h h' oI nw hst (N' _ (.head _)).1 eI F₂.keep (fun p hp => N₂ p (.tail _ (.tail _ (.tail _ hp)))) (hsr _ hI₂), hI₂⟩
    refine wpAny_mono (turn i v ys news' _ oI C oC D m₂ h tk E' hP hI hoC F' N' off ne hst.1) (fun _ s₃ h₃ => ?_) fun _ _ e => e
    refine wpAny_mono h₃ (fun _ s₄ h₄ => ?_) fun _ _ e => e
    refine wpAny_mono h₄ (fun ok s₅ h₅ => ?_) fun _ _ e => e
    cases ok with
    | false => simp only [Bool.false_eq_true, if_false] at h₅ ⊢; exact key (fun nw => hsrc _ _ nw) h₅
    | true => simp only [if_true] at h₅ ⊢; exact wpAny_mono h₅ (fun y s₆ h₆ => key (fun nw => hsrc _ _ nw) h₆) fun _ _ e => e
  · intro D C h tk m' ys news' F' N' o1 hn hC₀ hCL hCD offC hI
    refine ⟨m', hn, fun h'' hs'' => fin ys news' hI D h'' tk (F'.change hs'' hCL hC₀) (fun p hp => ?_) o1⟩
    refine ⟨hs''.extBut _ _ ?_ (N' p hp).1, (N' p hp).2⟩
    rcases List.mem_cons.mp hp with rfl | hp
    · exact Ne.symm hCD
    · exact offC p hp
end
end Mine
end

section
set_option maxRecDepth 100000
set_option linter.unusedVariables false
set_option maxHeartbeats 0
namespace Mine
open PySem PySem.W PySem.Calls PyProof.Rows PySem.Spec PyProof.Rows.LCg
noncomputable def StrIs (v : Value) (l : List Nat) : Prop := ∃ t, v = .str ⟨l.toArray⟩ t
theorem strsAre_of : ∀ {ys : List Value} {ls : List (List Nat)}, F2 StrIs ys ls → StrsAre ys (ls.map fun l => (⟨l.toArray⟩ : Str))
  | _, _, .nil => .nil
  | _, _, .cons ⟨t, e⟩ k => by subst e; exact .cons _ _ (strsAre_of k)
theorem join_empty : ∀ (ls : List (List Nat)), Txt.join (Str.ofString "") (ls.map fun l => (⟨l.toArray⟩ : Str)) = ⟨ls.flatten.toArray⟩ := by
  intro ls
  show Builtin.Str.glued (PySem.Str.ofString "") _ = _
  rw [StrLaws.glued_eq_join]
  induction ls with
  | nil => rfl
  | cons l r ih =>
    cases r with
    | nil => show (⟨l.toArray⟩ : Str) = _; simp
    | cons l' r' =>
      show (⟨l.toArray⟩ : Str) ++ Str.ofString "" ++ Str.join _ _ = _
      have e : Str.ofString "" = Str.empty := by decide +kernel
      rw [ih, e, Str.append_empty, mk_append]
      simp
section
variable {prog : Program} {w : World} {A : Around} {E : Value → Shared → Prop} {s : Shared} {h₀ : Heap} {L : Addr} {m : Str → Option Value} {env : Env}
theorem join_flat {D : Addr} {ys : List Value} {ls : List (List Nat)} {t : Tok} {Q : Value → Shared → Prop} (hl : s.heap.IsList D ys.toArray) (hy : F2 StrIs ys ls) (hw : ls.flatten.length ≤ 16777216)
    (h : ∀ t' k, Q (.str ⟨ls.flatten.toArray⟩ t') { s with toks := k }) : wpAny (model prog w) A (call (.builtin "str.join") [.str (Str.ofString "") t, .ref D]) Q E s := by
  refine join_list hl (by simpa using strsAre_of hy) ?_ fun t' k => by rw [join_empty]; exact h t' k
  have e : (Str.ofString "").length = 0 := by decide +kernel
  rw [e, Nat.mul_zero, Nat.add_zero, List.map_map]
  have : (List.map ((fun x => x.length) ∘ fun l => ({ cps := l.toArray } : Str)) ls) = ls.map List.length := List.map_congr_left fun l _ => len_mk l
  rw [this, ← List.length_flatten]
  exact hw
end
end Mine
end

section
set_option maxRecDepth 100000
set_option linter.unusedVariables false
namespace Mine
open PySem PySem.W PySem.Calls PyProof.Rows PySem.Spec
/-- the entries of the ledger stand in the heap -/
noncomputable def Stand (h : Heap) (seg : List (Addr × Obj)) : Prop := ∀ p ∈ seg, h.get? p.1 = some p.2
theorem Stand.sub {h : Heap} {a b : List (Addr × Obj)} (x : Stand h b) (hs : ∀ p ∈ a, p ∈ b) : Stand h a := fun p hp => x p (hs p hp)
/-- a value that is made of new objects (seg), and how it reads -/
structure Made (h h' : Heap) (seg : List (Addr × Obj)) (v : Value) (d : PyData) : Prop where
  new : ∀ p ∈ seg, h'.get? p.1 = some p.2 ∧ h.get? p.1 = none
  reads : ∀ hh : Heap, Stand hh seg → ∃ as, Reads hh v d as
theorem made_new {h₀ h h' : Heap} {L : Addr} {m : Str → Option Value} {news seg : List (Addr × Obj)} (F : Fr h₀ L h m) (N : News h₀ L h news) (hk : Kp h h') (hs : ∀ p ∈ seg, h'.get? p.1 = some p.2 ∧ h.get? p.1 = none) :
    News h₀ L h' (seg ++ news) ∧ ∀ p ∈ seg, ∀ q ∈ news, q.1 ≠ p.1 := by
  refine ⟨fun p hp => ?_, fun p hp q hq e => ?_⟩
  · rcases List.mem_append.mp hp with hp | hp
    · obtain ⟨ha, hn⟩ := hs p hp
      refine ⟨ha, fun e => ?_, ?_⟩
      · obtain ⟨oL, _, _, hL, _⟩ := F.ns
        rw [e, hL] at hn
        cases hn
      · cases q : h₀.get? p.1 with
        | none => rfl
        | some o => rw [F.keep _ _ q] at hn; cases hn
    · exact nwK N hk p hp
  · have := (hs p hp).2
    rw [← e, (N q hq).1] at this
    cases this
end Mine
end

section
set_option maxRecDepth 100000
set_option linter.unusedVariables false
set_option maxHeartbeats 0
set_option Elab.async false
namespace Mine
open PySem PySem.W PySem.Calls PyProof.Rows PySem.Spec
theorem fillK : (PySem.Challenge.rw_lg0008_01, KK) = (PySem.Challenge.rw_lg0008_01, KK) → True := by
  k_fill
  intro _; trivial
local macro_rules | `(tactic| walk_at "names") => `(tactic| repeat' (first | exact List.forall_mem_nil _ | refine List.forall_mem_cons.2 ⟨?_, ?_⟩ | rfl))
local macro_rules | `(tactic| size_fits) => `(tactic| (simp only [PySem.Str.length_append, len_one, len_item, List.size_toArray, Array.size_append, List.length_append, List.length_cons, List.length_nil, PySem.sizeLine_eq]; omega))

theorem small_range {n : Nat} (h : n ≤ 1000000) : Builtin.Range.small 0 (n : Int) 1 = true := by
  unfold Builtin.Range.small
  rw [rangeSize_one]
  simp [Builtin.Range.rangeFitsLong]
  split <;> omega
structure RQ where
  found : List Nat
  bare : List Int
  g : Bool
noncomputable def rqStep (st : RQ) (k c : Nat) : RQ :=
  if st.g || !(c == 34 || c == 92) then ⟨st.found ++ [c], st.bare, false⟩ else if c == 92 then ⟨st.found, st.bare, true⟩ else ⟨st.found, st.bare ++ [(k : Int)], st.g⟩
noncomputable def rqRun : Nat → List Nat → RQ → RQ
  | _, [], st => st
  | k, c :: l, st => rqRun (k + 1) l (rqStep st k c)
theorem rqRun_append (l l' : List Nat) : ∀ (k : Nat) (st : RQ), rqRun k (l ++ l') st = rqRun (k + l.length) l' (rqRun k l st) := by
  induction l with
  | nil => intro k st; rfl
  | cons c l ih => intro k st; simp only [List.cons_append, rqRun, ih, List.length_cons]; rw [Nat.add_assoc, Nat.add_comm 1]
theorem rq_succ {x : Str} {i c : Nat} (h : x.cps[i]? = some c) (st : RQ) : rqRun 0 (x.cps.toList.take (i + 1)) st = rqStep (rqRun 0 (x.cps.toList.take i) st) i c := by
  rw [take_succ_cps h, rqRun_append]
  have : (x.cps.toList.take i).length = i := by
    rw [List.length_take, Array.length_toList]
    have := (Array.getElem?_eq_some_iff.mp h).1
    omega
  rw [this, Nat.zero_add]
  rfl
theorem rq_len (l : List Nat) : ∀ (k : Nat) (st : RQ), (rqRun k l st).found.length ≤ st.found.length + l.length ∧ (rqRun k l st).bare.length ≤ st.bare.length + l.length := by
  induction l with
  | nil => intro k st; exact ⟨Nat.le_refl _, Nat.le_refl _⟩
  | cons c l ih =>
    intro k st
    have h1 : (rqStep st k c).found.length ≤ st.found.length + 1 ∧ (rqStep st k c).bare.length ≤ st.bare.length + 1 := by
      unfold rqStep
      split
      · simp
      · split <;> simp
    obtain ⟨a, b⟩ := ih (k + 1) (rqStep st k c)
    simp only [rqRun, List.length_cons]
    omega

structure RQs where
  f : Str
  tf : Tok
  vs : List Value
  nb : Nat
  g : Bool

theorem read_quoted {w : World} {A : Around} {s : Shared} {x : Str} {t : Tok} {Q E : Value → Shared → Prop} {mean : ExcName → Option Value} {mg mb : Str → Option Value}
    (X : (KK w.params).In s.heap) (T : TopV mean mg mb s.heap) (ok : Ok A 3) (hx : x.length ≤ 100000)
    (h : ∀ h' tk v seg, Kp s.heap h' → Made s.heap h' seg v (.list [.str ⟨(rqRun 0 x.cps.toList ⟨[], [], false⟩).found.toArray⟩, .list ((rqRun 0 x.cps.toList ⟨[], [], false⟩).bare.map PyData.int), .bool (rqRun 0 x.cps.toList ⟨[], [], false⟩).g]) →
      Q v { s with heap := h', toks := tk }) :
    wpAny (model pg w) A (call (.ref 268) [.str x t]) Q E s := by
  refine call_fn X T (by kernel_rfl : _ = some (obf268 w.params)) rfl (by kernel_rfl) ok.room (binds := [(Str.ofString "written", .str x t)]) rfl (locs rfl) (fun h₁ L F N hk => ?_)
  have ok' : Ok (A.deeper (envOf (Str.ofString "_law_read_quoted") (fnS (stm 21)) L 268 (.ref 267))) 2 := ok.deeper
  k_steps
  rename_i hA B hB l1 hC hD FD ND hE tk2 t1 u1 v1 hR FE NE hKE
  refine iter_range (σ := RQs) (n := x.length) (fun c => [(Str.ofString "guarded", .bool c.g), (Str.ofString "bare", .ref B), (Str.ofString "found", .str c.f c.tf), (Str.ofString "written", .str x t)])
    (fun i c news => news = [(B, listOf c.vs.toArray c.nb)] ∧ IntsAre c.vs (rqRun 0 (x.cps.toList.take i) ⟨[], [], false⟩).bare ∧ c.f = ⟨(rqRun 0 (x.cps.toList.take i) ⟨[], [], false⟩).found.toArray⟩ ∧ c.g = (rqRun 0 (x.cps.toList.take i) ⟨[], [], false⟩).g)
    ⟨Str.ofString "", s.toks + 1, [], 0, false⟩ ok'.handled hR ?_ ?_ FE NE ?_ ?_ ?_ ?_
  case refine_1 =>
    exact small_range (by omega)
  case refine_2 =>
    rw [rangeSize_one]; split <;> omega
  case refine_3 => walk_at "names"
  case refine_4 => exact ⟨rfl, .nil, rfl, rfl⟩
  case refine_5 =>
    rintro i ti ⟨f, tf, vs, nb, g⟩ u news₁ h tk I oI hi ⟨rfl, hv, hf, hg⟩ hne F₁ N₁
    dsimp only at hv hf hg F₁ N₁
    replace N₁ : News s.heap (envOf (Str.ofString "_law_read_quoted") (fnS (stm 21)) L 268 (Value.ref 267)).locals h [(B, listOf vs.toArray nb), (I, oI)] := N₁
    have hBI := hne
    replace hne := neN (hne _ (.head _))
    obtain ⟨ch, hch⟩ : ∃ ch, x.cps[i]? = some ch := ⟨_, Array.getElem?_eq_getElem hi⟩
    clear FD ND FE NE hKE hR
    have hst := rq_succ hch ⟨[], [], false⟩
    have hlen := rq_len (x.cps.toList.take i) 0 ⟨[], [], false⟩
    have hil : (x.cps.toList.take i).length ≤ 100000 := Nat.le_trans (List.length_take_le' ..) (by rw [Array.length_toList]; exact hx)
    generalize rqRun 0 (x.cps.toList.take i) ⟨[], [], false⟩ = st at hv hf hg hst hlen
    have hfl : f.length ≤ 100000 := by rw [hf]; show st.found.toArray.size ≤ _; rw [List.size_toArray]; have := hlen.1; dsimp only [List.length_nil] at this; omega
    have hvl : vs.length ≤ 100000 := by rw [IntsAre.length hv]; have := hlen.2; dsimp only [List.length_nil] at this; omega
    have hit := item_eq hch
    have hff : f ++ Txt.item x (i : Int) = ⟨(st.found ++ [ch]).toArray⟩ := by rw [hit, hf]; exact mk_append _ [ch]
    k_steps
    · rename_i hg' _ t' _ _ _ h' F' N'
      refine stepTo_next ⟨f ++ Txt.item x i, t', vs, nb, false⟩ [(B, listOf vs.toArray nb)] F' N' hBI (by walk_at "names") ⟨rfl, ?_⟩
      rw [hst]
      have : rqStep st i ch = ⟨st.found ++ [ch], st.bare, false⟩ := by unfold rqStep; rw [← hg, hg']; rfl
      rw [this]
      exact ⟨hv, hff, rfl⟩
    · rename_i hg' _ ho _ t' _ _ _ h' F' N'
      refine stepTo_next ⟨f ++ Txt.item x i, t', vs, nb, false⟩ [(B, listOf vs.toArray nb)] F' N' hBI (by walk_at "names") ⟨rfl, ?_⟩
      rw [hit, occ_one] at ho
      rw [hst]
      have : rqStep st i ch = ⟨st.found ++ [ch], st.bare, false⟩ := by
        unfold rqStep
        rw [if_pos]
        simp only [Bool.not_eq_true', decide_eq_false_iff_not] at ho
        have : ¬ (ch = 34 ∨ ch = 92) := fun e => ho (by rcases e with rfl | rfl <;> decide)
        simp at this ⊢
        omega
      rw [this]
      exact ⟨hv, hff, rfl⟩
    · rename_i hg' _ ho _ _ he h' F' N'
      refine stepTo_next ⟨f, tf, vs, nb, true⟩ [(B, listOf vs.toArray nb)] F' N' hBI (by walk_at "names") ⟨rfl, ?_⟩
      have he' : ch = 92 := by
        rw [hit] at he
        have := (mk_beq [ch] [92]).symm.trans he
        simpa using this
      rw [hst]
      have : rqStep st i ch = ⟨st.found, st.bare, true⟩ := by
        unfold rqStep
        rw [← hg, hg', he']
        rfl
      rw [this]
      exact ⟨hv, hf, rfl⟩
    · rename_i hg' _ ho _ _ he _ h' F' N'
      refine stepTo_next ⟨f, tf, vs ++ [.int i ti], nb + 1, g⟩ [(B, listOf (vs ++ [Value.int i ti]).toArray (nb + 1))] F' (by simpa using N') (List.forall_mem_cons.2 ⟨hne, List.forall_mem_nil _⟩) (by walk_at "names") ⟨rfl, ?_⟩
      have he' : ch = 34 := by
        rw [hit] at he ho
        have h1 : ch ≠ 92 := fun e => by
          have := (mk_beq [ch] [92]).symm.trans he
          simp [e] at this
        rw [occ_one] at ho
        simp only [Bool.not_eq_false', decide_eq_true_eq] at ho
        have h2 : ch ∈ [34, 92] := ho
        simp at h2
        omega
      rw [hst]
      have : rqStep st i ch = ⟨st.found, st.bare ++ [(i : Int)], st.g⟩ := by
        unfold rqStep
        rw [← hg, hg', he']
        rfl
      rw [this]
      exact ⟨ints_snoc hv, hf, hg⟩
  case refine_6 =>
    rintro ⟨f, tf, vs, nb, g⟩ u news₁ h' tk ⟨rfl, hv, hf, hg⟩ F₁ N₁
    have hall : x.cps.toList.take x.length = x.cps.toList := List.take_of_length_le (by rw [Array.length_toList]; exact Nat.le_refl _)
    have hsz : x.cps.size = x.length := rfl
    dsimp only at hv hf hg F₁ N₁
    rw [hall] at hv hf hg
    clear FD ND FE NE hKE hR
    k_steps
    rename_i D h'' F' N' _
    subst hf hg
    exact h _ _ _ _ F'.keep ⟨fun p hp => ⟨(N' p hp).1, (N' p hp).2.2⟩, fun hh st => ⟨_, .list (st _ (.head _)) rfl rfl (.cons (.str _ _) (.cons (.list (st _ (.tail _ (.head _))) rfl rfl (by simpa using IntsAre.reads _ hv)) (.cons (.bool _) .nil)))⟩⟩
end Mine
end

section
set_option maxRecDepth 100000
set_option linter.unusedVariables false
set_option maxHeartbeats 0
set_option Elab.async false
namespace Mine
open PySem PySem.W PySem.Calls PyProof.Rows PySem.Spec
section
variable {prog : Program} {w : World} {M : Model} {A : Around} {E : Value → Shared → Prop} {s : Shared} {h₀ : Heap} {L D : Addr} {m : Str → Option Value} {news news' : List (Addr × Obj)} {env : Env}
theorem sub_2a {value slice : Expr} {n : Nat} {u : Tok} {v0 v1 : Value} {Q : Value → Shared → Prop} (N : News h₀ L s.heap news) (hm : (D, listOf #[v0, v1] n) ∈ news) (h : Q v0 s)
    (hs : subscripted slice false (.ref D) (.int 0 u) = operate [.ref D, .int 0 u] (getItem (.ref D) (.int 0 u)) := by with_unfolding_all rfl) :
    wpAny (model prog w) A (subscriptTail value slice (.ref D) (.int 0 u)) Q E s := sub_U N hm (j := 0) rfl rfl (by decide) (by decide) h hs
theorem sub_2b {value slice : Expr} {n : Nat} {u : Tok} {v0 v1 : Value} {Q : Value → Shared → Prop} (N : News h₀ L s.heap news) (hm : (D, listOf #[v0, v1] n) ∈ news) (h : Q v1 s)
    (hs : subscripted slice false (.ref D) (.int 1 u) = operate [.ref D, .int 1 u] (getItem (.ref D) (.int 1 u)) := by with_unfolding_all rfl) :
    wpAny (model prog w) A (subscriptTail value slice (.ref D) (.int 1 u)) Q E s := sub_U N hm (j := 1) rfl rfl (by decide) (by decide) h hs
theorem get_2b {n : Nat} {u : Tok} {v0 v1 : Value} {Q : Value → Shared → Prop} (N : News h₀ L s.heap news) (hm : (D, listOf #[v0, v1] n) ∈ news) (h : Q v1 s) :
    wpAny (model prog w) A (getItem (.ref D) (.int 1 u)) Q E s := get_U N hm (j := 1) rfl rfl (by decide) (by decide) h
theorem set_2b {n : Nat} {t : Tok} {v0 v1 v : Value} {Q : Unit → Shared → Prop} (F : Fr h₀ L s.heap m) (N : News h₀ L s.heap news) (U : Upd D (listOf #[v0, v1] n) (listOf #[v0, v] n) news news')
    (h : ∀ h', Fr h₀ L h' m → News h₀ L h' news' → Q () { s with heap := h' }) : wpAny (model prog w) A (setItem (.ref D) (.int 1 t) v) Q E s :=
  setItem_U F N (its := #[v0, v1]) (j := 1) U (by decide) (by decide) rfl (by decide : 1 < 2) h
end
local macro_rules | `(tactic| walk_at "getItem ref int") => `(tactic| (k_here; (with_reducible show wpAny _ _ (getItem (Value.ref _) (Value.int _ _)) _ _ _); k_dflt (refine' get_2b ?N ?m ?_; (case N => k_asm); (case m => k_mem); k_whole)))
local macro_rules | `(tactic| walk_at "setItem ref int") => `(tactic| (k_here; (with_reducible show wpAny _ _ (setItem (Value.ref _) (Value.int _ _) _) _ _ _); k_dflt (refine' set_2b ?F ?N ?U ?_; (case F => k_asm); (case N => k_asm); (case U => k_upd); k_whole; intro h' F' N'; (try k_sweep))))
local macro_rules | `(tactic| walk_at "names") => `(tactic| repeat' (first | exact List.forall_mem_nil _ | refine List.forall_mem_cons.2 ⟨?_, ?_⟩ | rfl))
local macro_rules | `(tactic| size_fits) => `(tactic| (simp only [PySem.Str.length_append, len_one, len_item, List.size_toArray, Array.size_append, List.length_append, List.length_cons, List.length_nil, PySem.sizeLine_eq]; omega))
local macro_rules | `(tactic| k_all) => `(tactic| with_reducible assumption)
local macro_rules | `(tactic| walk_at "subscriptTail") => `(tactic| (k_here; (with_reducible show wpAny _ _ (subscriptTail _ _ (Value.ref _) (Value.int _ _)) _ _ _); k_dflt (first
  | (refine' sub_U ?N ?m (idx_snoc _ _) (at_snoc _ _) ?a ?b ?_; (case N => k_asm); (case m => k_mem); (case a => decide); (case b => decide); k_whole)
  | (refine' sub_2a ?N ?m ?_; (case N => k_asm); (case m => k_mem); k_whole)
  | (refine' sub_2b ?N ?m ?_; (case N => k_asm); (case m => k_mem); k_whole))))

noncomputable def isW (c : Nat) : Bool := (9 ≤ c && c ≤ 13) || (28 ≤ c && c ≤ 32) || (8192 ≤ c && c ≤ 8202) || [133, 160, 5760, 8232, 8233, 8239, 8287, 12288].contains c
theorem isW_int (c : Nat) : ([133, 160, 5760, 8232, 8233, 8239, 8287, 12288].any fun x => x == (c : Int)) = [133, 160, 5760, 8232, 8233, 8239, 8287, 12288].contains c := by
  simp only [List.any_cons, List.any_nil, List.contains_cons, List.contains_nil]
  have e : ∀ n : Nat, ((n : Int) == (c : Int)) = (c == n) := fun n => by
    by_cases h : c = n
    · subst h; simp
    · have : ¬ ((n : Int) = (c : Int)) := by omega
      rw [beq_eq_false_iff_ne.mpr this, beq_eq_false_iff_ne.mpr h]
  simp only [← e]
  rfl

theorem isW_t1 {c : Nat} (h : 9 ≤ c ∧ c ≤ 13) : isW c = true := by unfold isW; rw [decide_eq_true h.1, decide_eq_true h.2]; rfl
theorem isW_t2 {c : Nat} (h : 28 ≤ c ∧ c ≤ 32) : isW c = true := by unfold isW; rw [decide_eq_true h.1, decide_eq_true h.2, Bool.and_self, Bool.or_true]; rfl
theorem isW_t3 {c : Nat} (h : 8192 ≤ c ∧ c ≤ 8202) : isW c = true := by unfold isW; rw [decide_eq_true h.1, decide_eq_true h.2, Bool.and_self, Bool.or_true, Bool.true_or]
theorem decAnd_false {a b : Prop} [Decidable a] [Decidable b] (h : ¬ (a ∧ b)) : (decide a && decide b) = false := by
  cases ha : decide a with
  | false => rfl
  | true => rw [Bool.true_and]; exact decide_eq_false fun hb => h ⟨of_decide_eq_true ha, hb⟩
theorem isW_f {c : Nat} (h1 : ¬ (9 ≤ c ∧ c ≤ 13)) (h2 : ¬ (28 ≤ c ∧ c ≤ 32)) (h3 : ¬ (8192 ≤ c ∧ c ≤ 8202)) : isW c = [133, 160, 5760, 8232, 8233, 8239, 8287, 12288].contains c := by
  unfold isW; rw [decAnd_false h1, decAnd_false h2, decAnd_false h3]; rfl
theorem is_white {w : World} {A : Around} {s : Shared} {c : Nat} {t : Tok} {Q E : Value → Shared → Prop} {mean : ExcName → Option Value} {mg mb : Str → Option Value}
    (X : (KK w.params).In s.heap) (T : TopV mean mg mb s.heap) (ok : Ok A 1)
    (h : ∀ h' tk, Kp s.heap h' → Q (.bool (isW c)) { s with heap := h', toks := tk }) :
    wpAny (model pg w) A (call (.ref 225) [.int c t]) Q E s := by
  refine call_fn X T (by kernel_rfl : _ = some (obf225 w.params)) rfl (by kernel_rfl) ok.room (binds := [(Str.ofString "code", .int c t)]) rfl (locs rfl) (fun h₁ L F N hk => ?_)
  k_steps
  all_goals (with_reducible rename Fr _ _ _ _ => F')
  all_goals (refine (congrArg (fun b => Q (.bool b) _) ?_).mp (h _ _ F'.keep))
  all_goals (try rw [isW_int])
  all_goals (try rw [decide_eq_true (by assumption : (c : Int) ≤ _)])
  all_goals first | exact isW_t1 (by omega) | exact isW_t2 (by omega) | exact isW_t3 (by omega) | exact isW_f (by omega) (by omega) (by omega)

/-! ### the stretches of a text, the last first -/
noncomputable def bt (c : Nat) : Bool := c == 32 || c == 9
noncomputable abbrev Sts := List (Bool × List Nat)
noncomputable def shStep : Sts → Nat → Sts
  | [], c => [(bt c, [c])]
  | (b, x) :: r, c => if b == (bt c || (b && isW c)) then (b, x ++ [c]) :: r else (bt c || (b && isW c), [c]) :: (b, x) :: r
noncomputable def shRun (l : List Nat) : Sts := l.foldl shStep []
noncomputable def shown (l : List Nat) : List Nat := (((shRun l).reverse.map (·.2)).filter (fun p => p != [9])).flatten

noncomputable def OldAt (tl : List (Addr × Obj)) (v : Value) (p : Bool × List Nat) : Prop := ∃ a t n, v = .ref a ∧ (a, listOf #[.bool p.1, .str ⟨p.2.toArray⟩ t] n) ∈ tl

theorem occ_bt (c : Nat) : (Builtin.Str.occurrences (Str.ofString " \t") ⟨#[c]⟩ 0 (Str.ofString " \t").length 1).isEmpty = !bt c := by
  rw [occ_one]
  congr 1
  have e : (Str.ofString " \t").cps.toList = [32, 9] := by decide +kernel
  rw [e]
  unfold bt
  by_cases h1 : c = 32
  · simp [h1]
  · by_cases h2 : c = 9
    · simp [h2]
    · simp [h1, h2]

theorem strOk_of {l : List Nat} (h : ∀ c ∈ l, c < 55296) : PyData.strOk ⟨l.toArray⟩ = true := by
  unfold PyData.strOk
  rw [← Array.all_toList]
  exact List.all_eq_true.mpr fun c hc => decide_eq_true (Nat.lt_trans (h c hc) (by decide))
theorem readsAll_append {h : Heap} : ∀ {vs ws : List Value} {ds es : List PyData} {as bs : List Addr}, ReadsAll h vs ds as → ReadsAll h ws es bs → ∃ cs, ReadsAll h (vs ++ ws) (ds ++ es) cs
  | _, _, _, _, _, _, .nil, k => ⟨_, k⟩
  | _, _, _, _, _, _, .cons a b, k => by obtain ⟨cs, hc⟩ := readsAll_append b k; exact ⟨_, .cons a hc⟩
noncomputable def stD (p : Bool × List Nat) : PyData := .list [.bool p.1, .str ⟨p.2.toArray⟩]
theorem old_reads {h₀ h : Heap} {L : Addr} {tl news : List (Addr × Obj)} (N : News h₀ L h news) (mt : ∀ p ∈ tl, p ∈ news) : ∀ {as : List Value} {r : Sts}, F2 (OldAt tl) as r → ∃ bs, ReadsAll h as (r.map stD) bs
  | _, _, .nil => ⟨[], .nil⟩
  | _, _, .cons ⟨a, t, n, e, hm⟩ k => by
    obtain ⟨bs, hb⟩ := old_reads N mt k
    subst e
    exact ⟨_, .cons (.list (N _ (mt _ hm)).1 rfl rfl (.cons (.bool _) (.cons (.str _ _) .nil))) hb⟩
theorem shaped_sts {r : Sts} (h : ∀ p ∈ r, ∀ c ∈ p.2, c < 55296) : SeqAt.shaped (.list (r.map stD)) = true := by
  have key : ∀ r : Sts, (∀ p ∈ r, ∀ c ∈ p.2, c < 55296) → PyData.canLayAll0 (r.map stD) = true ∧ PyData.depthAll (r.map stD) ≤ 2 := by
    intro r
    induction r with
    | nil => intro _; exact ⟨rfl, Nat.zero_le _⟩
    | cons p r ih =>
      intro h
      obtain ⟨a, b⟩ := ih fun q hq => h q (.tail _ hq)
      have h1 := strOk_of (h p (.head _))
      constructor
      · simp only [List.map_cons, PyData.canLayAll0, stD, PyData.canLay0, h1, a, Bool.and_self]
      · simp only [List.map_cons, PyData.depthAll, stD, PyData.depth] at b ⊢
        omega
  obtain ⟨a, b⟩ := key r h
  unfold SeqAt.shaped
  rw [Bool.and_eq_true]
  exact ⟨by rw [PyData.canLay0]; exact a, decide_eq_true (by rw [PyData.depth]; omega)⟩
theorem ne_S {prog : Program} {w : World} {A : Around} {E : Value → Shared → Prop} {s : Shared} {h₀ : Heap} {L S a B : Addr} {tl news : List (Addr × Obj)} {as : List Value} {r : Sts} {n na nb k : Nat} {b : Bool} {x1 : Str} {t1 : Tok} {Q : Value → Shared → Prop}
    (N : News h₀ L s.heap news) (hold : F2 (OldAt tl) as r.reverse) (ok : Ok A k) (mS : (S, listOf (as ++ [Value.ref a]).toArray n) ∈ news) (ma : (a, listOf #[.bool b, .str x1 t1] na) ∈ news) (me : (B, listOf #[] nb) ∈ news) (mt : ∀ p ∈ tl, p ∈ news)
    (hc : ∀ p ∈ r, ∀ c ∈ p.2, c < 55296) (hc1 : ∀ c ∈ x1.cps.toList, c < 55296) (h : Q (.bool true) s) :
    wpAny (model prog w) A (compareOp .NotEq (.ref S) (.ref B)) Q E s := by
  obtain ⟨bs, hb⟩ := old_reads N mt hold
  have hx : Reads s.heap (.str x1 t1) (.str ⟨x1.cps.toList.toArray⟩) [] := by rw [str_mk]; exact .str _ _
  have h2 : ReadsAll s.heap [Value.ref a] ([(b, x1.cps.toList)].map stD) _ := .cons (.list (N _ ma).1 rfl rfl (.cons (.bool _) (.cons hx .nil))) .nil
  obtain ⟨cs, h3⟩ := readsAll_append hb h2
  rw [← List.map_append] at h3
  have hr : Reads s.heap (.ref S) (.list ((r.reverse ++ [(b, x1.cps.toList)]).map stD)) (S :: cs) := .list (N _ mS).1 rfl rfl h3
  refine ne_nil hr (shaped_sts ?_) N me (by have := ok.units; show A.units + 64 < 9900; omega) ?_
  · intro p hp
    rcases List.mem_append.mp hp with hp | hp
    · exact hc p (List.mem_reverse.mp hp)
    · rw [List.mem_singleton.mp hp]; exact hc1
  · have e : ((r.reverse ++ [(b, x1.cps.toList)]).map stD).isEmpty = false := by simp
    rw [e]; exact h
theorem ne_E {prog : Program} {w : World} {A : Around} {E : Value → Shared → Prop} {s : Shared} {h₀ : Heap} {L S B : Addr} {news : List (Addr × Obj)} {n nb k : Nat} {Q : Value → Shared → Prop}
    (N : News h₀ L s.heap news) (ok : Ok A k) (mS : (S, listOf #[] n) ∈ news) (me : (B, listOf #[] nb) ∈ news) (h : Q (.bool false) s) :
    wpAny (model prog w) A (compareOp .NotEq (.ref S) (.ref B)) Q E s :=
  ne_nil (.list (N _ mS).1 rfl rfl .nil) (by decide) N me (by have := ok.units; show A.units + 64 < 9900; omega) h
local macro_rules | `(tactic| walk_at "compareOp NotEq ref") => `(tactic| (k_here; (with_reducible show wpAny _ _ (compareOp CmpOp.NotEq (Value.ref _) (Value.ref _)) _ _ _); k_dflt (refine' ne_E ?N ?k ?S ?e ?_; (case N => k_asm); (case k => k_asm); (case S => k_mem); (case e => k_mem); k_whole)))
local macro_rules | `(tactic| walk_at "compareOp NotEq ref") => `(tactic| (k_here; (with_reducible show wpAny _ _ (compareOp CmpOp.NotEq (Value.ref _) (Value.ref _)) _ _ _); k_dflt (refine' ne_S ?N ?o ?k ?S ?a ?e ?t ?c ?d ?_; (case N => k_asm); (case o => k_asm); (case k => k_asm); (case S => k_mem); (case a => k_mem); (case e => k_mem); (case t => (intro p hp; simp [hp])); (case c => k_asm); (case d => k_asm); k_whole)))

theorem is_white_F {w : World} {A : Around} {s : Shared} {c : Nat} {t : Tok} {k : Nat} {Q E : Value → Shared → Prop} {mean : ExcName → Option Value} {mg mb : Str → Option Value} {h₀ : Heap} {L : Addr} {m : Str → Option Value} {news : List (Addr × Obj)}
    (F : Fr h₀ L s.heap m) (N : News h₀ L s.heap news) (X : (KK w.params).In h₀) (T : TopV mean mg mb h₀) (ok : Ok A (k + 1))
    (h : ∀ h' tk, Fr h₀ L h' m → News h₀ L h' news → Q (.bool (isW c)) { s with heap := h', toks := tk }) :
    wpAny (model pg w) A (call (.ref 225) [.int c t]) Q E s := is_white (X.keeps F.keep) (T.keeps F.keep) (ok.less (by omega)) fun h' tk hk => h h' tk (frK F hk) (nwK N hk)
local macro_rules | `(tactic| walk_at "call ref") => `(tactic| (k_here; (with_reducible show wpAny _ _ (call (Value.ref 225) _) _ _ _); k_dflt (refine' is_white_F ?F ?N ?X ?T ?o ?_; (case F => k_asm); (case N => k_asm); (case X => k_asm); (case T => k_asm); (case o => k_asm); k_whole; intro h' tk' F' N')))

theorem shown_turn {w : World} {A : Around} {s : Shared} {L S I a : Addr} {oI : Obj} {u : Str → Option Value} {ch : Nat} {t tx t1 : Tok} {x x1 : Str} {b : Bool} {as : List Value} {n na : Nat} {tl : List (Addr × Obj)} {r : Sts} {h₀ : Heap} {Q : Flow → Shared → Prop} {mean : ExcName → Option Value} {mg mb : Str → Option Value}
    (X : (KK w.params).In h₀) (T : TopV mean mg mb h₀) (ok : Ok A 3) (hSI : @Ne Nat S I) (hSa : @Ne Nat S a) (haI : @Ne Nat a I) (hal : as.length ≤ 100000) (hxl : x1.length ≤ 100000) (hS : ∀ p ∈ tl ++ [(I, oI)], p.1 ≠ S) (ha : ∀ p ∈ tl ++ [(I, oI)], p.1 ≠ a)
    (hold : F2 (OldAt tl) as r.reverse) (hc : ∀ p ∈ r, ∀ c ∈ p.2, c < 55296) (hc1 : ∀ c ∈ x1.cps.toList, c < 55296)
    (F : Fr h₀ L s.heap (fun y => if y = Str.ofString "sign" then some (.str ⟨#[ch]⟩ t) else kstB u [(Str.ofString "stretches", .ref S), (Str.ofString "line", .str x tx)] y)) (N : News h₀ L s.heap ((S, listOf (as ++ [Value.ref a]).toArray n) :: (a, listOf #[.bool b, .str x1 t1] na) :: (tl ++ [(I, oI)])))
    (hA : (b == (bt ch || (b && isW ch))) = true → ∀ h' tk m' t', Fr h₀ L h' m' → (∀ p ∈ [(Str.ofString "stretches", Value.ref S), (Str.ofString "line", Value.str x tx)], m' p.1 = some p.2) →
      News h₀ L h' ((S, listOf (as ++ [Value.ref a]).toArray n) :: (a, listOf #[.bool b, .str (x1 ++ ⟨#[ch]⟩) t'] na) :: (tl ++ [(I, oI)])) → Q .next { s with heap := h', toks := tk })
    (hB : (b == (bt ch || (b && isW ch))) = false → ∀ h' tk m' l, Fr h₀ L h' m' → (∀ p ∈ [(Str.ofString "stretches", Value.ref S), (Str.ofString "line", Value.str x tx)], m' p.1 = some p.2) →
      News h₀ L h' ((l, listOf #[.bool (bt ch || (b && isW ch)), .str ⟨#[ch]⟩ t] 0) :: (S, listOf ((as ++ [Value.ref a]) ++ [Value.ref l]).toArray (n + 1)) :: (a, listOf #[.bool b, .str x1 t1] na) :: (tl ++ [(I, oI)])) →
      @LT.lt Nat _ S l → @LT.lt Nat _ a l → AllLt l (tl ++ [(I, oI)]) → Q .next { s with heap := h', toks := tk }) :
    wpAny (model pg w) A (execs (match (fnB (stm 15)).getD 1 (.Pass ⟨0,0,0,0⟩) with | .For _ _ b _ _ => b | _ => []) (envOf (Str.ofString "_law_shown") (fnS (stm 15)) L 230 (Value.ref 229))) Q (fun _ _ => False) s := by
  k_steps
  all_goals (rename (Builtin.Str.occurrences _ _ _ _ _).isEmpty = _ => ho)
  all_goals (rename Fr _ _ _ _ => F')
  all_goals (rename News _ _ _ _ => N')
  all_goals rw [occ_bt] at ho
  · rename b = _ => hb
    rename (b == isW ch) = _ => he
    have hbt : bt ch = false := by simpa using ho
    exact hA (by rw [hbt]; rw [hb] at he ⊢; simpa using he) _ _ _ _ F' (by walk_at "names") fun p hp => N' p (.tail _ (.tail _ hp))
  · rename b = _ => hb
    rename (b == isW ch) = _ => he
    rename _ ∧ _ => l1
    have hbt : bt ch = false := by simpa using ho
    have e : (bt ch || (b && isW ch)) = isW ch := by rw [hbt, hb]; simp
    refine hB (by rw [e]; exact he) _ _ _ _ F' (by walk_at "names") (fun p hp => N' p ?_) l1.2.2.1 l1.2.2.2.1 l1.2.2.2.2
    rw [e] at hp
    rcases List.mem_cons.mp hp with rfl | hp
    · exact .head _
    · rw [← List.push_toArray] at hp; exact .tail _ (.tail _ (.tail _ hp))
  · rename b = _ => hb
    have hbt : bt ch = false := by simpa using ho
    exact hA (by rw [hbt, hb]; rfl) _ _ _ _ F' (by walk_at "names") fun p hp => N' p (.tail _ (.tail _ hp))
  · rename (b == b) = _ => he
    simp at he
  · rename (b == _) = _ => he
    have hbt : bt ch = true := by simpa using ho
    rw [occ_bt, Bool.not_not, hbt] at he
    exact hA (by rw [hbt, Bool.true_or]; exact he) _ _ _ _ F' (by walk_at "names") fun p hp => N' p (.tail _ hp)
  · rename (b == _) = _ => he
    rename _ ∧ _ => l1
    have hbt : bt ch = true := by simpa using ho
    rw [occ_bt, Bool.not_not, hbt] at he
    rw [occ_bt, Bool.not_not] at N'
    have e : (bt ch || (b && isW ch)) = bt ch := by rw [hbt]; rfl
    refine hB (by rw [hbt, Bool.true_or]; exact he) _ _ _ _ F' (by walk_at "names") (fun p hp => N' p ?_) l1.2.1 l1.2.2.1 l1.2.2.2
    rw [e] at hp
    rcases List.mem_cons.mp hp with rfl | hp
    · exact .head _
    · rw [← List.push_toArray] at hp; exact .tail _ (.tail _ hp)

theorem shown_first {w : World} {A : Around} {s : Shared} {L S I : Addr} {oI : Obj} {u : Str → Option Value} {ch : Nat} {t tx : Tok} {x : Str} {h₀ : Heap} {Q : Flow → Shared → Prop} {mean : ExcName → Option Value} {mg mb : Str → Option Value}
    (X : (KK w.params).In h₀) (T : TopV mean mg mb h₀) (ok : Ok A 3) (hSI : @Ne Nat S I)
    (F : Fr h₀ L s.heap (fun y => if y = Str.ofString "sign" then some (.str ⟨#[ch]⟩ t) else kstB u [(Str.ofString "stretches", .ref S), (Str.ofString "line", .str x tx)] y)) (N : News h₀ L s.heap [(S, listOf #[] 0), (I, oI)])
    (hB : ∀ h' tk m' l, Fr h₀ L h' m' → (∀ p ∈ [(Str.ofString "stretches", Value.ref S), (Str.ofString "line", Value.str x tx)], m' p.1 = some p.2) →
      News h₀ L h' ((l, listOf #[.bool (bt ch), .str ⟨#[ch]⟩ t] 0) :: (S, listOf [Value.ref l].toArray 1) :: [(I, oI)]) →
      @LT.lt Nat _ S l → @LT.lt Nat _ I l → Q .next { s with heap := h', toks := tk }) :
    wpAny (model pg w) A (execs (match (fnB (stm 15)).getD 1 (.Pass ⟨0,0,0,0⟩) with | .For _ _ b _ _ => b | _ => []) (envOf (Str.ofString "_law_shown") (fnS (stm 15)) L 230 (Value.ref 229))) Q (fun _ _ => False) s := by
  k_steps
  all_goals (rename (Builtin.Str.occurrences _ _ _ _ _).isEmpty = _ => ho)
  all_goals (rename Fr _ _ _ _ => F')
  all_goals (rename News _ _ _ _ => N')
  all_goals (rename _ ∧ _ => l1)
  all_goals rw [occ_bt] at ho
  · have hbt : bt ch = false := by simpa using ho
    refine hB _ _ _ _ F' (by walk_at "names") (fun p hp => N' p ?_) l1.2.2.1 l1.2.2.2
    rw [hbt] at hp
    rcases List.mem_cons.mp hp with rfl | hp
    · exact .head _
    · exact .tail _ (.tail _ (.tail _ hp))
  · have hbt : bt ch = true := by simpa using ho
    rw [occ_bt, Bool.not_not] at N'
    refine hB _ _ _ _ F' (by walk_at "names") (fun p hp => N' p ?_) l1.2.1 l1.2.2
    rcases List.mem_cons.mp hp with rfl | hp
    · exact .head _
    · exact .tail _ (.tail _ hp)
end Mine
end

section
set_option maxRecDepth 100000
set_option linter.unusedVariables false
set_option maxHeartbeats 0
set_option Elab.async false
namespace Mine
open PySem PySem.W PySem.Calls PyProof.Rows PySem.Spec
local macro_rules | `(tactic| walk_at "names") => `(tactic| repeat' (first | exact List.forall_mem_nil _ | refine List.forall_mem_cons.2 ⟨?_, ?_⟩ | rfl))
local macro_rules | `(tactic| size_fits) => `(tactic| (simp only [PySem.Str.length_append, len_one, len_item, List.size_toArray, Array.size_append, List.length_append, List.length_cons, List.length_nil, PySem.sizeLine_eq]; omega))
local macro_rules | `(tactic| k_all) => `(tactic| with_reducible assumption)

theorem shRun_succ {x : Str} {i c : Nat} (h : x.cps[i]? = some c) : shRun (x.cps.toList.take (i + 1)) = shStep (shRun (x.cps.toList.take i)) c := by
  rw [take_succ_cps h]
  unfold shRun
  rw [List.foldl_append]
  rfl
theorem sh_inv (l : List Nat) : ((shRun l).map (·.2)).flatten.length ≤ l.length ∧ (shRun l).length ≤ l.length ∧ ((∀ c ∈ l, c < 55296) → ∀ p ∈ shRun l, ∀ c ∈ p.2, c < 55296) := by
  have key : ∀ (l : List Nat) (st : Sts), ((l.foldl shStep st).map (·.2)).flatten.length ≤ (st.map (·.2)).flatten.length + l.length ∧ (l.foldl shStep st).length ≤ st.length + l.length ∧
      ((∀ c ∈ l, c < 55296) → (∀ p ∈ st, ∀ c ∈ p.2, c < 55296) → ∀ p ∈ l.foldl shStep st, ∀ c ∈ p.2, c < 55296) := by
    intro l
    induction l with
    | nil => intro st; exact ⟨Nat.le_refl _, Nat.le_refl _, fun _ h => h⟩
    | cons c l ih =>
      intro st
      obtain ⟨a, b, d⟩ := ih (shStep st c)
      have h1 : ((shStep st c).map (·.2)).flatten.length ≤ (st.map (·.2)).flatten.length + 1 ∧ (shStep st c).length ≤ st.length + 1 := by
        cases st with
        | nil => simp [shStep]
        | cons p r =>
          unfold shStep
          split
          · rename_i e; cases e
          · rename_i e; cases e; split <;> simp <;> omega
      refine ⟨by simp only [List.foldl_cons, List.length_cons]; omega, by simp only [List.foldl_cons, List.length_cons]; omega, fun hl hst => d (fun x hx => hl x (.tail _ hx)) ?_⟩
      have hc := hl c (.head _)
      cases st with
      | nil => intro p hp x hx; simp [shStep] at hp; subst hp; simp at hx; omega
      | cons p r =>
        intro q hq x hx
        unfold shStep at hq
        split at hq
        · rename_i e; cases e
        · rename_i b' y r' c' e
          cases e
          split at hq
          · rcases List.mem_cons.mp hq with rfl | hq
            · rcases List.mem_append.mp hx with hx | hx
              · exact hst _ (.head _) x hx
              · simp at hx; omega
            · exact hst q (.tail _ hq) x hx
          · rcases List.mem_cons.mp hq with rfl | hq
            · simp at hx; omega
            · exact hst q hq x hx
  have := key l []
  unfold shRun
  exact ⟨by simpa using this.1, by simpa using this.2.1, fun h => this.2.2 h (by simp)⟩
theorem sts_bounds {l : List Nat} {b : Bool} {x : Str} {r : Sts} (hl : l.length ≤ 10000) (hc : ∀ c ∈ l, c < 55296) (h : shRun l = (b, x.cps.toList) :: r) :
    r.length ≤ 10000 ∧ x.length ≤ 100000 ∧ ∀ p ∈ (b, x.cps.toList) :: r, ∀ c ∈ p.2, c < 55296 := by
  obtain ⟨h1, h2, h3⟩ := sh_inv l
  rw [h] at h1 h2 h3
  simp at h1 h2
  refine ⟨by omega, ?_, h3 hc⟩
  show x.cps.size ≤ _
  omega
/-- the state between the turns -/
noncomputable def ShInv (S : Addr) (l : List Nat) (news : List (Addr × Obj)) : Prop :=
  (l = [] ∧ news = [(S, listOf #[] 0)]) ∨
  ∃ as a b x t na n tl r, news = (S, listOf (as ++ [Value.ref a]).toArray n) :: (a, listOf #[.bool b, .str x t] na) :: tl ∧ F2 (OldAt tl) as r.reverse ∧ (∀ p ∈ tl, p.1 ≠ S) ∧ (∀ p ∈ tl, p.1 ≠ a) ∧ @Ne Nat S a ∧ shRun l = (b, x.cps.toList) :: r


theorem filter_flat (q : List Nat → Bool) : ∀ l : List (List Nat), (l.filter q).flatten.length ≤ l.flatten.length
  | [] => Nat.le_refl _
  | a :: l => by
    have := filter_flat q l
    rw [List.filter_cons]
    split <;> simp only [List.flatten_cons, List.length_append] <;> omega
theorem shown_end {w : World} {A : Around} {s : Shared} {L S : Addr} {u : Str → Option Value} {tx : Tok} {x : Str} {vs : List Value} {n : Nat} {tl : List (Addr × Obj)} {r : Sts} {h₀ : Heap} {Q : Flow → Shared → Prop} {mean : ExcName → Option Value} {mg mb : Str → Option Value}
    (X : (KK w.params).In h₀) (T : TopV mean mg mb h₀) (ok : Ok A 3) (hS : ∀ p ∈ tl, p.1 ≠ S) (hl : vs.length ≤ 100000) (hw : (r.map (·.2)).flatten.length ≤ 16777216)
    (hold : F2 (OldAt tl) vs r) (hc : ∀ p ∈ r, ∀ c ∈ p.2, c < 55296)
    (F : Fr h₀ L s.heap (kstB u [(Str.ofString "stretches", .ref S), (Str.ofString "line", .str x tx)])) (N : News h₀ L s.heap ((S, listOf vs.toArray n) :: tl))
    (h : ∀ h' tk t' m', Fr h₀ L h' m' → Q (.ret (.str ⟨((r.map (·.2)).filter (fun p => p != [9])).flatten.toArray⟩ t')) { s with heap := h', toks := tk }) :
    wpAny (model pg w) A (execs ((fnB (stm 15)).drop 2) (envOf (Str.ofString "_law_shown") (fnS (stm 15)) L 230 (Value.ref 229))) Q (fun _ _ => False) s := by
  iterate 7 walk1
  refine listcomp_G (cl := []) F rfl (by decide) rfl (by decide) ?_
  refine ld F rfl ?_
  refine ⟨S, vs.toArray, _, fun i ys nw => nw = (S, listOf vs.toArray n) :: tl ∧ F2 StrIs ys (((r.take i).map (·.2)).filter (fun p => p != [9])), rfl, ok.handled, F, N, ?_, ?_, ⟨rfl, .nil⟩, ?_⟩
  · rintro i ys nw ⟨rfl, _⟩
    exact .inr ⟨_, .head _, rfl, _, rfl⟩
  · rw [List.size_toArray, PySem.sizeLine_eq]; omega
  rintro s₂ ⟨g, rfl⟩
  refine ⟨?_, ?_⟩
  · rintro i v ys nw I oI C oC D m₂ h' tk E' hv ⟨rfl, hys⟩ hC F₁ N₁ off ne hit
    obtain ⟨p, hp, a, t1, na, rfl, hm⟩ := hold.get (by simpa using hv : vs[i]? = some v)
    refine wpAny_letOwnedTupleGo_listiter hit ?_
    have hl₁ : h'.IsList a #[.bool p.1, .str ⟨p.2.toArray⟩ t1] := ⟨_, (N₁ _ (.tail _ (.tail _ (.tail _ (.tail _ hm))))).1, rfl, _, rfl⟩
    refine unpack_list2 ok.handled hl₁ rfl rfl fun h₂ k₂ => ?_
    refine assign_two rfl rfl rfl (by decide) hC (frK F₁ k₂) (nwK N₁ k₂) off ne fun h₃ tk₃ oC₃ m₃ hC₃ ha₃ hb₃ F₃ N₃ => ?_
    refine wpAny_tests_one ?_
    have hoffL : ∀ q ∈ (S, listOf vs.toArray n) :: tl, q.1 ≠ C := off3_C off
    clear F₁ N₁ N F
    have et : (Str.mk p.2.toArray != Str.ofString "\t") = (p.2 != [9]) := by
      have := mk_beq p.2 [9]
      show (!(Str.mk p.2.toArray == Str.mk [9].toArray)) = _
      rw [this]
      by_cases q : p.2 = [9] <;> simp [q]
    have etk : ((r.take (i + 1)).map (·.2)).filter (fun p => p != [9]) = ((r.take i).map (·.2)).filter (fun p => p != [9]) ++ (if p.2 != [9] then [p.2] else []) := by
      rw [List.take_add_one, hp, List.map_append, List.filter_append]
      cases h1 : p.2 != [9] <;> simp_all
    have ei := (N₃ _ (.head _)).1
    k_steps
    · rename _ = true => q
      rw [et] at q
      exact ⟨h₃, _, oI, oC₃, m₃, _, rfl, hC₃, F₃, N₃, off, ei, rfl, by rw [etk, if_pos q]; exact hys.snoc ⟨_, rfl⟩⟩
    · rename _ = false => q
      rw [et] at q
      exact ⟨h₃, _, oI, oC₃, m₃, _, rfl, hC₃, F₃, N₃, off, ei, rfl, by rw [etk, if_neg (by rw [q]; exact Bool.false_ne_true), List.append_nil]; exact hys⟩
  · rintro ys nw ⟨rfl, hys⟩ D h' tk F₁ N₁ off
    clear F N
    rw [List.size_toArray, hold.length, List.take_length] at hys
    k_steps
    refine join_flat ⟨_, (N₁ _ (.head _)).1, rfl, _, rfl⟩ hys ?_ fun t' k => ?_
    · refine Nat.le_trans ?_ hw
      exact filter_flat _ _
    · exact h _ _ _ _ F₁

theorem shown_spec {w : World} {A : Around} {s : Shared} {x : Str} {t : Tok} {Q E : Value → Shared → Prop} {mean : ExcName → Option Value} {mg mb : Str → Option Value}
    (X : (KK w.params).In s.heap) (T : TopV mean mg mb s.heap) (ok : Ok A 4) (hx : x.length ≤ 10000) (hc : ∀ c ∈ x.cps.toList, c < 55296)
    (h : ∀ h' tk t', Kp s.heap h' → Q (.str ⟨(shown x.cps.toList).toArray⟩ t') { s with heap := h', toks := tk }) :
    wpAny (model pg w) A (call (.ref 230) [.str x t]) Q E s := by
  refine call_fn X T (by kernel_rfl : _ = some (obf230 w.params)) rfl (by kernel_rfl) ok.room (binds := [(Str.ofString "line", .str x t)]) rfl (locs rfl) (fun h₁ L F N hk => ?_)
  have ok' : Ok (A.deeper (envOf (Str.ofString "_law_shown") (fnS (stm 15)) L 230 (.ref 229))) 3 := ok.deeper
  k_steps
  rename_i S h3 _ h4 F4 N4
  refine For_invV s.heap rfl rfl ?_
  refine ld F4 rfl ?_
  refine iter_str (σ := Unit) (fun _ => [(Str.ofString "stretches", .ref S), (Str.ofString "line", .str x t)]) (fun i _ news => ShInv S (x.cps.toList.take i) news) () ok'.handled F4 N4 ?_ ?_ ?_ ?_
  · walk_at "names"
  · exact .inl ⟨rfl, rfl⟩
  · rintro i ch tc ⟨⟩ u news₁ h tk I oI hch hinv hne F₁ N₁
    have hlen : (x.cps.toList.take i).length ≤ 10000 := Nat.le_trans (List.length_take_le' ..) (by rw [Array.length_toList]; exact hx)
    have hcs : ∀ c ∈ x.cps.toList.take i, c < 55296 := fun c hm => hc c (List.mem_of_mem_take hm)
    have hrun' := shRun_succ hch
    rcases hinv with ⟨h0, rfl⟩ | ⟨as, a, b, x1, t1, na, n, tl, r, rfl, hold, hS, ha, hSa, hrun⟩
    · have hSI0 : @Ne Nat S I := neN (hne _ (.head _))
      refine shown_first X T ok' hSI0 F₁ N₁ fun h' tk m' l F' hm N' hSl hIl => ?_
      refine stepTo_next () [(S, listOf ([] ++ [Value.ref l]).toArray 1), (l, listOf #[.bool (bt ch), .str ⟨#[ch]⟩ tc] 0)] F' (fun p hp => N' p ?_) ?_ hm (.inr ⟨[], l, bt ch, ⟨#[ch]⟩, tc, 0, 1, [], [], rfl, .nil, by simp, by simp, Nat.ne_of_lt hSl, ?_⟩)
      · rcases List.mem_cons.mp hp with rfl | hp
        · exact .tail _ (.head _)
        · rcases List.mem_cons.mp hp with rfl | hp
          · exact .head _
          · exact .tail _ (.tail _ hp)
      · intro p hp
        simp at hp
        rcases hp with rfl | rfl
        · exact hSI0
        · exact Nat.ne_of_gt hIl
      · rw [hrun', h0]; rfl
    · obtain ⟨hl1, hl2, hl3⟩ := sts_bounds hlen hcs hrun
      have hSI : @Ne Nat S I := neN (hne _ (.head _))
      have haI : @Ne Nat a I := neN (hne _ (.tail _ (.head _)))
      have off : ∀ {d : Addr}, (∀ p ∈ tl, p.1 ≠ d) → @Ne Nat d I → ∀ p ∈ tl ++ [(I, oI)], p.1 ≠ d := fun h1 h2 p hp => by
        rcases List.mem_append.mp hp with hp | hp
        · exact h1 p hp
        · rw [List.mem_singleton.mp hp]; exact h2.symm
      refine shown_turn X T ok' hSI hSa haI (by rw [hold.length, List.length_reverse]; omega) hl2 (off hS hSI) (off ha haI) hold (fun p hp => hl3 p (.tail _ hp)) (hl3 _ (.head _)) F₁ N₁ ?_ ?_
      · intro hw h' tk m' t' F' hm N'
        refine stepTo_next () ((S, listOf (as ++ [Value.ref a]).toArray n) :: (a, listOf #[.bool b, .str (x1 ++ (⟨#[ch]⟩ : Str)) t'] na) :: tl) F' N' ?_ hm (.inr ⟨as, a, b, x1 ++ (⟨#[ch]⟩ : Str), t', na, n, tl, r, rfl, hold, hS, ha, hSa, ?_⟩)
        · intro p hp
          rcases List.mem_cons.mp hp with rfl | hp
          · exact hSI
          · rcases List.mem_cons.mp hp with rfl | hp
            · exact haI
            · exact hne p (.tail _ (.tail _ hp))
        · rw [hrun', hrun]
          show (if _ then _ else _) = _
          rw [if_pos hw]
          simp [PySem.Str.cps_append]
      · intro hw h' tk m' l F' hm N' hSl hal htl
        have hne' : ∀ p ∈ tl ++ [(I, oI)], p.1 < l := kst_ltOf htl
        have hIl : @LT.lt Nat _ I l := hne' (I, oI) (List.mem_append.mpr (.inr (.head _)))
        refine stepTo_next () ((S, listOf ((as ++ [Value.ref a]) ++ [Value.ref l]).toArray (n + 1)) :: (l, listOf #[.bool (bt ch || (b && isW ch)), .str ⟨#[ch]⟩ tc] 0) :: (a, listOf #[.bool b, .str x1 t1] na) :: tl) F' (fun p hp => N' p ?_) ?_ hm
          (.inr ⟨as ++ [Value.ref a], l, bt ch || (b && isW ch), ⟨#[ch]⟩, tc, 0, n + 1, (a, listOf #[.bool b, .str x1 t1] na) :: tl, (b, x1.cps.toList) :: r, rfl, ?_, ?_, ?_, Nat.ne_of_lt hSl, ?_⟩)
        · rcases List.mem_cons.mp hp with rfl | hp
          · exact .tail _ (.head _)
          · rcases List.mem_cons.mp hp with rfl | hp
            · exact .head _
            · exact .tail _ (.tail _ hp)
        · intro p hp
          rcases List.mem_cons.mp hp with rfl | hp
          · exact hSI
          · rcases List.mem_cons.mp hp with rfl | hp
            · exact Nat.ne_of_gt hIl
            · rcases List.mem_cons.mp hp with rfl | hp
              · exact haI
              · exact hne p (.tail _ (.tail _ hp))
        · rw [List.reverse_cons]
          refine F2.snoc (hold.mono fun v p ⟨a', t', n', e, hm⟩ => ⟨a', t', n', e, .tail _ hm⟩) ⟨a, t1, na, rfl, ?_⟩
          rw [str_mk]
          exact .head _
        · intro p hp
          rcases List.mem_cons.mp hp with rfl | hp
          · exact hSa.symm
          · exact hS p hp
        · intro p hp
          rcases List.mem_cons.mp hp with rfl | hp
          · exact Nat.ne_of_lt hal
          · exact Nat.ne_of_lt (hne' p (List.mem_append.mpr (.inl hp)))
        · rw [hrun', hrun]
          show (if _ then _ else _) = _
          rw [if_neg (by rw [hw]; exact Bool.false_ne_true)]
  · rintro ⟨⟩ u news₁ h' tk hinv F₁ N₁
    have hall : x.cps.toList.take x.cps.size = x.cps.toList := List.take_of_length_le (by rw [Array.length_toList]; exact Nat.le_refl _)
    rw [hall] at hinv
    have hlen : x.cps.toList.length ≤ 10000 := by rw [Array.length_toList]; exact hx
    have fin : ∀ (vs : List Value) (n : Nat) (tl : List (Addr × Obj)), News s.heap L h' ((S, listOf vs.toArray n) :: tl) → (∀ p ∈ tl, p.1 ≠ S) → vs.length ≤ 100000 → F2 (OldAt tl) vs (shRun x.cps.toList).reverse →
        wpAny (model pg w) (A.deeper (envOf (Str.ofString "_law_shown") (fnS (stm 15)) L 230 (.ref 229))) (execs ((fnB (stm 15)).drop 2) (envOf (Str.ofString "_law_shown") (fnS (stm 15)) L 230 (Value.ref 229))) (fun fl s' => Q (match fl with | .ret v => v | _ => .none) s') (fun _ _ => False) { s with heap := h', toks := tk } :=
      fun vs n tl N hS hl hold => shown_end X T ok' hS hl (by rw [List.map_reverse, List.length_flatten, List.map_reverse, List.sum_reverse, ← List.length_flatten]; exact Nat.le_trans (sh_inv _).1 (by omega)) hold (fun p hp => (sh_inv x.cps.toList).2.2 hc p (List.mem_reverse.mp hp)) F₁ N fun h'' tk t' m' F' => h h'' tk t' F'.keep
    rcases hinv with ⟨h0, rfl⟩ | ⟨as, a, b, x1, t1, na, n, tl, r, rfl, hold, hS, ha, hSa, hrun⟩
    · exact fin [] 0 [] N₁ (by simp) (by simp) (by rw [h0]; exact .nil)
    · obtain ⟨hl1, hl2, hl3⟩ := sts_bounds hlen hc hrun
      refine fin (as ++ [Value.ref a]) n ((a, listOf #[.bool b, .str x1 t1] na) :: tl) N₁ ?_ ?_ ?_
      · intro p hp
        rcases List.mem_cons.mp hp with rfl | hp
        · exact hSa.symm
        · exact hS p hp
      · rw [List.length_append, hold.length, List.length_reverse]; simp; omega
      · rw [hrun, List.reverse_cons]
        refine F2.snoc (hold.mono fun v p ⟨a', t', n', e, hm⟩ => ⟨a', t', n', e, .tail _ hm⟩) ⟨a, t1, na, rfl, ?_⟩
        rw [str_mk]
        exact .head _
end Mine
end

section
set_option maxRecDepth 100000
set_option linter.unusedVariables false
set_option maxHeartbeats 0
set_option Elab.async false
namespace Mine
open PySem PySem.W PySem.Calls PyProof.Rows PySem.Spec

/-- what the walk wants to know of a class of tokens -/
structure TokC (M : Model) (K : Frag) (h : Heap) (C : Addr) : Prop where
  obj : ∃ cd sl, h.get? C = some ⟨.type "type", none, .cls cd, sl⟩ ∧ cd.mro.isEmpty = false ∧ cd.hasDel = false ∧ K.lookup C = some ⟨.type "type", none, .cls cd, sl⟩
  made : Looks M h (Bind.madeBy (.ref C)) none
  self : Looks M h (isSubtype (.ref C) (.ref C)) true
  sup : Looks M h (isSubtype (.ref C) (.ref 118)) true
  str : Looks M h (isSubtype (.ref C) (.type "str")) true
  top : Looks M h (isSubtype (.ref C) (.type "object")) true
  call : Looks M h (specialOf (.ref C) "__call__") (some (.builtin "type.__call__"))
  typ : Looks M h (isInstance (.ref C) (.type "type")) true
  init : Looks M h (typeLookup (.ref C) "__init__") (some (.builtin "object.__init__"))
noncomputable def tokIn (K : Frag) (C : Addr) : Bool := match K.lookup C with
  | some ⟨.type "type", none, .cls cd, sl⟩ => !cd.hasDel && (sl.toList[4]?).join == some .none && !cd.mro.isEmpty && cd.mro.contains (.ref C) && cd.mro.contains (.ref 118) && cd.mro.contains (.type "str") && cd.mro.contains (.type "object") &&
      specialIn K (.ref C) "__call__" == some (some (.builtin "type.__call__")) && instIn K (.ref C) (.type "type") == some true && findIn K (.ref C) "__init__" == some (some (.builtin "object.__init__"))
  | _ => false
theorem tokC_of {K : Frag} {M : Model} {h : Heap} (X : K.In h) {C : Addr} (e : tokIn K C = true) : TokC M K h C := by
  unfold tokIn at e
  split at e
  · rename_i cd sl ho
    simp only [Bool.and_eq_true, Bool.not_eq_true', beq_iff_eq] at e
    obtain ⟨⟨⟨⟨⟨⟨⟨⟨⟨e2, e3⟩, e4⟩, e5⟩, e6⟩, e7⟩, e8⟩, e9⟩, e10⟩, e11⟩ := e
    have hc : clsIn K C = some cd := by unfold clsIn; rw [ho]
    have hm : Looks M h (mroOf (.ref C)) cd.mro := (looks_clsIn X hc).andThen .now
    obtain ⟨c, l, hl⟩ : ∃ c l, cd.mro = c :: l := by cases q : cd.mro with | nil => rw [q] at e4; cases e4 | cons c l => exact ⟨c, l, rfl⟩
    have sub : ∀ b, cd.mro.contains b = true → Looks M h (isSubtype (.ref C) b) true := fun b hb => looks_mroIn X (by unfold mroIn; rw [hc, Option.bind_some, if_neg (by rw [e4]; decide), hb])
    have made : Looks M h (Bind.madeBy (.ref C)) none := by
      intro A Q E s k q
      unfold Bind.madeBy
      refine wpAny_bind (hm A _ E s k ?_)
      rw [hl, List.forIn_cons]
      refine wpAny_bind (wpAny_bind (wpAny_bind (wpAny_bind (wpAny_loadPart (k _ _ (X _ _ ho)) (wpAny_pure ?_)))))
      dsimp only
      rw [← Array.getElem?_toList, e3]
      exact wpAny_pure (wpAny_pure (wpAny_pure q))
    exact ⟨⟨cd, sl, X _ _ ho, e4, e2, ho⟩, made, sub _ e5, sub _ e6, sub _ e7, sub _ e8, looks_specialIn X e9, looks_instIn X e10, looks_findIn X e11⟩
  · cases e
theorem TokC.keeps {M : Model} {K : Frag} {h h' : Heap} {C : Addr} (x : TokC M K h C) (k : Kp h h') : TokC M K h' C :=
  ⟨let ⟨cd, sl, a, b⟩ := x.obj; ⟨cd, sl, k _ _ a, b⟩, x.made.keeps k, x.self.keeps k, x.sup.keeps k, x.str.keeps k, x.top.keeps k, x.call.keeps k, x.typ.keeps k, x.init.keeps k⟩
theorem tok148 (P : Params) : tokIn (KK P) 148 = true := by kernel_rfl
theorem tok175 (P : Params) : tokIn (KK P) 175 = true := by kernel_rfl
theorem tok202 (P : Params) : tokIn (KK P) 202 = true := by kernel_rfl
theorem Ok.under {A : Around} {n : Nat} {C : Addr} {rest : List Value} (o : Ok A (n + 1)) : Ok (A.under (.builtin "type.__call__" ⟨.ref C :: rest, []⟩)) n := by
  refine ⟨?_, ?_, o.handled, ?_⟩
  · have := o.depth
    show A.depth + 1 + n < 900
    omega
  · have := o.units
    show A.units + 1 + 64 * n < 9000
    omega
  · exact o.frames

section
variable {w : World} {A : Around} {E : Value → Shared → Prop} {C : Addr} {h : Heap} {g : Array GenState} {d : Drawn} {t : Nat} {os : OsState}

theorem new_attr {P : Params} {s : Shared} {prog : Program} {expr : Bool} {Q : Value → Shared → Prop} (hC : C = 148 ∨ C = 175 ∨ C = 202) (X : (KK P).In s.heap) (q : Q (.ref 62) { s with toks := s.toks + 1 }) :
    wpAny (model prog w) A (getAttr (.ref C) "__new__" expr) Q E s := by
  rcases hC with rfl | rfl | rfl
  · exact cls_bind (mc := .type "type") X (by kernel_rfl) (by kernel_rfl : findCls (KK P) (.ref 148) (.type "type") "__new__" = some (.get (.builtin "staticmethod.__get__") (.ref 119) .none (.ref 148))) (wpAny_call (sm_get (f := .ref 62) (rest := []) (s := { s with toks := s.toks + 1 }) X (by kernel_rfl) (handed_on rfl q)))
  · exact cls_bind (mc := .type "type") X (by kernel_rfl) (by kernel_rfl : findCls (KK P) (.ref 175) (.type "type") "__new__" = some (.get (.builtin "staticmethod.__get__") (.ref 119) .none (.ref 175))) (wpAny_call (sm_get (f := .ref 62) (rest := []) (s := { s with toks := s.toks + 1 }) X (by kernel_rfl) (handed_on rfl q)))
  · exact cls_bind (mc := .type "type") X (by kernel_rfl) (by kernel_rfl : findCls (KK P) (.ref 202) (.type "type") "__new__" = some (.get (.builtin "staticmethod.__get__") (.ref 119) .none (.ref 202))) (wpAny_call (sm_get (f := .ref 62) (rest := []) (s := { s with toks := s.toks + 1 }) X (by kernel_rfl) (handed_on rfl q)))

theorem oi_args2 (a v u : Value) : argsOk "object.__init__" ⟨[a, v, u], []⟩ := by unfold argsOk; kernel_rfl

/-- the call of a class of tokens -/
theorem tok_outer {v u : Value} {R : Result → Shared → Prop} (hC : C = 148 ∨ C = 175 ∨ C = 202) (X : (KK w.params).In h)
    (hq : wpAny (model pg w) (A.under (.builtin "type.__call__" ⟨[.ref C, v, u], []⟩)) (call (.ref 62) [.ref C, v, u]) (fun r s' => ∃ a o, r = .ref a ∧ s'.heap.get? a = some o ∧ o.cls = .ref C ∧ Kp h s'.heap ∧ R (.ok (.ret (.ref a))) s') (fun _ _ => False) ⟨h, g, d, t + 1, os⟩) :
    codeAny (model pg w) A (.call (.ref C) ⟨[v, u], []⟩) R ⟨h, g, d, t, os⟩ := by
  have Y : TokC (model pg w) (KK w.params) h C := by rcases hC with rfl | rfl | rfl <;> exact tokC_of X (by kernel_rfl)
  have Y' := Y
  obtain ⟨⟨cd, sl, hC1, e4, e2, hK⟩, made, self, sup, str, top, call', typ, init⟩ := Y
  refine codeAny_of_tree ?_
  show wpAny _ _ (callAny (.ref C) _) _ _ _
  refine nd_load hC1 ?_
  show wpAny _ _ (callAny.viaDunder (.ref C) _) _ _ _
  unfold callAny.viaDunder
  refine wpAny_bind (call'.at ?_)
  dsimp only
  rw [tc_bind]
  refine wpAny_bind (wpAny_pure (wpAny_bind (wpAny_pure ?_)))
  refine wpAny_pure (a := Fin.again (.call (.builtin "type.__call__") ⟨[.ref C, v, u], []⟩)) (And.intro rfl ?_)
  refine codeAny_call_builtin_at (Code.quiet_builtin _ (by decide +kernel)) entry_typeCall (check_slot tc_kind tc_split typ (tc_args _ _ _) ?_)
  unfold Builtin.«type.__call__»
  have hm : Looks (model pg w) h (mroOf (.ref C)) cd.mro := ((Looks.ld (part := none) hC1).andThen .now).andThen .now
  repeat (first | simp only [e4, Bool.false_eq_true, if_false] | with_reducible refine new_attr hC X ?_ | (with_reducible show wpAny _ _ (call (.ref 62) _) _ _ _; fail_if_success skip) | with_reducible refine wpAny_mono hq ?_ fun _ _ x => x.elim | lk)
  rintro r s' ⟨a, o, rfl, ha, ho, k, hR⟩
  obtain ⟨h', g', d', t', os'⟩ := s'
  dsimp only at ha k hR ⊢
  have t1 : Looks (model pg w) h' (typeOf (.ref a)) (.ref C) := by
    have := (Looks.ld (M := model pg w) (part := some headPart) ha).andThen (f := fun o => pure o.cls) .now
    rw [ho] at this
    exact this
  have s1 := self.keeps k
  have i1 := init.keeps k
  have b1 := Looks.of_pure (M := model pg w) (h := h') (oi_bind (.ref a))
  have m1 := made.keeps k
  have p1 := top.keeps k
  unfold isInstance callSpecial? specialOf
  repeat (first | with_reducible refine wpAny_call ?_ | lk)
  have t2 : Looks (model pg w) h' (isInstance (.ref a) (.type "object")) true := t1.andThen p1
  refine codeAny_call_builtin oi_plain entry_oi (@check_slot (model pg w) _ _ _ "object.__init__" "object" "__init__" (.ref a) [v, u] [] _ oi_kind oi_split t2 (oi_args2 (.ref a) v u) ?_)
  unfold Builtin.«object.__init__»
  repeat lk
  exact hR
end
end Mine
end

section
set_option maxRecDepth 100000
set_option linter.unusedVariables false
set_option maxHeartbeats 0
set_option Elab.async false
namespace Mine
open PySem PySem.W PySem.Calls PyProof.Rows PySem.Spec

section
variable {w : World} {A : Around} {E : Value → Shared → Prop} {C : Addr} {h : Heap} {g : Array GenState} {d : Drawn} {t : Nat} {os : OsState}

noncomputable abbrev supObj (C : Addr) : Obj := { cls := .type "super", dict := none, data := .fields #[.ref 118, .ref C, .ref C], slots := #[] }

theorem call_sup {Q : Value → Shared → Prop} {oD oC : Obj} {cdD cdC : ClassData} (hD : h.get? 118 = some oD) (hDt : oD.data = .cls cdD) (hC : h.get? C = some oC) (hCt : oC.data = .cls cdC) (hsub : Looks (model pg w) h (isSubtype (.ref C) (.ref 118)) true)
    (hq : ∀ h', h'.get? h.objs.size = some (supObj C) → Kp h h' → Q (.ref h.objs.size) ⟨h', g, d, t, os⟩) :
    wpAny (model pg w) A (call (.type "super") [.ref 118, .ref C]) Q E ⟨h, g, d, t, os⟩ := by
  refine ks_callType_codesW (Q₁ := fun obj s₁ => obj = .ref h.objs.size ∧ s₁ = ⟨h.push { cls := .type "super", data := .fields #[.none, .none, .none] }, g, d, t, os⟩) F.ks_called_super (ks_wpAny_checkTypeCall_super hD hDt) F.ks_entry_super_init
    (ks_code_super_new _ _ ⟨rfl, rfl⟩) fun obj s₁ h₁ => ?_
  obtain ⟨rfl, rfl⟩ := h₁
  have up : ∀ y o, h.get? y = some o → (h.push { cls := .type "super", data := .fields #[.none, .none, .none] }).get? y = some o := fun y o e => Heap.get?_push_of_some _ e
  have hso : (h.push { cls := .type "super", data := .fields #[.none, .none, .none] }).get? h.objs.size = some { cls := .type "super", dict := none, data := .fields #[.none, .none, .none], slots := #[] } := Heap.get?_push_at rfl rfl
  have hD' := up _ _ hD
  have hC' := up _ _ hC
  have hsub' := hsub.keeps up
  refine ⟨⟨_, hso, rfl⟩, F.ks_initArgs_super _ _ _, ?_⟩
  unfold Builtin.«super.__init__» noKeywords
  repeat (first | (with_reducible refine ks_wpAny_isType_cls hD' hDt ?_) | (with_reducible refine ks_wpAny_isType_cls hC' hCt ?_) | (with_reducible refine Looks.at hsub' ?_) | (with_reducible refine ks_wpAny_super_set3 hso ?_) | wp_step)
  all_goals first
    | (intro h' e k; exact ⟨rfl, hq h' e fun y o ey => k y o (Nat.ne_of_lt (Heap.lt_size ey)) (up y o ey)⟩)
    | (refine ks_wpAny_super_set3 hso ?_; intro h' e k; exact ⟨rfl, hq h' e fun y o ey => k y o (Nat.ne_of_lt (Heap.lt_size ey)) (up y o ey)⟩)

theorem sup_ga {so : Addr} {K : Frag} {l₀ l : List Value} {name : Str} {f gt : Value} {tk : Tok} {Q : Fin → Shared → Prop}
    (hso : h.get? so = some (supObj C)) (hno : Looks (model pg w) h (opaqueClassAbove (.ref C)) none)
    (hC : Looks (model pg w) h (mroOf (.ref C)) l₀) (hl : (l₀.dropWhile (· != .ref 118)).drop 1 = l) (X : K.In h)
    (hf : alongIn K name l = some (some f)) (hT : Looks (model pg w) h (typeOf f) gt) (hg : Looks (model pg w) h (typeLookup gt "__get__") none) (hh : Looks (model pg w) h (handedOut f) f) (hn : (name == ("__class__" : Str)) = false)
    (hq : Q (.done (.ret f)) ⟨h, g, d, t, os⟩) :
    wpAny (model pg w) A (Builtin.«super.__getattribute__» ⟨[.ref so, .str name tk], []⟩) Q E ⟨h, g, d, t, os⟩ := by
  have hdt : (supObj C).data = .fields #[.ref 118, .ref C, .ref C] := rfl
  have f0 : (#[.ref 118, .ref C, .ref C] : Array Value)[0]? = some (.ref 118) := rfl
  have f1 : (#[.ref 118, .ref C, .ref C] : Array Value)[1]? = some (.ref C) := rfl
  have f2 : (#[.ref 118, .ref C, .ref C] : Array Value)[2]? = some (.ref C) := rfl
  unfold Builtin.«super.__getattribute__»
  repeat (first
    | (with_reducible refine wpAny_field hso hdt f0 ?_) | (with_reducible refine wpAny_field hso hdt f1 ?_) | (with_reducible refine wpAny_field hso hdt f2 ?_)
    | (with_reducible refine ks_wpAny_notOpaque hno ?_)
    | (with_reducible refine Looks.at hC ?_; rw [hl])
    | (refine ks_forIn_along X (fun _ _ => rfl) rfl ?_ hf)
    | (with_reducible refine Looks.at hT ?_)
    | (with_reducible refine Looks.at hg ?_)
    | (with_reducible refine Looks.at hh ?_)
    | (simp only [hn, Bool.or_false, Bool.false_eq_true, if_false])
    | wp_step
    | dsimp only)
  all_goals exact hq

theorem sup_new {so : Addr} {pl : Sem Bool} {Q : Value × List Value → Shared → Prop} (hC : C = 148 ∨ C = 175 ∨ C = 202) (hso : h.get? so = some (supObj C)) (X : (KK w.params).In h)
    (hq : Q (.builtin "str.__new__", []) ⟨h, g, d, t + 1, os⟩) : wpAny (model pg w) A (getMethod (.ref so) "__new__" pl) Q E ⟨h, g, d, t, os⟩ := by
  have hlk := F.ks_slot_super_ga.lookup
  have hcan := F.ks_canon_super_ga
  have hT : ∀ t', (⟨h, g, d, t', os⟩ : Shared).TypeIs (.ref so) "super" := fun _ => ⟨_, hso, rfl⟩
  unfold getMethod
  refine wpAny_bind (wpAny_specialOf (hT _) hlk ?_)
  show wpAny _ _ (if (Manifest.canonical "super.__getattribute__" != "object.__getattribute__") = true then _ else _) _ _ _
  rw [if_pos hcan]
  unfold getAttr getAttrBy
  refine wpAny_bind (wpAny_bind (wpAny_mkText (wpAny_holding (wpAny_bind (wpAny_typeOf (hT _) (wpAny_bind (wpAny_of_eq hlk ?_)))))))
  show wpAny _ _ (getAttrByItsOwn (.ref so) (.str "__new__" t) (.type "super") (.builtin "super.__getattribute__") true false) _ _ _
  unfold getAttrByItsOwn hookBefore callGetattribute boundAndCalled
  refine wpAny_bind (wpAny_of_eq (show (if onTheHeap (.type "super") then typeLookup (.type "super") "__getattr__" else pure none) = pure none from rfl) ?_)
  refine wpAny_bind (wpAny_attempt (wpAny_holding ?_))
  show wpAny _ _ (bindSpecial (.builtin "super.__getattribute__") (.ref so) >>= _) _ _ _
  refine wpAny_bind (wpAny_of_eq (F.ks_slot_super_ga.bind _) ?_)
  refine wpAny_mono (Q := fun v s' => v = .builtin "str.__new__" ∧ s' = ⟨h, g, d, t + 1, os⟩) (E := fun _ _ => False)
    (wpAny_call_entry F.ks_slot_super_ga (hT _) F.ks_entry_super_ga ?_ (F.ks_gaArgs_super _ _)) (fun v s' hv => ?_) fun _ _ z => z.elim
  · have go : ∀ (l : List Value), (clsIn (KK w.params) C).map (·.mro) = some l → alongIn (KK w.params) "__new__" ((l.dropWhile (· != .ref 118)).drop 1) = some (some (.builtin "str.__new__")) → Looks (model pg w) h (opaqueClassAbove (.ref C)) none →
        wpAny (model pg w) A.in1 (Builtin.«super.__getattribute__» ⟨[.ref so, .str "__new__" t], []⟩) (fun fin s' => ∃ v, fin = .done (.ret v) ∧ (v = .builtin "str.__new__" ∧ s' = ⟨h, g, d, t + 1, os⟩)) (fun _ _ => False) ⟨h, g, d, t + 1, os⟩ := by
      intro l hc ha ho
      obtain ⟨cd, hc1, rfl⟩ := Option.map_eq_some_iff.mp hc
      refine sup_ga (K := KK w.params) (gt := .type "builtin_function_or_method") (l₀ := cd.mro) hso ho ((looks_clsIn X hc1).andThen .now) rfl X ha (looks_typeIn X (by kernel_rfl)) (looks_findIn X (by kernel_rfl)) (Looks.of_pure rfl) (by decide) ⟨_, rfl, rfl, rfl⟩
    rcases hC with rfl | rfl | rfl
    · exact go [.ref 148, .ref 118, .type "str", .type "object"] (by kernel_rfl) (by kernel_rfl) (looks_opaque X (by kernel_rfl))
    · exact go [.ref 175, .ref 118, .type "str", .type "object"] (by kernel_rfl) (by kernel_rfl) (looks_opaque X (by kernel_rfl))
    · exact go [.ref 202, .ref 148, .ref 118, .type "str", .type "object"] (by kernel_rfl) (by kernel_rfl) (looks_opaque X (by kernel_rfl))
  · obtain ⟨rfl, rfl⟩ := hv
    exact wpAny_pure (wpAny_pure hq)

noncomputable abbrev tokObj (C D : Addr) (y : Str) (t : Tok) : Obj := { cls := .ref C, dict := some D, data := .prim (.str y t) }
theorem made_str : Looks (model pg w) h (Bind.madeBy (.type "str")) (some "str.__new__") := Looks.of_pure F.called_str.made
theorem base_tok (hC : C = 148 ∨ C = 175 ∨ C = 202) (X : (KK w.params).In h) : Looks (model pg w) h (Bind.staticBase (.ref C)) (.type "str") := by
  have m0 : Looks (model pg w) h (Bind.madeBy (.type "str")) (some "str.__new__") := made_str
  have g118 := X 118 _ (by kernel_rfl : _ = some (obf118 w.params))
  have g148 := X 148 _ (by kernel_rfl : _ = some (obf148 w.params))
  have g175 := X 175 _ (by kernel_rfl : _ = some (obf175 w.params))
  have g202 := X 202 _ (by kernel_rfl : _ = some (obf202 w.params))
  intro A Q E s k q
  obtain ⟨h', g, d, t, os⟩ := s
  replace g118 := k _ _ g118
  replace g148 := k _ _ g148
  replace g175 := k _ _ g175
  replace g202 := k _ _ g202
  replace m0 := m0.keeps k
  dsimp only at k q
  unfold Bind.staticBase
  rcases hC with rfl | rfl | rfl
  all_goals (repeat lk)
  all_goals exact q
theorem sn_args (C : Addr) (v : Value) : argsOk "str.__new__" ⟨[.ref C, v], []⟩ := by unfold argsOk; kernel_rfl
/-- str.__new__ of a class of tokens -/
theorem str_new_tok {v : Value} {y : Str} {Q : Value → Shared → Prop} (hy : y.length ≤ 1000000) (hC : C = 148 ∨ C = 175 ∨ C = 202) (X : (KK w.params).In h)
    (hv : ∀ (Q' : Value → Shared → Prop) (E' : Value → Shared → Prop), (∀ h' t' ty, Kp h h' → Q' (.str y ty) ⟨h', g, d, t', os⟩) → wpAny (model pg w) (A.under (.builtin "str.__new__" ⟨[.ref C, v], []⟩)) (Builtin.Str.strOf v) Q' E' ⟨h, g, d, t, os⟩)
    (hq : ∀ h' t', Kp h h' → Q (.ref (h'.objs.size + 1)) ⟨(h'.push emptyDict).push (tokObj C h'.objs.size y t'), g, d, t' + 1, os⟩) :
    wpAny (model pg w) A (call (.builtin "str.__new__") [.ref C, v]) Q E ⟨h, g, d, t, os⟩ := by
  have Y : TokC (model pg w) (KK w.params) h C := by rcases hC with rfl | rfl | rfl <;> exact tokC_of X (by kernel_rfl)
  obtain ⟨⟨cd, sl, hC1, e4, e2, hK⟩, made, self, sup, str, top, call', typ, init⟩ := Y
  have m0 : Looks (model pg w) h (Bind.madeBy (.type "str")) (some "str.__new__") := made_str
  have b0 := base_tok hC X
  refine wpAny_call (codeAny_call_builtin_at (Code.quiet_builtin _ (by decide +kernel)) F.entry_str_new ?_)
  have k1 : builtinKind "str.__new__" = some .builtinFn := by decide +kernel
  have k2 : splitId "str.__new__" = some ("str", "__new__") := by decide +kernel
  have ha : argsOk "str.__new__" ⟨[.ref C, v], []⟩ := sn_args C v
  simp only [checkBuiltinCall, k1, k2]
  repeat (first | simp only [bne_self_eq_false, Bool.false_eq_true, if_false] | with_reducible refine hv _ _ ?_ | lk)
  intro h' t' ty k
  have hC' := k _ _ hC1
  have hy' : ¬ y.length > sizeLine := by rw [PySem.sizeLine_eq]; omega
  have pl : (Data.prim (.str y t')).pastItsLine = none := by
    unfold Data.pastItsLine
    dsimp only
    rw [if_neg hy']
  repeat (first | rw [if_neg hy'] | (with_reducible show wpAny _ _ (newObj _ _ _) _ _ _; fail_if_success skip) | lk)
  rw [pl]
  have hC2 := Heap.get?_push_of_some (tokObj C h'.objs.size y t') (Heap.get?_push_of_some emptyDict hC')
  unfold newObjAsIs classHasDel
  repeat (first | rw [if_neg (by rw [e2]; exact Bool.false_ne_true)] | lk)
  rw [Heap.size_push]
  exact hq h' t' k
end
end Mine
end

section
set_option maxRecDepth 100000
set_option linter.unusedVariables false
set_option maxHeartbeats 0
set_option Elab.async false
namespace Mine
open PySem PySem.W PySem.Calls PyProof.Rows PySem.Spec Builtin Builtin.ObjectAttr

section
variable {w : World} {A : Around} {E : Value → Shared → Prop} {C x D : Addr} {s : Shared}

theorem refuse_tok (C : Addr) (hC : C = 148 ∨ C = 175 ∨ C = 202) (self : Value) {cd : ClassData} (P : Params) (hc : clsIn (KK P) C = some cd) : refuseLoop self "__setattr__" cd.mro = pure () := by
  rcases hC with rfl | rfl | rfl <;> (cases hc; kernel_rfl)

theorem tok_set {y : Str} {t : Tok} {name : Str} {v : Value} {es es' : List DictEntry} {n n' : Nat} {Q : Unit → Shared → Prop} (hC : C = 148 ∨ C = 175 ∨ C = 202) (X : (KK w.params).In s.heap)
    (hx : s.heap.get? x = some (tokObj C D y t)) (hD : s.heap.get? D = some (dictOf es n))
    (ht : ∀ C, C = 148 ∨ C = 175 ∨ C = 202 → findIn (KK w.params) (.ref C) name = some none) (hl : getL name es = some none)
    (e : (putL name (PyData.keyHash w.params name) (.str name (s.toks + 1)) v es, putN name es n) = (es', n')) (hz : es'.length ≤ 1000)
    (h : ∀ h', h'.get? D = some (dictOf es' n') → Heap.SameBut D s.heap h' → Q () { s with heap := h', toks := s.toks + 2 }) :
    wpAny (model pg w) A (setAttr (.ref x) name v) Q E s := by
  have Y : TokC (model pg w) (KK w.params) s.heap C := by rcases hC with rfl | rfl | rfl <;> exact tokC_of X (by kernel_rfl)
  obtain ⟨⟨cd, sl, hC1, e4, e2, hK⟩, made, self, sup, str, top, call', typ, init⟩ := Y
  have hc : clsIn (KK w.params) C = some cd := by unfold clsIn; rw [hK]
  have I : InstAt s.heap x (tokObj C D y t) C (some (dictOf es n)) := ⟨hx, rfl, rfl, hD⟩
  have hs : findIn (KK w.params) (.ref C) "__setattr__" = some (some (.builtin "object.__setattr__")) := by rcases hC with rfl | rfl | rfl <;> kernel_rfl
  have hh : cd.hasDict = true := by rcases hC with rfl | rfl | rfl <;> (cases hc; rfl)
  have SF := PySem.F.store_object
  have ref0 := refuse_tok C hC (.ref x) w.params hc
  have hat := ht C hC
  refine set_plain X I hs ?_
  have sub : Looks (model pg w) s.heap (isInstance (.ref x) (.type "object")) true := I.type.andThen top
  refine codeAny_call_builtin SF.slot.plain SF.entry (@check_slot (model pg w) _ _ { s with toks := s.toks + 1 } "object.__setattr__" "object" "__setattr__" (.ref x) [.str name s.toks, v] [] _ SF.kind SF.split sub (SF.args (.ref x) (.str name s.toks) v) ?_)
  have hm : Looks (model pg w) s.heap (mroOf (.ref C)) cd.mro := (looks_clsIn X hc).andThen .now
  rw [osa_eq, refuse_eq]
  refine wpAny_bind (wpAny_bind (I.type _ _ _ _ (fun _ _ e => e) (wpAny_bind (hm _ _ _ _ (fun _ _ e => e) ?_))))
  rw [ref0]
  refine wpAny_pure (wpAny_bind (I.type _ _ _ _ (fun _ _ e => e) (wpAny_bind (looks_findIn X hat _ _ _ _ (fun _ _ e => e) (wpAny_bind ?_)))))
  refine wpAny_pure ?_
  refine wpAny_bind (wpAny_pure (wpAny_bind (wpAny_bind (wpAny_loadPart hx (wpAny_bind (looks_clsIn X hc _ _ _ _ (fun _ _ e => e) ?_))))))
  rw [hh]
  refine wpAny_pure (a := some D) (wpAny_bind (wpAny_pure (wpAny_bind ?_)))
  unfold nsSet
  refine wpAny_bind (wpAny_bind (wpAny_askSetting (wpAny_pure (wpAny_bind (wpAny_mkText (wpAny_bind (wpAny_loadPart hD ?_)))))))
  have c : (!es.toArray.any (·.key.isStr name) && es.toArray.any (·.refKey)) = false := by
    rw [← Array.any_toList, ← Array.any_toList]
    unfold getL at hl
    split at hl
    · cases hl
    · split at hl
      · cases hl
      · rename_i z
        rw [Bool.not_eq_true] at z
        rw [z, Bool.and_false]
  obtain ⟨e1, e2'⟩ := Prod.mk.inj e
  have pe : Obj.putName name (PyData.keyHash w.params name) (.str name (s.toks + 1)) v (dictOf es n) = dictOf es' n' := by rw [putName_dict, e1, e2']
  dsimp only [dictOf]
  rw [aRefKeyMayBeTheName_at, c]
  refine wpAny_updatePart hD ?_
  have D' : (s.heap.update D (Obj.putName name (PyData.keyHash w.params name) (.str name (s.toks + 1)) v)).get? D = some (dictOf es' n') := by
    rw [Heap.get?_update_self _ hD (by rw [pe]; rfl), pe]
  refine wpAny_bind (wpAny_lookBehind D' (pastItsLine_dict (by rw [List.size_toArray, sizeLine_eq]; omega)) ?_)
  exact wpAny_pure (h _ D' (Heap.SameBut.update ..))

noncomputable def ty0 (P : Params) (name : Str) (t : Tok) (v : Value) : DictEntry := ⟨PyData.keyHash P name, .str name t, v⟩
end
end Mine
end

section
set_option maxRecDepth 100000
set_option linter.unusedVariables false
set_option maxHeartbeats 0
set_option Elab.async false
namespace Mine
open PySem PySem.W PySem.Calls PyProof.Rows PySem.Spec
local macro_rules | `(tactic| walk_at "names") => `(tactic| repeat' (first | exact List.forall_mem_nil _ | refine List.forall_mem_cons.2 ⟨?_, ?_⟩ | rfl))

section
variable {w : World} {A : Around} {E : Value → Shared → Prop} {C x D L : Addr} {s : Shared} {h₀ : Heap} {m : Str → Option Value} {news news' : List (Addr × Obj)}
theorem tok_setU {y : Str} {t : Tok} {name : Str} {v : Value} {es es' : List DictEntry} {n n' : Nat} {Q : Unit → Shared → Prop} (hC : C = 148 ∨ C = 175 ∨ C = 202) (F : Fr h₀ L s.heap m) (X : (KK w.params).In h₀) (N : News h₀ L s.heap news)
    (hx : (x, tokObj C D y t) ∈ news) (U : Upd D (dictOf es n) (dictOf es' n') news news')
    (ht : ∀ C, C = 148 ∨ C = 175 ∨ C = 202 → findIn (KK w.params) (.ref C) name = some none) (hl : getL name es = some none)
    (e : (putL name (PyData.keyHash w.params name) (.str name (s.toks + 1)) v es, putN name es n) = (es', n')) (hz : es'.length ≤ 1000)
    (h : ∀ h', Fr h₀ L h' m → News h₀ L h' news' → Q () { s with heap := h', toks := s.toks + 2 }) :
    wpAny (model pg w) A (setAttr (.ref x) name v) Q E s := by
  obtain ⟨pre, post, rfl, rfl, a, b⟩ := U.split
  have z := N (D, dictOf es n) (List.mem_append.mpr (.inr (.head _)))
  exact tok_set hC (X.keeps F.keep) (N _ hx).1 z.1 ht hl e hz fun h' ho' hs => h h' (F.change hs z.2.1 z.2.2) (news_set N a b hs ho')
theorem ft_token (P : Params) : ∀ C, C = 148 ∨ C = 175 ∨ C = 202 → findIn (KK P) (.ref C) "token_type" = some none := by
  rintro C (rfl | rfl | rfl) <;> kernel_rfl
theorem ft_defects (P : Params) : ∀ C, C = 148 ∨ C = 175 ∨ C = 202 → findIn (KK P) (.ref C) "defects" = some none := by
  rintro C (rfl | rfl | rfl) <;> kernel_rfl

noncomputable abbrev fd62 : FuncData := { name := (Str.ofString "__new__"), qualname := (Str.ofString "Terminal.__new__"), params := fnP (stmIn 7 3), body := .stmts (fnB (stmIn 7 3)), scope := fnS (stmIn 7 3), globals := 3, closure := [((Str.ofString "__class__"), 50)], defaults := .none, kwdefaults := .none, doc := .none, pyModule := (.str (Str.ofString "cpy313.email._header_value_parser") 194), annotations := none, code := (.ref 61), closureTuple := (.ref 55), builtins := 0 : FuncData}

theorem new_fn {v u : Value} {y : Str} {Q : Value → Shared → Prop} {mean : ExcName → Option Value} {mg mb : Str → Option Value} (hy : y.length ≤ 1000000) (hC : C = 148 ∨ C = 175 ∨ C = 202)
    (X : (KK w.params).In s.heap) (T : TopV mean mg mb s.heap) (ok : Ok A 3)
    (hv : ∀ (A' : Around) (Q' E' : Value → Shared → Prop) (s' : Shared), A'.units < 9500 → Kp s.heap s'.heap → (∀ h' t' ty, Kp s'.heap h' → Q' (.str y ty) { s' with heap := h', toks := t' }) → wpAny (model pg w) A' (Builtin.Str.strOf v) Q' E' s')
    (h : ∀ h' tk a D t', Kp s.heap h' → h'.get? a = some (tokObj C D y t') → s.heap.get? a = none → Q (.ref a) { s with heap := h', toks := tk }) :
    wpAny (model pg w) A (call (.ref 62) [.ref C, v, u]) Q E s := by
  have hb : (fd62).body = .stmts (fnB (stmIn 7 3)) := rfl
  refine wpAny_call (ks_codeAny_call_defAt (fd := fd62) (body := fnB (stmIn 7 3)) (binds := [(Str.ofString "cls", .ref C), (Str.ofString "value", v), (Str.ofString "token_type", u)]) ok.room (X _ _ (by kernel_rfl : _ = some (obf62 w.params))) rfl T.nolimit (codeRec_of X (by kernel_rfl)) rfl (BindsTo.of_eq rfl) (by decide) (locs rfl) (fun h₁ hns hk => ?_))
  generalize hL : s.heap.objs.size = L at hns ⊢
  have F : Fr s.heap L h₁ (fun y => [(Str.ofString "cls", Value.ref C), (Str.ofString "value", v), (Str.ofString "token_type", u)].reverse.lookup y) := ⟨hns, hk, Nat.le_of_eq hL⟩
  have N : News s.heap L h₁ [] := News.nil
  have T₁ := T.keeps hk
  have X₁ := X.keeps hk
  refine ks_wpAt_mono (E := fun _ _ => False) (Q := fun f s' => Q (match f with | .ret v => v | _ => .none) s') ?_ (fun f s' z => z) (fun _ _ z => z.elim)
  refine ks_wpAt_execs_cons (ks_wpAt_Assign_Name (ks_wpAt_MethodCall ?_))
  have hc118 := X₁ 118 _ (by kernel_rfl : _ = some (obf118 w.params))
  have Y : TokC (model pg w) (KK w.params) h₁ C := by rcases hC with rfl | rfl | rfl <;> exact tokC_of X₁ (by kernel_rfl)
  obtain ⟨cdC, slC, hC1, -⟩ := Y.obj
  refine ks_wpAt_super_base (env := callEnv fd62 L 62) (cc := 61) rfl rfl (by decide) rfl (X₁ 62 _ (by kernel_rfl : _ = some (obf62 w.params))) rfl rfl rfl (X₁ 61 _ (by kernel_rfl : _ = some (obf61 w.params))) rfl rfl (by decide +kernel) (by kernel_rfl) ?_
  refine ks_loadName_global rfl rfl (loadGlobal_builtin (env := callEnv fd62 L 62) T₁.g (mg_none_of X T.g (by kernel_rfl)) T₁.b ((T.builtins _ (by decide +kernel)).trans (by kernel_rfl : bootBuiltins "super" = some (.type "super"))) ⟨rfl, ?_⟩)
  refine wpAny_loadName_free rfl rfl rfl ⟨_, X₁ 50 _ (by kernel_rfl : _ = some (obf50 w.params)), rfl⟩ ?_
  refine wpAny_loadName_local rfl rfl F.ns rfl ?_
  refine ks_wpAny_isType_cls hc118 rfl ⟨rfl, ?_⟩
  refine call_sup hc118 rfl hC1 rfl Y.sup fun h₂ hso k₂ => ?_
  refine sup_new hC hso (X₁.keeps k₂) ?_
  have F₂ := frK F k₂
  have N₂ : News s.heap L h₂ [] := News.nil
  clear N F
  dsimp only
  k_steps
  have un : ∀ (args : Args), ((A.deeper (callEnv fd62 L 62)).under (.builtin "str.__new__" args)).units < 9500 := fun args => by
    have := ok.units
    show A.units + 3 + 1 < 9500
    omega
  refine str_new_tok hy hC (X₁.keeps k₂) (fun Q' E' z => hv _ Q' E' _ (un _) (Kp.trans hk k₂) fun h' t' ty k => z h' t' ty k) fun h₃ t₃ k₃ => ?_
  have F₃ := ((frK F₂ k₃).push emptyDict).push (tokObj C h₃.objs.size y t₃)
  have N₃ := ((nwK N₂ k₃).push (frK F₂ k₃) emptyDict).push ((frK F₂ k₃).push emptyDict) (tokObj C h₃.objs.size y t₃)
  rw [Heap.size_push] at N₃
  have ne : @LT.lt Nat _ h₃.objs.size (h₃.objs.size + 1) := Nat.lt_succ_self _
  generalize h₃.objs.size = D at F₃ N₃ ne ⊢
  generalize D + 1 = a at F₃ N₃ ne ⊢
  generalize (h₃.push emptyDict).push (tokObj C D y t₃) = h₄ at F₃ N₃ ⊢
  clear F₂ N₂ hso
  have nea : @Ne Nat a D := Nat.ne_of_gt ne
  k_steps
  rename_i h₅ F₅ N₅
  refine tok_setU (es := []) (n := 0) hC F₅ X N₅ (.head _) (.tail nea (.head (by simp))) (ft_token _) rfl rfl (Nat.le_of_ble_eq_true rfl) fun h₆ F₆ N₆ => ?_
  clear F₅ N₅
  k_steps
  rename_i l h₇ F₇ N₇ lt₇
  refine tok_setU (n := 1) hC F₇ X N₇ (.tail _ (.head _)) (.tail (Nat.ne_of_gt lt₇.2) (.tail nea (.head (by simp)))) (ft_defects _) rfl rfl (Nat.le_of_ble_eq_true rfl) fun h₈ F₈ N₈ => ?_
  clear F₇ N₇
  k_steps
  exact h _ _ a D t₃ F₈.keep (N₈ _ (.tail _ (.head _))).1 (N₈ _ (.tail _ (.head _))).2.2

theorem Ok.under1 {A : Around} {n : Nat} (o : Ok A (n + 1)) (C : Addr) (rest : List Value) : Ok (A.under (.builtin "type.__call__" ⟨.ref C :: rest, []⟩)) n := o.under
/-- a token is made -/
theorem mk_tok {v u : Value} {y : Str} {Q : Value → Shared → Prop} {mean : ExcName → Option Value} {mg mb : Str → Option Value} (hy : y.length ≤ 1000000) (hC : C = 148 ∨ C = 175 ∨ C = 202)
    (X : (KK w.params).In s.heap) (T : TopV mean mg mb s.heap) (ok : Ok A 4)
    (hv : ∀ (A' : Around) (Q' E' : Value → Shared → Prop) (s' : Shared), A'.units < 9500 → Kp s.heap s'.heap → (∀ h' t' ty, Kp s'.heap h' → Q' (.str y ty) { s' with heap := h', toks := t' }) → wpAny (model pg w) A' (Builtin.Str.strOf v) Q' E' s')
    (h : ∀ h' tk a D t', Kp s.heap h' → h'.get? a = some (tokObj C D y t') → s.heap.get? a = none → Q (.ref a) { s with heap := h', toks := tk }) :
    wpAny (model pg w) A (call (.ref C) [v, u]) Q E s := by
  obtain ⟨hh, g, d, t, os⟩ := s
  refine wpAny_call (tok_outer hC X ?_)
  refine new_fn (s := ⟨hh, g, d, t + 1, os⟩) hy hC X T (ok.under1 _ _) (fun A' Q' E' s' hu hk z => hv A' Q' E' s' hu hk z) fun h' tk a D t' k ha hn => ?_
  exact ⟨a, _, rfl, ha, rfl, k, h h' tk a D t' k ha hn⟩
theorem strOf_str {y : Str} {t : Tok} (h : Heap) : ∀ (A' : Around) (Q' E' : Value → Shared → Prop) (s' : Shared), A'.units < 9500 → Kp h s'.heap → (∀ h' t' ty, Kp s'.heap h' → Q' (.str y ty) { s' with heap := h', toks := t' }) → wpAny (model pg w) A' (Builtin.Str.strOf (.str y t)) Q' E' s' :=
  fun A' Q' E' s' _ _ z => wpAny_pure (z _ _ _ Kp.refl)
end
end Mine
end

section
set_option maxRecDepth 100000
set_option linter.unusedVariables false
set_option maxHeartbeats 0
set_option Elab.async false
namespace Mine
open PySem PySem.W PySem.Calls PyProof.Rows PySem.Spec

/-- a token of the class C with the text y -/
noncomputable def TokAt (h : Heap) (a C : Addr) (y : Str) : Prop := ∃ D t, h.get? a = some (tokObj C D y t)
theorem TokAt.keeps {h h' : Heap} {a C : Addr} {y : Str} (x : TokAt h a C y) (k : Kp h h') : TokAt h' a C y := let ⟨D, t, e⟩ := x; ⟨D, t, k _ _ e⟩
section
variable {w : World} {A : Around} {E : Value → Shared → Prop} {C a : Addr} {h : Heap} {g : Array GenState} {d : Drawn} {t : Nat} {os : OsState}
theorem str_slot : Slot "str" "__str__" "str.__str__" := .of (owner := "str") (n := "__str__") (by rw [typeLookup_type, builtinLookup_eq_fast]; kernel_rfl) (by decide +kernel) (by decide +kernel) (by decide +kernel) (.inl (by decide +kernel)) (by rw [isSubtype_type]; kernel_rfl)
theorem entry_ss : entryFor table "str.__str__" = some Builtin.«str.__str__» := entryFor_of_tree (by kernel_rfl)
theorem ss_kind : builtinKind "str.__str__" = some .slot := by decide +kernel
theorem ss_split : splitId "str.__str__" = some ("str", "__str__") := by decide +kernel
theorem ss_plain : plainId "str.__str__" = true := by decide +kernel
theorem ss_args (a : Value) : argsOk "str.__str__" ⟨[a], []⟩ := by unfold argsOk; kernel_rfl

/-- str of a token that is not hidden -/
theorem strOf_tok {y : Str} {Q : Value → Shared → Prop} (hC : C = 148 ∨ C = 175) (X : (KK w.params).In h) (hy : y.length ≤ 1000000) (ha : TokAt h a C y) (hu : A.units < 9500)
    (hq : ∀ t' ty, t ≤ t' → Q (.str y ty) ⟨h, g, d, t', os⟩) : wpAny (model pg w) A (Builtin.Str.strOf (.ref a)) Q E ⟨h, g, d, t, os⟩ := by
  obtain ⟨D, t0, ha⟩ := ha
  have Y : TokC (model pg w) (KK w.params) h C := by rcases hC with rfl | rfl <;> exact tokC_of X (by kernel_rfl)
  have hs : Looks (model pg w) h (typeLookup (.ref C) "__str__") (some (.builtin "str.__str__")) := by rcases hC with rfl | rfl <;> exact looks_findIn X (by kernel_rfl)
  have t1 : Looks (model pg w) h (typeOf (.ref a)) (.ref C) := by
    have := (Looks.ld (M := model pg w) (part := some headPart) ha).andThen (f := fun o => pure o.cls) .now
    exact this
  have b1 := Looks.of_pure (M := model pg w) (h := h) (str_slot.bind (.ref a))
  have s1 := Y.str
  have i1 : Looks (model pg w) h (isInstance (.ref a) (.type "str")) true := t1.andThen s1
  unfold Builtin.Str.strOf
  have hy' : ¬ y.length > sizeLine := by rw [PySem.sizeLine_eq]; omega
  have hc : A.units < cLine := by show A.units < 9900; omega
  repeat (first | with_reducible refine wpAny_cRoomFor hc ?_ | with_reducible refine wpAny_call ?_ | (with_reducible show codeAny _ _ _ _ _; fail_if_success skip) | lk)
  refine codeAny_call_builtin ss_plain entry_ss (@check_slot (model pg w) _ _ _ "str.__str__" "str" "__str__" (.ref a) [] [] _ ss_kind ss_split i1 (ss_args (.ref a)) ?_)
  unfold Builtin.«str.__str__»
  repeat (first | rw [if_neg hy'] | lk)
  exact hq _ _ (Nat.le_succ _)
noncomputable abbrev fd199 : FuncData := { name := (Str.ofString "__str__"), qualname := (Str.ofString "EWWhiteSpaceTerminal.__str__"), params := fnP (stmIn 10 1), body := .stmts (fnB (stmIn 10 1)), scope := fnS (stmIn 10 1), globals := 3, closure := [], defaults := .none, kwdefaults := .none, doc := .none, pyModule := (.str (Str.ofString "cpy313.email._header_value_parser") 194), annotations := none, code := (.ref 198), closureTuple := .none, builtins := 0 : FuncData}
theorem hidden_code {R : Result → Shared → Prop} {s : Shared} {mean : ExcName → Option Value} {mg mb : Str → Option Value} (X : (KK w.params).In s.heap) (T : TopV mean mg mb s.heap) (hr : A.depth < recursionLimit)
    (hq : ∀ h' t' ty, Kp s.heap h' → s.toks ≤ t' → R (.ok (.ret (.str (Str.ofString "") ty))) { s with heap := h', toks := t' }) : codeAny (model pg w) A (.call (.ref 199) ⟨[.ref a], []⟩) R s := by
  refine codeAny_call_def (fd := fd199) (body := fnB (stmIn 10 1)) (binds := [(Str.ofString "self", .ref a)]) hr (X _ _ (by kernel_rfl : _ = some (obf199 w.params))) rfl T.nolimit (codeRec_of X (by kernel_rfl)) rfl (BindsTo.of_eq rfl) (by decide) (locs rfl) (fun h₁ hns hk => ?_)
  refine wpAny_mono (E := fun _ _ => False) (Q := fun f s' => R (.ok (.ret (match f with | .ret v => v | _ => .none))) s') ?_ (fun f s' z => z) (fun _ _ z => z.elim)
  k_steps
  exact hq _ _ _ hk (by show s.toks ≤ s.toks + 1 + 1; omega)
/-- str of a token that is hidden -/
theorem strOf_hid {y : Str} {Q : Value → Shared → Prop} {mean : ExcName → Option Value} {mg mb : Str → Option Value} (X : (KK w.params).In h) (T : TopV mean mg mb h) (ha : TokAt h a 202 y) (hr : A.depth < recursionLimit) (hu : A.units < cLine)
    (hq : ∀ h' t' ty, Kp h h' → t ≤ t' → Q (.str (Str.ofString "") ty) ⟨h', g, d, t', os⟩) : wpAny (model pg w) A (Builtin.Str.strOf (.ref a)) Q E ⟨h, g, d, t, os⟩ := by
  obtain ⟨D, t0, ha⟩ := ha
  have hs : Looks (model pg w) h (typeLookup (.ref 202) "__str__") (some (.ref 199)) := looks_findIn X (by kernel_rfl)
  have t1 : Looks (model pg w) h (typeOf (.ref a)) (.ref 202) := by
    have := (Looks.ld (M := model pg w) (part := some headPart) ha).andThen (f := fun o => pure o.cls) .now
    exact this
  have b1 : Looks (model pg w) h (bindSpecial (.ref 199) (.ref a)) (.ref 199, [.ref a]) := bind_fn X (.ref a) (by kernel_rfl)
  unfold Builtin.Str.strOf
  repeat (first | with_reducible refine wpAny_cRoomFor hu ?_ | with_reducible refine wpAny_call ?_ | (with_reducible show codeAny _ _ _ _ _; fail_if_success skip) | lk)
  refine hidden_code (s := ⟨h, g, d, t, os⟩) X T hr fun h' t' ty k kt => ?_
  dsimp only
  repeat lk
  exact hq h' t' ty k kt
/-- the call of str by what strOf gives -/
theorem call_str {v : Value} {y : Str} {Q : Value → Shared → Prop} {s : Shared} (hv : ∀ (Q' E' : Value → Shared → Prop), (∀ h' t' ty, Kp s.heap h' → s.toks ≤ t' → Q' (.str y ty) { s with heap := h', toks := t' }) → wpAny (model pg w) A.in1.in1 (Builtin.Str.strOf v) Q' E' s)
    (hq : ∀ h' t' ty, Kp s.heap h' → s.toks ≤ t' → Q (.str y ty) { s with heap := h', toks := t' }) : wpAny (model pg w) A (call (.type "str") [v]) Q E s := by
  refine ks_callType_codesW (Q₁ := fun obj s₁ => ∃ h' t' ty, obj = .str y ty ∧ s₁ = { s with heap := h', toks := t' } ∧ Kp s.heap h' ∧ s.toks ≤ t') F.called_str (fun {Q' E'} q => wpAny_of_eq (F.typeCall_str_1 _) q) F.entry_object_init ?_ fun obj s₁ h₁ => ?_
  · refine codeAny_of_tree ?_
    show wpAny _ A.in1.in1 (do checkBuiltinCall "str.__new__" ⟨[.type "str", v], []⟩; again (.builtin "str.__new__" ⟨[.type "str", v], []⟩)) _ _ s
    refine wpAny_bind (wpAny_of_eq (F.newCall_str_1 _) (wpAny_pure ⟨plainId_quiet (by decide +kernel) _, codeAny_builtin F.entry_str_new ?_⟩))
    rw [Around.under_plainId (by decide +kernel) _, str_new_tree v]
    refine wpAny_bind (wpAny_pure ?_)
    refine wpAny_bind (wpAny_of_eq isSubtype_str_str ?_)
    exact wpAny_bind (hv _ _ fun h' t' ty k kt => wpAny_pure ⟨h', t', ty, rfl, rfl, k, kt⟩)
  · obtain ⟨h', t', ty, rfl, rfl, k, kt⟩ := h₁
    refine ⟨typeIs_str _ _ _, F.args_object_init_2 _ _, ?_⟩
    have hli := F.called_str.init.lookup
    have hm := F.called_str.made
    unfold Builtin.«object.__init__»
    repeat (any_goals (first | assumption | wp_step))
    exact ⟨rfl, hq h' t' ty k kt⟩
/-- what str makes of a value -/
noncomputable def Shows (w : World) (h : Heap) (v : Value) (y : Str) : Prop := ∀ (A' : Around) (s' : Shared) (Q' E' : Value → Shared → Prop), Ok A' 1 → Kp h s'.heap →
  (∀ h' t' ty, Kp s'.heap h' → s'.toks ≤ t' → Q' (.str y ty) { s' with heap := h', toks := t' }) → wpAny (model pg w) A' (call (.type "str") [v]) Q' E' s'
theorem shows_str {y : Str} {t : Tok} (h : Heap) : Shows w h (.str y t) y := fun A' s' Q' E' ok hk hq => P.str_of_str (hq _ _ _ Kp.refl (Nat.le_refl _))
theorem shows_tok {y : Str} (hC : C = 148 ∨ C = 175) (X : (KK w.params).In h) (hy : y.length ≤ 1000000) (ha : TokAt h a C y) : Shows w h (.ref a) y := fun A' s' Q' E' ok hk hq => by
  refine call_str (fun Q'' E'' z => ?_) hq
  obtain ⟨h', g, d, t, os⟩ := s'
  exact strOf_tok hC (X.keeps hk) hy (ha.keeps hk) (by have := ok.units; show A'.units + 1 + 1 < 9500; omega) fun t' ty kt => z h' t' ty Kp.refl kt
theorem shows_hid {y : Str} {mean : ExcName → Option Value} {mg mb : Str → Option Value} (X : (KK w.params).In h) (T : TopV mean mg mb h) (ha : TokAt h a 202 y) : Shows w h (.ref a) (Str.ofString "") := fun A' s' Q' E' ok hk hq => by
  refine call_str (fun Q'' E'' z => ?_) hq
  obtain ⟨h', g, d, t, os⟩ := s'
  exact strOf_hid (X.keeps hk) (T.keeps hk) (ha.keeps hk) (by exact ok.room) (by have := ok.units; show A'.units + 1 + 1 < 9900; omega) fun h'' t' ty k kt => z h'' t' ty k kt
theorem Shows.keeps {h h' : Heap} {v : Value} {y : Str} (x : Shows w h v y) (k : Kp h h') : Shows w h' v y := fun A' s' Q' E' ok hk hq => x A' s' Q' E' ok (k.trans hk) hq
end
end Mine
end

section
set_option maxRecDepth 100000
set_option linter.unusedVariables false
set_option maxHeartbeats 0
set_option Elab.async false
namespace Mine
open PySem PySem.W PySem.Calls PyProof.Rows PySem.Spec
section
variable {w : World} {A : Around} {E : Value → Shared → Prop} {C a : Addr} {h : Heap} {g : Array GenState} {d : Drawn} {t : Nat} {os : OsState}
theorem entry_se : entryFor table "str.__eq__" = some Builtin.«str.__eq__» := entryFor_of_tree (by kernel_rfl)
theorem se_kind : builtinKind "str.__eq__" = some .slot := by decide +kernel
theorem se_split : splitId "str.__eq__" = some ("str", "__eq__") := by decide +kernel
theorem se_plain : plainId "str.__eq__" = true := by decide +kernel
theorem se_args (a b : Value) : argsOk "str.__eq__" ⟨[a, b], []⟩ := by unfold argsOk; kernel_rfl
theorem se_slot : Slot "str" "__eq__" "str.__eq__" := .of (owner := "str") (n := "__eq__") (by rw [typeLookup_type, builtinLookup_eq_fast]; kernel_rfl) (by decide +kernel) (by decide +kernel) (by decide +kernel) (.inl (by decide +kernel)) (by rw [isSubtype_type]; kernel_rfl)
/-- a white token against a text -/
theorem tok_eq {y x : Str} {tx : Tok} {Q : Value → Shared → Prop} (X : (KK w.params).In h) (ha : TokAt h a 148 y) (hu : A.units < cLine)
    (hq : Q (.bool (y.cps.toList == x.cps.toList)) ⟨h, g, d, t, os⟩) : wpAny (model pg w) A (compareOp .Eq (.ref a) (.str x tx)) Q E ⟨h, g, d, t, os⟩ := by
  obtain ⟨D, t0, ha⟩ := ha
  have Y : TokC (model pg w) (KK w.params) h 148 := tokC_of X (by kernel_rfl)
  have hs : Looks (model pg w) h (typeLookup (.ref 148) "__eq__") (some (.builtin "str.__eq__")) := looks_findIn X (by kernel_rfl)
  have t1 : Looks (model pg w) h (typeOf (.ref a)) (.ref 148) := by
    have := (Looks.ld (M := model pg w) (part := some headPart) ha).andThen (f := fun o => pure o.cls) .now
    exact this
  have b1 := Looks.of_pure (M := model pg w) (h := h) (se_slot.bind (.ref a))
  have s1 := Y.str
  have i1 : Looks (model pg w) h (isInstance (.ref a) (.type "str")) true := t1.andThen s1
  have u1 : Looks (model pg w) h (isSubtype (.type "str") (.ref 148)) false := by
    refine Looks.of_pure ?_
    rw [isSubtype_type]
    kernel_rfl
  show wpAny _ _ (richCompare .Eq (.ref a) (.str x tx)) _ _ _
  unfold richCompare
  cases hf : w.params.followText "special-get-raises"
  all_goals (repeat (first | with_reducible refine wpAny_cRoomFor hu ?_ | with_reducible refine wpAny_call ?_ | (with_reducible show codeAny _ _ _ _ _; fail_if_success skip) | with_reducible refine wpAny_tryCatch ?_ | rw [if_neg (show ¬ ((model pg w).w.params.followText "special-get-raises" = true) from by rw [show (model pg w).w.params.followText "special-get-raises" = false from hf]; exact Bool.false_ne_true)] | rw [if_pos (show ((model pg w).w.params.followText "special-get-raises" = true) from hf)] | lk))
  all_goals (refine codeAny_call_builtin se_plain entry_se (@check_slot (model pg w) _ _ _ "str.__eq__" "str" "__eq__" (.ref a) [.str x tx] [] _ se_kind se_split i1 (se_args (.ref a) _) ?_); unfold Builtin.«str.__eq__» Builtin.Str.strCompare; repeat lk)
  all_goals exact hq
theorem isK (k x : Str) (t : Tok) : (strKind pg w).is k (.str x t) = decide (k = x) := by
  show Value.isStrOf k (.str x t) = _
  unfold Value.isStrOf
  by_cases q : k = x
  · subst q; simp
  · rw [decide_eq_false q]; first | exact beq_eq_false_iff_ne.mpr (fun e => q e.symm) | exact beq_eq_false_iff_ne.mpr q
theorem wsp_set (X : (KK w.params).In h) : h.SetOf (strKind pg w) 22 (fun k => decide (k = Str.ofString " ") || decide (k = Str.ofString "\t")) 2 := by
  have hs := X 22 _ (by kernel_rfl : _ = some (setObj w.params))
  have mem : ∀ e, e ∈ [cond (decide (slotB w.params < slotT w.params)) (entB w.params) (entT w.params), cond (decide (slotB w.params < slotT w.params)) (entT w.params) (entB w.params)] ↔ e = entB w.params ∨ e = entT w.params := by
    intro e
    cases decide (slotB w.params < slotT w.params) <;> simp [or_comm]
  refine ⟨_, _, _, _, hs, ⟨rfl, rfl, rfl⟩, rfl, ?_, ?_, (by show 2 < scanBound; decide), by kernel_rfl, rfl⟩
  · intro e he
    rcases (mem e).mp he with rfl | rfl
    · exact ⟨⟨Str.ofString " ", by rw [isK]; simp, rfl⟩, rfl⟩
    · exact ⟨⟨Str.ofString "\t", by rw [isK]; simp, rfl⟩, rfl⟩
  · intro k
    constructor
    · intro q
      rcases Bool.or_eq_true_iff.mp q with q | q
      · exact ⟨entB w.params, (mem _).mpr (.inl rfl), by rw [isK]; exact q⟩
      · exact ⟨entT w.params, (mem _).mpr (.inr rfl), by rw [isK]; exact q⟩
    · rintro ⟨e, he, q⟩
      rcases (mem e).mp he with rfl | rfl
      · rw [isK] at q; exact Bool.or_eq_true_iff.mpr (.inl q)
      · rw [isK] at q; exact Bool.or_eq_true_iff.mpr (.inr q)
theorem bt_str (c : Nat) : (decide ((⟨#[c]⟩ : Str) = Str.ofString " ") || decide ((⟨#[c]⟩ : Str) = Str.ofString "\t")) = bt c := by
  have e1 : Str.ofString " " = ⟨#[32]⟩ := by decide +kernel
  have e2 : Str.ofString "\t" = ⟨#[9]⟩ := by decide +kernel
  rw [e1, e2]
  unfold bt
  by_cases h1 : c = 32 <;> by_cases h2 : c = 9 <;> simp [h1, h2]
theorem in_wsp {c : Nat} {tx : Tok} {Q : Value → Shared → Prop} {s : Shared} (X : (KK w.params).In s.heap)
    (hq : Q (.bool (bt c)) { s with toks := s.toks + 1 }) : wpAny (model pg w) A (compareOp .In (.str ⟨#[c]⟩ tx) (.ref 22)) Q E s :=
  wpAny_inSet_of (knd := strKind pg w) (k := ⟨#[c]⟩) (by rw [isK]; simp) rfl (wsp_set X) (by rw [bt_str]; exact hq)
theorem notin_wsp {c : Nat} {tx : Tok} {Q : Value → Shared → Prop} {s : Shared} (X : (KK w.params).In s.heap)
    (hq : Q (.bool (!bt c)) { s with toks := s.toks + 1 }) : wpAny (model pg w) A (compareOp .NotIn (.str ⟨#[c]⟩ tx) (.ref 22)) Q E s :=
  wpAny_notInSet_of (knd := strKind pg w) (k := ⟨#[c]⟩) (by rw [isK]; simp) rfl (wsp_set X) (by rw [bt_str]; exact hq)
end
end Mine
end

section
set_option maxRecDepth 100000
set_option linter.unusedVariables false
set_option maxHeartbeats 0
set_option Elab.async false
namespace Mine
open PySem PySem.W PySem.Calls PyProof.Rows PySem.Spec
noncomputable def subC (c : Nat) (z : List Nat) (l : List Nat) : List Nat := l.flatMap fun k => if k = c then z else [k]
theorem subC_free (c : Nat) (z : List Nat) : ∀ l : List Nat, c ∉ l → subC c z l = l
  | [], _ => rfl
  | k :: r, h => by
    have h1 : ¬ k = c := fun e => h (e ▸ List.mem_cons_self ..)
    have ih := subC_free c z r fun m => h (List.mem_cons_of_mem _ m)
    unfold subC at ih ⊢
    rw [List.flatMap_cons, if_neg h1, ih]
    rfl
theorem subC_append (c : Nat) (z a b : List Nat) : subC c z (a ++ b) = subC c z a ++ subC c z b := List.flatMap_append
theorem subC_join (c : Nat) (z : List Nat) : ∀ parts : List Str, (∀ p ∈ parts, c ∉ p.cps.toList) → subC c z (Str.join ⟨#[c]⟩ parts).cps.toList = (Str.join ⟨z.toArray⟩ parts).cps.toList
  | [], _ => rfl
  | [p], h => subC_free c z _ (h p (List.mem_singleton.mpr rfl))
  | p :: q :: r, h => by
    have ih := subC_join c z (q :: r) fun a ha => h a (List.mem_cons_of_mem _ ha)
    show subC c z (p ++ ⟨#[c]⟩ ++ Str.join ⟨#[c]⟩ (q :: r)).cps.toList = (p ++ ⟨z.toArray⟩ ++ Str.join ⟨z.toArray⟩ (q :: r)).cps.toList
    simp only [Str.cps_append, Array.toList_append]
    rw [subC_append, subC_append, ih, subC_free c z _ (h p (List.mem_cons_self ..))]
    simp [subC]
theorem replace_sub (x : Str) (c : Nat) (z : List Nat) : Txt.replace x ⟨#[c]⟩ ⟨z.toArray⟩ = ⟨(subC c z x.cps.toList).toArray⟩ := by
  refine PySem.Str.ext' (Array.toList_inj.mp ?_)
  rw [StrLaws.replace_one, ← subC_join c z _ (StrLaws.split_free x c), StrLaws.join_split]
theorem subC_len (c : Nat) (z : List Nat) (hz : z.length ≤ 2) : ∀ l : List Nat, (subC c z l).length ≤ 2 * l.length
  | [] => Nat.le_refl _
  | k :: r => by
    have ih := subC_len c z hz r
    unfold subC at ih ⊢
    rw [List.flatMap_cons, List.length_append, List.length_cons]
    have : (if k = c then z else [k]).length ≤ 2 := by
      split
      · exact hz
      · exact Nat.le_succ _
    omega
theorem lenB (c : Nat) (z : List Nat) (x : Str) (hz : z.length ≤ 2) : (Str.mk (subC c z x.cps.toList).toArray).length ≤ 2 * x.length := by
  rw [len_mk]
  exact subC_len c z hz _
theorem s92 : Str.ofString "\\" = ⟨#[92]⟩ := by decide +kernel
theorem s9292 : Str.ofString "\\\\" = ⟨[92, 92].toArray⟩ := by decide +kernel
theorem s34 : Str.ofString "\"" = ⟨#[34]⟩ := by decide +kernel
theorem s9234 : Str.ofString "\\\"" = ⟨[92, 34].toArray⟩ := by decide +kernel
theorem s40 : Str.ofString "(" = ⟨#[40]⟩ := by decide +kernel
theorem s9240 : Str.ofString "\\(" = ⟨[92, 40].toArray⟩ := by decide +kernel
theorem s41 : Str.ofString ")" = ⟨#[41]⟩ := by decide +kernel
theorem s9241 : Str.ofString "\\)" = ⟨[92, 41].toArray⟩ := by decide +kernel
noncomputable def escQ (l : List Nat) : List Nat := l.flatMap fun k => if k = 92 then [92, 92] else if k = 34 then [92, 34] else [k]
noncomputable def escP (l : List Nat) : List Nat := l.flatMap fun k => if k = 92 then [92, 92] else if k = 40 then [92, 40] else if k = 41 then [92, 41] else [k]
theorem escQ_eq : ∀ l, subC 34 [92, 34] (subC 92 [92, 92] l) = escQ l
  | [] => rfl
  | k :: r => by
    have ih := escQ_eq r
    have e : k :: r = [k] ++ r := rfl
    rw [e, subC_append, subC_append, ih]
    unfold escQ
    rw [List.flatMap_append]
    congr 1
    by_cases h1 : k = 92
    · subst h1; rfl
    · simp [subC, h1]
theorem escP_eq : ∀ l, subC 41 [92, 41] (subC 40 [92, 40] (subC 92 [92, 92] l)) = escP l
  | [] => rfl
  | k :: r => by
    have ih := escP_eq r
    have e : k :: r = [k] ++ r := rfl
    rw [e, subC_append, subC_append, subC_append, ih]
    unfold escP
    rw [List.flatMap_append]
    congr 1
    by_cases h1 : k = 92
    · subst h1; rfl
    · by_cases h2 : k = 40
      · subst h2; rfl
      · simp [subC, h1, h2]
section
variable {prog : Program} {w : World} {A : Around} {E : Value → Shared → Prop} {s : Shared} {h₀ : Heap} {L : Addr} {m : Str → Option Value} {env : Env}
theorem rep_toks {x y z : Str} {t u v : Tok} {Q : Value → Shared → Prop} (hu : u ≠ 0) (hv : v ≠ 0) (huv : u ≠ v) (hyz : (y == z) = false) (hb : x.length + (x.length + 1) * z.length ≤ 16777216)
    (hq : ∀ t' k, s.toks ≤ k → Q (.str (Txt.replace x y z) t') { s with toks := k }) : wpAny (model prog w) A (call (.builtin "str.replace") [.str x t, .str y u, .str z v]) Q E s := by
  have e : (2 : Nat) ^ 24 = 16777216 := by decide
  have hl : Builtin.Str.tooLong (x.length + (Builtin.Str.occurrences x y 0 x.length (x.length + 1)).length * z.length) = false := by
    have h1 := StrLaws.occ_length_le x y 0 x.length (x.length + 1)
    have h2 : (Builtin.Str.occurrences x y 0 x.length (x.length + 1)).length * z.length ≤ (x.length + 1) * z.length := Nat.mul_le_mul_right _ h1
    unfold Builtin.Str.tooLong sizeLine
    exact decide_eq_false (by omega)
  refine call_gives F.slot_str_replace (typeIs_str _ _ _) F.entry_str_replace (F.args_str_replace_3 _ _ _)
    (gives_str_replace x y z t u v fun _ => ⟨by simp [hu, hv], by simp [huv], hyz, hl⟩) ?_
  have hq' := hq
  unfold Txt.replace at hq'
  cases hc : ((Builtin.Str.occurrences x y 0 x.length (x.length + 1)).isEmpty || (y.length == 0 && z.length == 0))
  · rw [hc] at hq'
    simp only [Bool.false_eq_true, if_false] at hq' ⊢
    exact ⟨fits_replaced y hb, hq' _ _ (Nat.le_succ _)⟩
  · rw [hc] at hq'
    simp only [if_true] at hq' ⊢
    exact hq' t s.toks (Nat.le_refl _)
theorem rep_one {x y z : Str} {c : Nat} {zl : List Nat} {t u v : Tok} {Q : Value → Shared → Prop} (hy : y = ⟨#[c]⟩) (hz : z = ⟨zl.toArray⟩) (hzl : zl.length ≤ 2) (hne : (y == z) = false) (hu : u ≠ 0) (hv : v ≠ 0) (huv : u ≠ v) (hx : x.length ≤ 1000000)
    (h : ∀ t' k, s.toks ≤ k → Q (.str ⟨(subC c zl x.cps.toList).toArray⟩ t') { s with toks := k }) : wpAny (model prog w) A (call (.builtin "str.replace") [.str x t, .str y u, .str z v]) Q E s := by
  refine rep_toks hu hv huv hne ?_ fun t' k kt => ?_
  · subst hz
    have e : (Str.mk zl.toArray).length = zl.length := len_mk zl
    rw [e]
    have : (x.length + 1) * zl.length ≤ (x.length + 1) * 2 := Nat.mul_le_mul_left _ hzl
    omega
  · rw [hy, hz, replace_sub]; exact h t' k kt
end
theorem mqp {w : World} {A : Around} {s : Shared} {y : Str} {v : Value} {Q E : Value → Shared → Prop} {mean : ExcName → Option Value} {mg mb : Str → Option Value}
    (X : (KK w.params).In s.heap) (T : TopV mean mg mb s.heap) (ok : Ok A 2) (hx : y.length ≤ 100000) (hv : Shows w s.heap v y)
    (h : ∀ h' tk t', Kp s.heap h' → Q (.str ⟨(escQ y.cps.toList).toArray⟩ t') { s with heap := h', toks := tk }) :
    wpAny (model pg w) A (call (.ref 32) [v]) Q E s := by
  refine call_fn X T (by kernel_rfl : _ = some (obf32 w.params)) rfl (by kernel_rfl) ok.room (binds := [(Str.ofString "value", v)]) rfl (locs rfl) (fun h₁ L F N hk => ?_)
  have ok' : Ok (A.deeper (envOf (Str.ofString "make_quoted_pairs") (fnS (stm 4)) L 32 (Value.ref 31))) 1 := ok.deeper
  k_steps
  refine hv _ _ _ _ ok' hk fun h₂ t₂ ty k₂ kt => ?_
  have F₂ := frK F k₂
  have N₂ := nwK N k₂
  clear F N
  dsimp only at kt
  have kt' : 0 < t₂ := by change s.toks + 1 ≤ t₂ at kt; omega
  clear kt
  dsimp only
  iterate 7 walk1
  refine rep_one s92 s9292 (by decide) (by decide +kernel) (Nat.ne_of_gt kt') (Nat.succ_ne_zero _) (Nat.ne_of_lt (Nat.lt_succ_self _)) (by omega) ?_
  intro t3 k3 kt3
  have kt3' : 0 < k3 := by change t₂ + 2 ≤ k3 at kt3; omega
  clear kt3
  iterate 7 walk1
  refine rep_one s34 s9234 (by decide) (by decide +kernel) (Nat.ne_of_gt kt3') (Nat.succ_ne_zero _) (Nat.ne_of_lt (Nat.lt_succ_self _)) ?_ ?_
  · exact Nat.le_trans (lenB 92 [92, 92] y (by decide)) (by omega)
  intro t4 k4 kt4
  k_steps
  refine (congrArg (fun l : List Nat => Q (.str ⟨l.toArray⟩ _) _) ?_).mp (h h₂ _ _ (hk.trans k₂))
  exact (escQ_eq _).symm
theorem mpp {w : World} {A : Around} {s : Shared} {y : Str} {v : Value} {Q E : Value → Shared → Prop} {mean : ExcName → Option Value} {mg mb : Str → Option Value}
    (X : (KK w.params).In s.heap) (T : TopV mean mg mb s.heap) (ok : Ok A 2) (hx : y.length ≤ 100000) (hv : Shows w s.heap v y)
    (h : ∀ h' tk t', Kp s.heap h' → Q (.str ⟨(escP y.cps.toList).toArray⟩ t') { s with heap := h', toks := tk }) :
    wpAny (model pg w) A (call (.ref 39) [v]) Q E s := by
  refine call_fn X T (by kernel_rfl : _ = some (obf39 w.params)) rfl (by kernel_rfl) ok.room (binds := [(Str.ofString "value", v)]) rfl (locs rfl) (fun h₁ L F N hk => ?_)
  have ok' : Ok (A.deeper (envOf (Str.ofString "make_parenthesis_pairs") (fnS (stm 5)) L 39 (Value.ref 38))) 1 := ok.deeper
  k_steps
  refine hv _ _ _ _ ok' hk fun h₂ t₂ ty k₂ kt => ?_
  have F₂ := frK F k₂
  have N₂ := nwK N k₂
  clear F N
  dsimp only at kt
  have kt' : 0 < t₂ := by change s.toks + 1 ≤ t₂ at kt; omega
  clear kt
  dsimp only
  iterate 7 walk1
  refine rep_one s92 s9292 (by decide) (by decide +kernel) (Nat.ne_of_gt kt') (Nat.succ_ne_zero _) (Nat.ne_of_lt (Nat.lt_succ_self _)) (by omega) ?_
  intro t3 k3 kt3
  have kt3' : 0 < k3 := by change t₂ + 2 ≤ k3 at kt3; omega
  clear kt3
  iterate 7 walk1
  refine rep_one s40 s9240 (by decide) (by decide +kernel) (Nat.ne_of_gt kt3') (Nat.succ_ne_zero _) (Nat.ne_of_lt (Nat.lt_succ_self _)) ?_ ?_
  · exact Nat.le_trans (lenB 92 [92, 92] y (by decide)) (by omega)
  intro t4 k4 kt4
  have kt4' : 0 < k4 := by change k3 + 2 ≤ k4 at kt4; omega
  clear kt4
  iterate 7 walk1
  refine rep_one s41 s9241 (by decide) (by decide +kernel) (Nat.ne_of_gt kt4') (Nat.succ_ne_zero _) (Nat.ne_of_lt (Nat.lt_succ_self _)) ?_ ?_
  · exact Nat.le_trans (lenB 40 [92, 40] ⟨(subC 92 [92, 92] y.cps.toList).toArray⟩ (by decide)) (Nat.le_trans (Nat.mul_le_mul_left 2 (lenB 92 [92, 92] y (by decide))) (by omega))
  intro t5 k5 kt5
  k_steps
  refine (congrArg (fun l : List Nat => Q (.str ⟨l.toArray⟩ _) _) ?_).mp (h h₂ _ _ (hk.trans k₂))
  exact (escP_eq _).symm
theorem mqp_F {w : World} {A : Around} {s : Shared} {y : Str} {t : Tok} {k : Nat} {Q E : Value → Shared → Prop} {mean : ExcName → Option Value} {mg mb : Str → Option Value} {h₀ : Heap} {L : Addr} {m : Str → Option Value} {news : List (Addr × Obj)}
    (F : Fr h₀ L s.heap m) (N : News h₀ L s.heap news) (X : (KK w.params).In h₀) (T : TopV mean mg mb h₀) (ok : Ok A (k + 2)) (hx : y.length ≤ 100000)
    (h : ∀ h' tk t', Fr h₀ L h' m → News h₀ L h' news → Q (.str ⟨(escQ y.cps.toList).toArray⟩ t') { s with heap := h', toks := tk }) :
    wpAny (model pg w) A (call (.ref 32) [.str y t]) Q E s := mqp (X.keeps F.keep) (T.keeps F.keep) (ok.less (by omega)) hx (shows_str _) fun h' tk t' hk => h h' tk t' (frK F hk) (nwK N hk)
local macro_rules | `(tactic| walk_at "call ref") => `(tactic| (k_here; (with_reducible show wpAny _ _ (call (Value.ref 32) _) _ _ _); k_dflt (refine' mqp_F ?F ?N ?X ?T ?o ?z ?_; (case F => k_asm); (case N => k_asm); (case X => k_asm); (case T => k_asm); (case o => k_asm); (case z => k_asm); k_whole; intro h' tk' t' F' N')))
theorem escQ_len (l : List Nat) : (escQ l).length ≤ 2 * l.length := by
  unfold escQ
  induction l with
  | nil => exact Nat.le_refl _
  | cons k r ih =>
    rw [List.flatMap_cons, List.length_append, List.length_cons]
    have : (if k = 92 then [92, 92] else if k = 34 then [92, 34] else [k]).length ≤ 2 := by
      split
      · exact Nat.le_refl _
      · split
        · exact Nat.le_refl _
        · exact Nat.le_succ _
    omega
theorem quote_string {w : World} {A : Around} {s : Shared} {y : Str} {t : Tok} {Q E : Value → Shared → Prop} {mean : ExcName → Option Value} {mg mb : Str → Option Value}
    (X : (KK w.params).In s.heap) (T : TopV mean mg mb s.heap) (ok : Ok A 3) (hx : y.length ≤ 100000)
    (h : ∀ h' tk t', Kp s.heap h' → Q (.str ⟨(34 :: (escQ y.cps.toList ++ [34])).toArray⟩ t') { s with heap := h', toks := tk }) :
    wpAny (model pg w) A (call (.ref 46) [.str y t]) Q E s := by
  refine call_fn X T (by kernel_rfl : _ = some (obf46 w.params)) rfl (by kernel_rfl) ok.room (binds := [(Str.ofString "value", .str y t)]) rfl (locs rfl) (fun h₁ L F N hk => ?_)
  have ok' : Ok (A.deeper (envOf (Str.ofString "quote_string") (fnS (stm 6)) L 46 (Value.ref 45))) 2 := ok.deeper
  have hl : (Str.mk (escQ y.cps.toList).toArray).length ≤ 200000 := by
    rw [len_mk]
    exact Nat.le_trans (escQ_len _) (by rw [Array.length_toList]; change 2 * y.length ≤ _; omega)
  k_steps
  have e : Str.empty ++ Str.ofString "\"" ++ (⟨(escQ y.cps.toList).toArray⟩ : Str) ++ Str.ofString "\"" = ⟨(34 :: (escQ y.cps.toList ++ [34])).toArray⟩ := by
    have e1 : (Str.empty ++ Str.ofString "\"" : Str) = ⟨[34].toArray⟩ := by decide +kernel
    have e2 : Str.ofString "\"" = ⟨[34].toArray⟩ := by decide +kernel
    rw [e1, mk_append, e2, mk_append]
    simp
  rename Fr _ _ _ _ => F'
  refine (congrArg (fun x : Str => Q (.str x _) _) e.symm).mp (h _ _ _ F'.keep)
end Mine
end

section
set_option maxRecDepth 100000
set_option linter.unusedVariables false
namespace Mine
open PySem PySem.W PySem.Calls PyProof.Rows PySem.Spec
noncomputable def inR (c : Nat) (p : Nat × Nat) : Bool := decide (p.1 ≤ c) && decide (c ≤ p.2)
theorem within_any (c : Nat) : ∀ l : List (Nat × Nat), l.Pairwise (fun p q => p.1 ≤ q.1) → Unicode.within l c = l.any (inR c)
  | [], _ => rfl
  | (a, b) :: r, h => by
    rw [List.pairwise_cons] at h
    rw [List.any_cons]
    unfold Unicode.within
    split
    · rename_i q
      have e1 : inR c (a, b) = false := decAnd_false fun z => absurd z.1 (Nat.not_le.mpr q)
      have e2 : r.any (inR c) = false := List.any_eq_false.mpr fun p hp z => by
        have := of_decide_eq_true (Bool.and_eq_true_iff.mp z).1
        exact absurd (Nat.le_trans (h.1 p hp) this) (Nat.not_le.mpr q)
      rw [e1, e2]; rfl
    · rename_i q
      have e1 : inR c (a, b) = decide (c ≤ b) := by show (decide (a ≤ c) && decide (c ≤ b)) = _; rw [decide_eq_true (Nat.le_of_not_lt q), Bool.true_and]
      rw [e1, within_any c r h.2]
theorem inR_one (c k : Nat) : (c == k) = inR c (k, k) := by
  show _ = (decide (k ≤ c) && decide (c ≤ k))
  by_cases h : c = k
  · subst h; simp
  · rw [decAnd_false (fun z => h (Nat.le_antisymm z.2 z.1)), beq_eq_false_iff_ne.mpr h]
theorem inR_two (c k : Nat) : ((c == k) || (c == k + 1)) = inR c (k, k + 1) := by
  show _ = (decide (k ≤ c) && decide (c ≤ k + 1))
  by_cases h : k ≤ c ∧ c ≤ k + 1
  · rw [decide_eq_true h.1, decide_eq_true h.2]
    rcases Nat.lt_or_ge k c with q | q
    · rw [show c = k + 1 from by omega]; simp
    · rw [show c = k from by omega]; simp
  · rw [decAnd_false h, beq_eq_false_iff_ne.mpr (by omega), beq_eq_false_iff_ne.mpr (by omega)]; rfl
theorem space_isW (c : Nat) : Unicode.isSpace c = isW c := by
  unfold Unicode.isSpace isW
  rw [within_any c _ (by decide)]
  simp only [UnicodeData.space, UnicodeData.space0, List.any_cons, List.any_nil, List.contains_cons, List.contains_nil, Bool.or_false, ← Bool.or_assoc]
  have e2 := inR_two c 8232
  have e3 : ∀ a b x : Bool, (x || a || b) = (x || (a || b)) := fun a b x => by cases a <;> cases b <;> cases x <;> rfl
  rw [e3 (c == 8232) (c == 8233), e2, inR_one c 133, inR_one c 160, inR_one c 5760, inR_one c 8239, inR_one c 8287, inR_one c 12288]
  show _ = (inR c (9, 13) || inR c (28, 32) || inR c (8192, 8202) || inR c (133, 133) || inR c (160, 160) || inR c (5760, 5760) || inR c (8232, 8233) || inR c (8239, 8239) || inR c (8287, 8287) || inR c (12288, 12288))
  ac_rfl
theorem drop_takeWhile (p : Nat → Bool) : ∀ l : List Nat, l.drop (l.takeWhile p).length = l.dropWhile p
  | [] => rfl
  | a :: r => by
    rw [List.takeWhile_cons, List.dropWhile_cons]
    cases h : p a
    · rfl
    · exact drop_takeWhile p r
theorem lstrip_eq (x : Str) : (Txt.lstrip x).cps.toList = x.cps.toList.dropWhile isW := by
  have e : Unicode.isSpace = isW := funext space_isW
  unfold Txt.lstrip
  rw [PyProof.Rows.stripBy_eq, e]
  rw [StrLaws.strSub_toList]
  show List.take (x.length - (x.cps.toList.takeWhile isW).length) (x.cps.toList.drop (x.cps.toList.takeWhile isW).length) = _
  rw [List.take_of_length_le (by rw [List.length_drop, Array.length_toList]; exact Nat.le_refl _)]
  exact drop_takeWhile _ _
theorem slice_to (x : Str) (n : Nat) (h : n ≤ x.length) : Txt.slice x none (some (n : Int)) = ⟨(x.cps.toList.take n).toArray⟩ := by
  have := beq_iff_eq.mp (slice_closes_toL (x := x) (j := (n : Int)) (by omega) (by omega))
  rw [this]
  simp
theorem slice_from (x : Str) (n : Nat) (h : n ≤ x.length) : Txt.slice x (some (n : Int)) none = ⟨(x.cps.toList.drop n).toArray⟩ := by
  rw [slice_from_eq (by omega) (by omega) rfl]
  rw [Int.toNat_natCast, List.take_of_length_le (by rw [List.length_drop, Array.length_toList]; show x.length - n ≤ _; omega)]
end Mine
end

section
set_option maxRecDepth 100000
set_option linter.unusedVariables false
set_option maxHeartbeats 0
set_option Elab.async false
namespace Mine
open PySem PySem.W PySem.Calls PyProof.Rows PySem.Spec
section
variable {w : World} {A : Around} {E : Value → Shared → Prop} {C L : Addr} {s : Shared} {h₀ : Heap} {m : Str → Option Value} {news : List (Addr × Obj)}
theorem mk_tok_F {v u : Value} {y : Str} {k : Nat} {Q : Value → Shared → Prop} {mean : ExcName → Option Value} {mg mb : Str → Option Value} (hy : y.length ≤ 1000000) (hC : C = 148 ∨ C = 175 ∨ C = 202)
    (F : Fr h₀ L s.heap m) (N : News h₀ L s.heap news) (X : (KK w.params).In h₀) (T : TopV mean mg mb h₀) (ok : Ok A (k + 4))
    (hv : ∀ (A' : Around) (Q' E' : Value → Shared → Prop) (s' : Shared), A'.units < 9500 → Kp s.heap s'.heap → (∀ h' t' ty, Kp s'.heap h' → Q' (.str y ty) { s' with heap := h', toks := t' }) → wpAny (model pg w) A' (Builtin.Str.strOf v) Q' E' s')
    (h : ∀ h' tk a D t', Fr h₀ L h' m → News h₀ L h' ((a, tokObj C D y t') :: news) → (∀ p ∈ news, p.1 ≠ a) → Q (.ref a) { s with heap := h', toks := tk }) :
    wpAny (model pg w) A (call (.ref C) [v, u]) Q E s := by
  refine mk_tok hy hC (X.keeps F.keep) (T.keeps F.keep) (ok.less (by omega)) hv fun h' tk a D t' hk ha hn => ?_
  refine h h' tk a D t' (frK F hk) (fun p hp => ?_) fun p hp e => ?_
  · rcases List.mem_cons.mp hp with rfl | hp
    · refine ⟨ha, fun e => ?_, ?_⟩
      · obtain ⟨oL, _, _, hL, _⟩ := F.ns
        change a = L at e
        rw [e, hL] at hn
        cases hn
      · cases q : h₀.get? a with
        | none => rfl
        | some o => rw [F.keep _ _ q] at hn; cases hn
    · exact nwK N hk p hp
  · rw [← e, (N p hp).1] at hn
    cases hn
theorem mk_str_F {u : Value} {y : Str} {ty : Tok} {k : Nat} {Q : Value → Shared → Prop} {mean : ExcName → Option Value} {mg mb : Str → Option Value} (hy : y.length ≤ 1000000) (hC : C = 148 ∨ C = 175 ∨ C = 202)
    (F : Fr h₀ L s.heap m) (N : News h₀ L s.heap news) (X : (KK w.params).In h₀) (T : TopV mean mg mb h₀) (ok : Ok A (k + 4))
    (h : ∀ h' tk a D t', Fr h₀ L h' m → News h₀ L h' ((a, tokObj C D y t') :: news) → (∀ p ∈ news, p.1 ≠ a) → Q (.ref a) { s with heap := h', toks := tk }) :
    wpAny (model pg w) A (call (.ref C) [.str y ty, u]) Q E s := mk_tok_F hy hC F N X T ok (strOf_str _) h
end
local macro_rules | `(tactic| size_fits) => `(tactic| (simp only [PySem.Str.length_append, len_one, len_item, List.size_toArray, Array.size_append, List.length_append, List.length_cons, List.length_nil, PySem.sizeLine_eq]; omega))

theorem take_takeWhile (p : Nat → Bool) : ∀ l : List Nat, l.take (l.length - (l.dropWhile p).length) = l.takeWhile p
  | [] => rfl
  | a :: r => by
    have ih := take_takeWhile p r
    have hl : (r.dropWhile p).length ≤ r.length := (List.dropWhile_sublist p).length_le
    rw [List.takeWhile_cons, List.dropWhile_cons]
    cases h : p a
    · simp
    · simp only [if_true, List.length_cons]
      rw [Nat.succ_sub hl, List.take_succ_cons, ih]
theorem fws_slice (x : Str) : Txt.slice x none (some ((x.length : Int) - ((Txt.lstrip x).length : Int))) = ⟨(x.cps.toList.takeWhile isW).toArray⟩ := by
  have hl : (Txt.lstrip x).length = (x.cps.toList.dropWhile isW).length := by
    rw [← lstrip_eq, Array.length_toList]; rfl
  have hle : (x.cps.toList.dropWhile isW).length ≤ x.length := by
    have := (List.dropWhile_sublist isW (l := x.cps.toList)).length_le
    rw [Array.length_toList] at this
    exact this
  have e : ((x.length : Int) - ((Txt.lstrip x).length : Int)) = ((x.length - (x.cps.toList.dropWhile isW).length : Nat) : Int) := by rw [hl]; omega
  rw [e, slice_to _ _ (by omega)]
  have := take_takeWhile isW x.cps.toList
  rw [Array.length_toList] at this
  change List.take (x.length - _) _ = _ at this
  rw [this]
theorem lstrip_mk (x : Str) : Txt.lstrip x = ⟨(x.cps.toList.dropWhile isW).toArray⟩ := by
  rw [← lstrip_eq, str_mk]
theorem get_fws {w : World} {A : Around} {s : Shared} {x : Str} {t : Tok} {Q E : Value → Shared → Prop} {mean : ExcName → Option Value} {mg mb : Str → Option Value}
    (X : (KK w.params).In s.heap) (T : TopV mean mg mb s.heap) (ok : Ok A 6) (hx : x.length ≤ 10000)
    (h : ∀ h' tk P a D t' tr, Kp s.heap h' → h'.get? P = some { cls := .type "tuple", data := .seq #[.ref a, .str ⟨(x.cps.toList.dropWhile isW).toArray⟩ tr] } → s.heap.get? P = none → @Ne Nat P a → h'.get? a = some (tokObj 148 D ⟨(x.cps.toList.takeWhile isW).toArray⟩ t') → s.heap.get? a = none → Q (.ref P) { s with heap := h', toks := tk }) :
    wpAny (model pg w) A (call (.ref 211) [.str x t]) Q E s := by
  refine call_fn X T (by kernel_rfl : _ = some (obf211 w.params)) rfl (by kernel_rfl) ok.room (binds := [(Str.ofString "value", .str x t)]) rfl (locs rfl) (fun h₁ L F N hk => ?_)
  have ok' : Ok (A.deeper (envOf (Str.ofString "get_fws") (fnS (stm 11)) L 211 (Value.ref 210))) 5 := ok.deeper
  have hlen : (Txt.slice x none (some ((x.length : Int) - ((Txt.lstrip x).length : Int)))).length ≤ 1000000 := Nat.le_trans (Txt.slice_le _ _ _) (by omega)
  k_steps
  rename Fr _ _ _ _ => F₁
  rename News _ _ _ _ => N₁
  refine mk_str_F hlen (.inl rfl) F₁ N₁ X T ok' fun h₂ tk₂ a D t₂ F₂ N₂ na => ?_
  clear F₁ N₁
  k_steps
  rename Fr _ _ _ _ => F₃
  rename News _ _ _ _ => N₃
  have z1 := N₃ _ (.head _)
  have z2 := N₃ _ (.tail _ (.head _))
  rw [fws_slice] at z2
  rw [lstrip_mk] at z1
  rename @LT.lt _ _ _ _ => lt3
  exact h _ _ _ a D t₂ _ F₃.keep z1.1 z1.2.2 (Nat.ne_of_gt lt3) z2.1 z2.2.2
/-- a new object joins the ledger -/
theorem newsNew {h₀ h h' : Heap} {L a : Addr} {o : Obj} {m : Str → Option Value} {news : List (Addr × Obj)} (F : Fr h₀ L h m) (N : News h₀ L h' news) (ha : h'.get? a = some o) (hn : h.get? a = none) : News h₀ L h' ((a, o) :: news) := fun p hp => by
  rcases List.mem_cons.mp hp with rfl | hp
  · refine ⟨ha, fun e => ?_, ?_⟩
    · obtain ⟨oL, _, _, hL, _⟩ := F.ns
      change a = L at e
      rw [e, hL] at hn
      cases hn
    · cases q : h₀.get? a with
      | none => rfl
      | some o => rw [F.keep _ _ q] at hn; cases hn
  · exact N p hp
theorem newNe {h₀ h : Heap} {L a : Addr} {news : List (Addr × Obj)} (N : News h₀ L h news) (hn : h.get? a = none) : ∀ p ∈ news, p.1 ≠ a := fun p hp e => by
  rw [← e, (N p hp).1] at hn
  cases hn
theorem get_fws_F {w : World} {A : Around} {s : Shared} {x : Str} {t : Tok} {k : Nat} {Q E : Value → Shared → Prop} {mean : ExcName → Option Value} {mg mb : Str → Option Value} {h₀ : Heap} {L : Addr} {m : Str → Option Value} {news : List (Addr × Obj)}
    (F : Fr h₀ L s.heap m) (N : News h₀ L s.heap news) (X : (KK w.params).In h₀) (T : TopV mean mg mb h₀) (ok : Ok A (k + 6)) (hx : x.length ≤ 10000)
    (h : ∀ h' tk P a D t' tr, Fr h₀ L h' m → News h₀ L h' ((P, { cls := .type "tuple", data := .seq #[.ref a, .str ⟨(x.cps.toList.dropWhile isW).toArray⟩ tr] }) :: (a, tokObj 148 D ⟨(x.cps.toList.takeWhile isW).toArray⟩ t') :: news) → @Ne Nat P a → (∀ p ∈ news, p.1 ≠ a) → (∀ p ∈ news, p.1 ≠ P) → Q (.ref P) { s with heap := h', toks := tk }) :
    wpAny (model pg w) A (call (.ref 211) [.str x t]) Q E s :=
  get_fws (X.keeps F.keep) (T.keeps F.keep) (ok.less (by omega)) hx fun h' tk P a D t' tr hk hP nP ne ha na => h h' tk P a D t' tr (frK F hk) (newsNew F (newsNew F (nwK N hk) ha na) hP nP) ne (newNe N na) (newNe N nP)
end Mine
end

section
set_option maxRecDepth 100000
set_option linter.unusedVariables false
namespace Mine
open PySem
noncomputable abbrev Pc := Addr × List Nat
noncomputable def white (c : Nat) (r : List Nat) : Pc := (if c :: r.takeWhile isW = [9] then 202 else 148, c :: r.takeWhile isW)
noncomputable def dark (c : Nat) (r : List Nat) : Pc := (175, c :: r.takeWhile fun k => !bt k)
theorem drop_len (p : Nat → Bool) (r : List Nat) : (r.dropWhile p).length ≤ r.length := (List.dropWhile_sublist p).length_le
noncomputable def pcs : List Nat → List Pc
  | [] => []
  | c :: r => if bt c then white c r :: pcs (r.dropWhile isW) else dark c r :: pcs (r.dropWhile fun k => !bt k)
termination_by l => l.length
decreasing_by
  · exact Nat.lt_succ_of_le (drop_len _ _)
  · exact Nat.lt_succ_of_le (drop_len _ _)
theorem pcs_nil : pcs [] = [] := by rw [pcs]
theorem pcs_white {c : Nat} {r : List Nat} (h : bt c = true) : pcs (c :: r) = white c r :: pcs (r.dropWhile isW) := by rw [pcs, if_pos h]
theorem pcs_dark {c : Nat} {r : List Nat} (h : bt c = false) : pcs (c :: r) = dark c r :: pcs (r.dropWhile fun k => !bt k) := by rw [pcs, if_neg (by rw [h]; exact Bool.false_ne_true)]
theorem bt_isW {c : Nat} (h : bt c = true) : isW c = true := by
  unfold bt at h
  rcases Bool.or_eq_true_iff.mp h with h | h <;> (rw [beq_iff_eq.mp h]; decide)
theorem pcs_len : ∀ (n : Nat) (l : List Nat), l.length ≤ n → (pcs l).length ≤ l.length ∧ ((pcs l).map (·.2)).flatten = l
  | 0, l, h => by
    obtain rfl : l = [] := List.length_eq_zero_iff.mp (by omega)
    rw [pcs_nil]; exact ⟨Nat.le_refl _, rfl⟩
  | n + 1, [], h => by rw [pcs_nil]; exact ⟨Nat.le_refl _, rfl⟩
  | n + 1, c :: r, h => by
    rw [List.length_cons] at h
    cases hb : bt c
    · obtain ⟨a, b⟩ := pcs_len n (r.dropWhile fun k => !bt k) (Nat.le_trans (drop_len _ _) (by omega))
      have := drop_len (fun k => !bt k) r
      rw [pcs_dark hb]
      refine ⟨by simp only [List.length_cons]; omega, ?_⟩
      rw [List.map_cons, List.flatten_cons, b]
      show (c :: r.takeWhile _) ++ _ = _
      rw [List.cons_append, List.takeWhile_append_dropWhile]
    · obtain ⟨a, b⟩ := pcs_len n (r.dropWhile isW) (Nat.le_trans (drop_len _ _) (by omega))
      have := drop_len isW r
      rw [pcs_white hb]
      refine ⟨by simp only [List.length_cons]; omega, ?_⟩
      rw [List.map_cons, List.flatten_cons, b]
      show (c :: r.takeWhile _) ++ _ = _
      rw [List.cons_append, List.takeWhile_append_dropWhile]
/-- what is seen of a piece -/
noncomputable def seen (p : Pc) : List Nat := if p.1 = 202 then [] else p.2
noncomputable def vis (l : List Nat) : List Nat := ((pcs l).map seen).flatten
noncomputable def pB : Bool → Nat → Bool
  | true => isW
  | false => fun k => !bt k
noncomputable def sts (l : List Nat) : Sts := (pcs l).map fun p => (p.1 != 175, p.2)
theorem sts_cons (c : Nat) (r : List Nat) : sts (c :: r) = (bt c, c :: r.takeWhile (pB (bt c))) :: sts (r.dropWhile (pB (bt c))) := by
  unfold sts
  cases hb : bt c
  · rw [pcs_dark hb]; rfl
  · rw [pcs_white hb, List.map_cons]
    congr 1
    unfold white
    dsimp only
    split <;> rfl
theorem sh_key : ∀ (l : List Nat) (b : Bool) (x : List Nat) (r : Sts), l.foldl shStep ((b, x) :: r) = (sts (l.dropWhile (pB b))).reverse ++ (b, x ++ l.takeWhile (pB b)) :: r
  | [], b, x, r => by simp [sts, pcs_nil]
  | c :: l, b, x, r => by
    rw [List.foldl_cons, List.dropWhile_cons, List.takeWhile_cons]
    cases hp : pB b c
    · have e : (bt c || (b && isW c)) = !b ∧ bt c = !b := by
        cases b
        · have : bt c = true := by simpa [pB] using hp
          simp [this]
        · have h1 : isW c = false := hp
          have h2 : bt c = false := by
            cases q : bt c
            · rfl
            · rw [bt_isW q] at h1; cases h1
          simp [h1, h2]
      have hs : shStep ((b, x) :: r) c = (!b, [c]) :: (b, x) :: r := by
        show (if _ then _ else _) = _
        rw [e.1, if_neg (by cases b <;> decide)]
      rw [hs, sh_key l]
      simp only [Bool.false_eq_true, if_false, List.append_nil]
      rw [sts_cons, e.2, List.reverse_cons]
      simp
    · have e : (bt c || (b && isW c)) = b := by
        cases b
        · have : bt c = false := by simpa [pB] using hp
          simp [this]
        · have h1 : isW c = true := hp
          simp [h1]
      have hs : shStep ((b, x) :: r) c = (b, x ++ [c]) :: r := by
        show (if _ then _ else _) = _
        rw [e, if_pos (by cases b <;> decide)]
      rw [hs, sh_key l]
      simp
theorem sh_sts (l : List Nat) : shRun l = (sts l).reverse := by
  unfold shRun
  cases l with
  | nil => simp [sts, pcs_nil]
  | cons c l =>
    rw [List.foldl_cons]
    show l.foldl shStep [(bt c, [c])] = _
    rw [sh_key, sts_cons, List.reverse_cons]
    simp
theorem pcs_ok : ∀ (n : Nat) (l : List Nat), l.length ≤ n → ∀ p ∈ pcs l, (p.1 = 148 ∨ p.1 = 175 ∨ p.1 = 202) ∧ ((p.1 = 202) ↔ p.2 = [9])
  | 0, l, h => by
    obtain rfl : l = [] := List.length_eq_zero_iff.mp (by omega)
    rw [pcs_nil]; intro p hp; cases hp
  | n + 1, [], h => by rw [pcs_nil]; intro p hp; cases hp
  | n + 1, c :: r, h => by
    rw [List.length_cons] at h
    cases hb : bt c
    · rw [pcs_dark hb]
      intro p hp
      rcases List.mem_cons.mp hp with rfl | hp
      · refine ⟨.inr (.inl rfl), ⟨fun e => absurd (show (175 : Nat) = 202 from e) (by decide), fun e => ?_⟩⟩
        have : c = 9 := by
          have := congrArg (fun l : List Nat => l.head?) e
          simpa [dark] using this
        subst this
        cases hb
      · exact pcs_ok n _ (Nat.le_trans (drop_len _ _) (by omega)) p hp
    · rw [pcs_white hb]
      intro p hp
      rcases List.mem_cons.mp hp with rfl | hp
      · unfold white
        dsimp only
        split
        · rename_i q; exact ⟨.inr (.inr rfl), ⟨fun _ => q, fun _ => rfl⟩⟩
        · rename_i q; exact ⟨.inl rfl, ⟨fun e => absurd (show (148 : Nat) = 202 from e) (by decide), fun e => absurd e q⟩⟩
      · exact pcs_ok n _ (Nat.le_trans (drop_len _ _) (by omega)) p hp
theorem vis_shown (l : List Nat) : vis l = shown l := by
  unfold vis shown
  rw [sh_sts, List.reverse_reverse]
  unfold sts
  rw [List.map_map]
  have key : ∀ ps : List Pc, (∀ p ∈ ps, (p.1 = 202) ↔ p.2 = [9]) → (ps.map seen).flatten = ((ps.map ((fun x : Bool × List Nat => x.2) ∘ fun p : Pc => (p.1 != 175, p.2))).filter fun p => p != [9]).flatten := by
    intro ps
    induction ps with
    | nil => intro _; rfl
    | cons p ps ih =>
      intro h
      have h1 := h p (.head _)
      have h2 := ih fun q hq => h q (.tail _ hq)
      rw [List.map_cons, List.flatten_cons, h2, List.map_cons, List.filter_cons]
      show seen p ++ _ = List.flatten (if (p.2 != [9]) = true then _ else _)
      unfold seen
      by_cases q : p.1 = 202
      · rw [if_pos q, h1.mp q]; rfl
      · rw [if_neg q, if_pos (by simpa using fun e => q (h1.mpr e))]; rfl
  exact key _ fun p hp => (pcs_ok _ l (Nat.le_refl _) p hp).2
end Mine
end

section
set_option maxRecDepth 100000
set_option linter.unusedVariables false
set_option maxHeartbeats 0
set_option Elab.async false
namespace Mine
open PySem PySem.W PySem.Calls PyProof.Rows PySem.Spec
local macro_rules | `(tactic| walk_at "names") => `(tactic| repeat' (first | exact List.forall_mem_nil _ | refine List.forall_mem_cons.2 ⟨?_, ?_⟩ | rfl))
local macro_rules | `(tactic| size_fits) => `(tactic| (simp only [PySem.Str.length_append, len_one, len_item, List.size_toArray, Array.size_append, List.length_append, List.length_cons, List.length_nil, PySem.sizeLine_eq]; omega))
local macro_rules | `(tactic| k_all) => `(tactic| with_reducible assumption)
noncomputable def TokIn (tl : List (Addr × Obj)) (v : Value) (p : Pc) : Prop := ∃ a D t, v = .ref a ∧ (a, tokObj p.1 D ⟨p.2.toArray⟩ t) ∈ tl
section
variable {w : World} {A : Around} {E : Value → Shared → Prop} {C L : Addr} {s : Shared} {h₀ : Heap} {m : Str → Option Value} {news : List (Addr × Obj)}
theorem in_F {z : Str} {c : Nat} {tx : Tok} {Q : Value → Shared → Prop} (hz : z = ⟨#[c]⟩) (F : Fr h₀ L s.heap m) (X : (KK w.params).In h₀)
    (hq : Q (.bool (bt c)) { s with toks := s.toks + 1 }) : wpAny (model pg w) A (compareOp .In (.str z tx) (.ref 22)) Q E s := by
  subst hz; exact in_wsp (X.keeps F.keep) hq
theorem notin_F {z : Str} {c : Nat} {tx : Tok} {Q : Value → Shared → Prop} (hz : z = ⟨#[c]⟩) (F : Fr h₀ L s.heap m) (X : (KK w.params).In h₀)
    (hq : Q (.bool (!bt c)) { s with toks := s.toks + 1 }) : wpAny (model pg w) A (compareOp .NotIn (.str z tx) (.ref 22)) Q E s := by
  subst hz; exact notin_wsp (X.keeps F.keep) hq
end
local macro_rules | `(tactic| walk_at "compareOp In") => `(tactic| (k_here; (with_reducible show wpAny _ _ (compareOp CmpOp.In (Value.str _ _) (Value.ref 22)) _ _ _); k_dflt (refine' in_F ?z ?F ?X ?_; (case z => with_reducible assumption); (case F => k_asm); (case X => k_asm); k_whole)))
local macro_rules | `(tactic| walk_at "compareOp NotIn") => `(tactic| (k_here; (with_reducible show wpAny _ _ (compareOp CmpOp.NotIn (Value.str _ _) (Value.ref 22)) _ _ _); k_dflt (refine' notin_F ?z ?F ?X ?_; (case z => with_reducible assumption); (case F => k_asm); (case X => k_asm); k_whole)))
noncomputable abbrev envP (L : Addr) : Env := envOf (Str.ofString "_law_pieces") (fnS (stm 18)) L 249 (Value.ref 248)
section
variable {w : World} {A : Around} {E : Value → Shared → Prop} {C L a D : Addr} {s : Shared} {h₀ : Heap} {m : Str → Option Value} {news : List (Addr × Obj)}
theorem tokEq_F {y x : Str} {t tx : Tok} {k : Nat} {Q : Value → Shared → Prop} (N : News h₀ L s.heap news) (hm : (a, tokObj 148 D y t) ∈ news) (F : Fr h₀ L s.heap m) (X : (KK w.params).In h₀) (ok : Ok A k)
    (hq : Q (.bool (y.cps.toList == x.cps.toList)) s) : wpAny (model pg w) A (compareOp .Eq (.ref a) (.str x tx)) Q E s :=
  tok_eq (X.keeps F.keep) ⟨D, t, (N _ hm).1⟩ ok.line hq
theorem mk_hid_F {u : Value} {y : Str} {t : Tok} {k : Nat} {Q : Value → Shared → Prop} {mean : ExcName → Option Value} {mg mb : Str → Option Value} (N : News h₀ L s.heap news) (hm : (a, tokObj 148 D y t) ∈ news) (hy : y.length ≤ 1000000)
    (F : Fr h₀ L s.heap m) (X : (KK w.params).In h₀) (T : TopV mean mg mb h₀) (ok : Ok A (k + 4))
    (h : ∀ h' tk a D t', Fr h₀ L h' m → News h₀ L h' ((a, tokObj 202 D y t') :: news) → (∀ p ∈ news, p.1 ≠ a) → Q (.ref a) { s with heap := h', toks := tk }) :
    wpAny (model pg w) A (call (.ref 202) [.ref a, u]) Q E s := by
  refine mk_tok_F hy (.inr (.inr rfl)) F N X T ok (fun A' Q' E' s' hu hk z => ?_) h
  obtain ⟨h', g, d, t', os⟩ := s'
  exact strOf_tok (C := 148) (.inl rfl) ((X.keeps F.keep).keeps hk) hy ⟨D, t, hk _ _ (N _ hm).1⟩ hu fun t'' ty _ => z h' t'' ty Kp.refl
end
local macro_rules | `(tactic| walk_at "compareOp Eq ref") => `(tactic| (k_here; (with_reducible show wpAny _ _ (compareOp CmpOp.Eq (Value.ref _) (Value.str _ _)) _ _ _); k_dflt (refine' tokEq_F ?N ?m ?F ?X ?o ?_; (case N => k_asm); (case m => k_mem); (case F => k_asm); (case X => k_asm); (case o => k_asm); k_whole)))
local macro_rules | `(tactic| walk_at "call ref") => `(tactic| (k_here; (with_reducible show wpAny _ _ (call (Value.ref 211) _) _ _ _); k_dflt (refine' get_fws_F ?F ?N ?X ?T ?o ?z ?_; (case F => k_asm); (case N => k_asm); (case X => k_asm); (case T => k_asm); (case o => k_asm); (case z => k_asm); k_whole; intro h' tk' P' a' D' t' tr' F' N' n1 n2 n3)))
theorem slice_small {l : Str} {i j : Option Int} (h : l.length ≤ 10000) : (Txt.slice l i j).length ≤ 1000000 := Nat.le_trans (Txt.slice_le _ _ _) (by omega)
local macro_rules | `(tactic| walk_at "call ref") => `(tactic| (k_here; (with_reducible show wpAny _ _ (call (Value.ref 202) _) _ _ _); k_dflt (refine' mk_hid_F ?N ?m ?z ?F ?X ?T ?o ?_; (case N => k_asm); (case m => k_mem); (case z => k_asm); (case F => k_asm); (case X => k_asm); (case T => k_asm); (case o => k_asm); k_whole; intro h' tk' a' D' t' F' N' n1)))
local macro_rules | `(tactic| walk_at "call ref") => `(tactic| (k_here; (with_reducible show wpAny _ _ (call (Value.ref 175) _) _ _ _); k_dflt (refine' mk_str_F ?z (Or.inr (Or.inl rfl)) ?F ?N ?X ?T ?o ?_; (case z => first | k_asm | (refine slice_small ?_; with_reducible assumption)); (case F => k_asm); (case N => k_asm); (case X => k_asm); (case T => k_asm); (case o => k_asm); k_whole; intro h' tk' a' D' t' F' N' n1; have ne' := neN (n1 _ (List.Mem.head _)); have nt' := fun p hp => n1 p (List.Mem.tail _ hp))))
theorem tw_white {c : Nat} {r : List Nat} (hb : bt c = true) : (c :: r).takeWhile isW = c :: r.takeWhile isW := by rw [List.takeWhile_cons, bt_isW hb]; rfl
theorem dw_white {c : Nat} {r : List Nat} (hb : bt c = true) : (c :: r).dropWhile isW = r.dropWhile isW := by rw [List.dropWhile_cons, bt_isW hb]; rfl
section
variable {h₀ h : Heap} {L : Addr} {x1 x2 x3 y : Addr × Obj} {tl : List (Addr × Obj)}
theorem nsub {news news' : List (Addr × Obj)} (N : News h₀ L h news) (hs : ∀ p ∈ news', p ∈ news) : News h₀ L h news' := fun p hp => N p (hs p hp)
theorem pull1 (N : News h₀ L h (x1 :: y :: tl)) : News h₀ L h (y :: x1 :: tl) := nsub N fun p hp => by
  rcases List.mem_cons.mp hp with rfl | hp
  · exact .tail _ (.head _)
  · rcases List.mem_cons.mp hp with rfl | hp
    · exact .head _
    · exact .tail _ (.tail _ hp)
theorem pull2 (N : News h₀ L h (x1 :: x2 :: y :: tl)) : News h₀ L h (y :: x1 :: x2 :: tl) := pull1 (nsub N fun p hp => by
  rcases List.mem_cons.mp hp with rfl | hp
  · exact .head _
  · rcases List.mem_cons.mp hp with rfl | hp
    · exact .tail _ (.tail _ (.head _))
    · rcases List.mem_cons.mp hp with rfl | hp
      · exact .tail _ (.head _)
      · exact .tail _ (.tail _ (.tail _ hp)))
theorem pull3 (N : News h₀ L h (x1 :: x2 :: x3 :: y :: tl)) : News h₀ L h (y :: x1 :: x2 :: x3 :: tl) := pull1 (nsub N fun p hp => by
  rcases List.mem_cons.mp hp with rfl | hp
  · exact .head _
  · rcases List.mem_cons.mp hp with rfl | hp
    · exact .tail _ (.tail _ (.tail _ (.head _)))
    · rcases List.mem_cons.mp hp with rfl | hp
      · exact .tail _ (.head _)
      · rcases List.mem_cons.mp hp with rfl | hp
        · exact .tail _ (.tail _ (.head _))
        · exact .tail _ (.tail _ (.tail _ (.tail _ hp))))
end
theorem pieces_white {w : World} {A : Around} {s : Shared} {L P : Addr} {u : Str → Option Value} {l : Str} {t : Tok} {c n : Nat} {r : List Nat} {vs : List Value} {tl : List (Addr × Obj)} {h₀ : Heap} {Q : Flow → Shared → Prop} {mean : ExcName → Option Value} {mg mb : Str → Option Value}
    (X : (KK w.params).In h₀) (T : TopV mean mg mb h₀) (ok : Ok A 7) (hl : l.length ≤ 10000) (hv : vs.length ≤ 10000) (hcr : l.cps.toList = c :: r) (hit : Txt.item l 0 = ⟨#[c]⟩) (hb : bt c = true) (hP : ∀ p ∈ tl, p.1 ≠ P)
    (F : Fr h₀ L s.heap (kstB u [(Str.ofString "pieces", .ref P), (Str.ofString "line", .str l t)])) (N : News h₀ L s.heap ((P, listOf vs.toArray n) :: tl))
    (h : ∀ h' tk m' a D t' tr n' nw, Fr h₀ L h' m' → (∀ p ∈ [(Str.ofString "pieces", Value.ref P), (Str.ofString "line", Value.str ⟨(r.dropWhile isW).toArray⟩ tr)], m' p.1 = some p.2) → News h₀ L h' ((P, listOf (vs ++ [Value.ref a]).toArray n') :: nw) →
      (a, tokObj (white c r).1 D ⟨(white c r).2.toArray⟩ t') ∈ nw → (∀ p ∈ tl, p ∈ nw) → (∀ p ∈ nw, p.1 ≠ P) → Q .next { s with heap := h', toks := tk }) :
    wpAny (model pg w) A (execs (match (fnB (stm 18)).getD 1 (.Pass ⟨0,0,0,0⟩) with | .While _ b _ _ => b | _ => []) (envP L)) Q (fun _ _ => False) s := by
  have hpos : 0 < l.length := by
    have : l.cps.toList.length = (c :: r).length := by rw [hcr]
    rw [Array.length_toList] at this
    show 0 < l.cps.size
    rw [this]; exact Nat.succ_pos _
  iterate 22 walk1
  rename_i h2 tk2 P2 a2 D2 t2 tr2 Fa Na n1 n2 n3
  refine assign_Tuple_tuple ok.handled ⟨_, (Na _ (.head _)).1, rfl, _, rfl⟩ rfl rfl fun h3 he => ?_
  have k3 : Kp h2 h3 := fun b o e => he b o (Nat.ne_of_lt (Heap.lt_size e)) e
  have F3 := frK Fa k3
  have N3 := nwK Na k3
  clear Fa Na F N
  have ne1 : @Ne Nat P a2 := neN (n2 _ (.head _))
  have ne2 : @Ne Nat P P2 := neN (n3 _ (.head _))
  have tl1 : ∀ p ∈ tl, p.1 ≠ a2 := fun p hp => n2 p (.tail _ hp)
  have tl2 : ∀ p ∈ tl, p.1 ≠ P2 := fun p hp => n3 p (.tail _ hp)
  have hlen : (Str.mk (List.takeWhile isW l.cps.toList).toArray).length ≤ 1000000 := by
    rw [len_mk]
    have := (List.takeWhile_sublist isW (l := l.cps.toList)).length_le
    have e : l.cps.toList.length = l.length := Array.length_toList
    omega
  refine assignInOrder_cons (wpAny_assign_Name ?_)
  walk1
  refine assignInOrder_cons (wpAny_assign_Name ?_)
  walk1
  refine assignInOrder_nil ?_
  rename Fr _ _ _ _ => F4
  rename News _ _ _ _ => N4
  clear n2 n3
  have e9 : (Str.ofString "\t").cps.toList = [9] := by decide +kernel
  k_steps
  · rename_i heq tk3 h4 tk4 a3 D3 t3 na h5 F5 N5
    have na1 : @Ne Nat P a3 := neN (na _ (.tail _ (.tail _ (.head _))))
    have na2 : ∀ p ∈ tl, p.1 ≠ a3 := fun p hp => na p (.tail _ (.tail _ (.tail _ hp)))
    have na3 : @Ne Nat P2 a3 := neN (na _ (.head _))
    have na4 : @Ne Nat a2 a3 := neN (na _ (.tail _ (.head _)))
    have hw : c :: r.takeWhile isW = [9] := by
      rw [e9, hcr, tw_white hb] at heq
      exact beq_iff_eq.mp heq
    k_steps
    rename Fr _ _ _ _ => F'
    rename News _ _ _ _ => N'
    rw [hcr, dw_white hb, tw_white hb] at N'
    rw [hcr, dw_white hb] at F'
    rw [List.push_toArray] at N'
    refine h _ _ _ a3 D3 t3 tr2 (n + 1) _ F' (by walk_at "names") (pull3 N') ?_ ?_ ?_
    · unfold white; dsimp only; rw [if_pos hw]; exact .head _
    · exact fun p hp => .tail _ (.tail _ (.tail _ hp))
    · intro p hp
      rcases List.mem_cons.mp hp with rfl | hp
      · exact na1.symm
      · rcases List.mem_cons.mp hp with rfl | hp
        · exact ne2.symm
        · rcases List.mem_cons.mp hp with rfl | hp
          · exact ne1.symm
          · exact hP p hp
  · rename_i heq _ _ F' N'
    have hw : ¬ c :: r.takeWhile isW = [9] := by
      rw [e9, hcr, tw_white hb] at heq
      intro e
      rw [e] at heq
      exact absurd heq (by decide)
    rw [hcr, dw_white hb, tw_white hb] at N'
    rw [hcr, dw_white hb] at F'
    rw [List.push_toArray] at N'
    refine h _ _ _ a2 D2 t2 tr2 (n + 1) _ F' (by walk_at "names") (pull2 N') ?_ ?_ ?_
    · unfold white; dsimp only; rw [if_neg hw]; exact .tail _ (.head _)
    · exact fun p hp => .tail _ (.tail _ hp)
    · intro p hp
      rcases List.mem_cons.mp hp with rfl | hp
      · exact ne2.symm
      · rcases List.mem_cons.mp hp with rfl | hp
        · exact ne1.symm
        · exact hP p hp
theorem notin_item {w : World} {A : Around} {E : Value → Shared → Prop} {L : Addr} {s : Shared} {h₀ : Heap} {m : Str → Option Value} {z : Str} {i : Int} {tx : Tok} {Q : Value → Shared → Prop} (F : Fr h₀ L s.heap m) (X : (KK w.params).In h₀)
    (hq : Q (.bool (!bt ((Txt.charAt z i).getD 0))) { s with toks := s.toks + 1 }) : wpAny (model pg w) A (compareOp .NotIn (.str (Txt.item z i) tx) (.ref 22)) Q E s := notin_F (c := (Txt.charAt z i).getD 0) rfl F X hq
local macro_rules | `(tactic| walk_at "compareOp NotIn") => `(tactic| (k_here; (with_reducible show wpAny _ _ (compareOp CmpOp.NotIn (Value.str (Txt.item _ _) _) (Value.ref 22)) _ _ _); k_dflt (refine' notin_item ?F ?X ?_; (case F => k_asm); (case X => k_asm); k_whole)))
theorem tw_take (q : Nat → Bool) : ∀ (r : List Nat) (n : Nat), (∀ k ∈ r.take n, q k = true) → n ≤ r.length → (n = r.length ∨ ∃ k, r[n]? = some k ∧ q k = false) → r.takeWhile q = r.take n ∧ r.dropWhile q = r.drop n
  | [], n, _, hn, _ => by
    obtain rfl : n = 0 := Nat.le_zero.mp hn
    exact ⟨rfl, rfl⟩
  | a :: r, 0, _, _, h => by
    rcases h with h | ⟨k, hk, hq⟩
    · cases h
    · simp at hk
      subst hk
      rw [List.takeWhile_cons, List.dropWhile_cons, hq]
      exact ⟨rfl, rfl⟩
  | a :: r, n + 1, ha, hn, h => by
    have h1 : q a = true := ha a (.head _)
    obtain ⟨e1, e2⟩ := tw_take q r n (fun k hk => ha k (.tail _ hk)) (by simpa using hn) (by simpa using h)
    rw [List.takeWhile_cons, List.dropWhile_cons, h1, if_pos rfl, if_pos rfl, e1, e2]
    exact ⟨rfl, rfl⟩
theorem pieces_dark {w : World} {A : Around} {s : Shared} {L P : Addr} {u : Str → Option Value} {l : Str} {t : Tok} {c n : Nat} {r : List Nat} {vs : List Value} {tl : List (Addr × Obj)} {h₀ : Heap} {Q : Flow → Shared → Prop} {mean : ExcName → Option Value} {mg mb : Str → Option Value}
    (X : (KK w.params).In h₀) (T : TopV mean mg mb h₀) (ok : Ok A 7) (hl : l.length ≤ 10000) (hv : vs.length ≤ 10000) (hcr : l.cps.toList = c :: r) (hit : Txt.item l 0 = ⟨#[c]⟩) (hb : bt c = false) (hP : ∀ p ∈ tl, p.1 ≠ P)
    (F : Fr h₀ L s.heap (kstB u [(Str.ofString "pieces", .ref P), (Str.ofString "line", .str l t)])) (N : News h₀ L s.heap ((P, listOf vs.toArray n) :: tl))
    (h : ∀ h' tk m' a D t' tr n' nw, Fr h₀ L h' m' → (∀ p ∈ [(Str.ofString "pieces", Value.ref P), (Str.ofString "line", Value.str ⟨(r.dropWhile fun k => !bt k).toArray⟩ tr)], m' p.1 = some p.2) → News h₀ L h' ((P, listOf (vs ++ [Value.ref a]).toArray n') :: nw) →
      (a, tokObj (dark c r).1 D ⟨(dark c r).2.toArray⟩ t') ∈ nw → (∀ p ∈ tl, p ∈ nw) → (∀ p ∈ nw, p.1 ≠ P) → Q .next { s with heap := h', toks := tk }) :
    wpAny (model pg w) A (execs (match (fnB (stm 18)).getD 1 (.Pass ⟨0,0,0,0⟩) with | .While _ b _ _ => b | _ => []) (envP L)) Q (fun _ _ => False) s := by
  have hpos : 0 < l.length := by
    have : l.cps.toList.length = (c :: r).length := by rw [hcr]
    rw [Array.length_toList] at this
    show 0 < l.cps.size
    rw [this]; exact Nat.succ_pos _
  have hlr : l.length = r.length + 1 := by
    have : l.cps.toList.length = (c :: r).length := by rw [hcr]
    rw [Array.length_toList] at this
    exact this
  iterate 17 walk1
  rename_i h2 F2' N2'
  refine while_inv (σ := Int × Tok) (fun c => [(Str.ofString "size", .int c.1 c.2), (Str.ofString "pieces", .ref P), (Str.ofString "line", .str l t)])
    (fun c news => news = (P, listOf vs.toArray n) :: tl ∧ ∃ z : Nat, c.1 = ((z + 1 : Nat) : Int) ∧ z + 1 ≤ l.length ∧ ∀ k ∈ r.take z, bt k = false)
    (fun c => l.length - c.1.toNat) (1, _) F2' N2' (by walk_at "names") ⟨rfl, 0, rfl, hpos, by simp⟩ ?_
  rintro ⟨k, tz⟩ u2 news h3 tk3 ⟨rfl, z, hz, hzl, hall⟩ F₁ N₁
  dsimp only at hz F₁ N₁ ⊢
  subst hz
  clear F2' N2'
  have hcl : ∀ i k, r[i]? = some k → (Txt.charAt l ((i + 1 : Nat) : Int)).getD 0 = k := fun i k hk => by
    have hi : i + 1 < l.length := by have := (List.getElem?_eq_some_iff.mp hk).1; omega
    unfold Txt.charAt
    rw [idx_nat hi, Option.bind_some, ← Array.getElem?_toList, hcr, List.getElem?_cons_succ, hk]
    rfl
  have hget : ∀ i, i < r.length → ∃ k, r[i]? = some k := fun i hi => ⟨_, List.getElem?_eq_getElem hi⟩
  have stop : (z = r.length ∨ ∃ k, r[z]? = some k ∧ (!bt k) = false) → Txt.slice l none (some ((z + 1 : Nat) : Int)) = ⟨(dark c r).2.toArray⟩ ∧ Txt.slice l (some ((z + 1 : Nat) : Int)) none = ⟨(r.dropWhile fun k => !bt k).toArray⟩ := fun hs => by
    obtain ⟨e1, e2⟩ := tw_take (fun k => !bt k) r z (fun k hk => by rw [hall k hk]; rfl) (by omega) hs
    rw [slice_to _ _ hzl, slice_from _ _ hzl, hcr, List.take_succ_cons, List.drop_succ_cons]
    unfold dark
    rw [e1, e2]
    exact ⟨rfl, rfl⟩
  k_steps
  · rename_i hlt _ hbt _ _ _ _ _ _ _ a' D' t' n1 ne' nt' _ _ _ _ _ _ _ _ F' N'
    obtain ⟨k, hk⟩ := hget z (by omega)
    rw [hcl z k hk] at hbt
    obtain ⟨e1, e2⟩ := stop (.inr ⟨k, hk, by rw [hbt]; rfl⟩)
    rw [e2] at F'
    rw [List.push_toArray, e1] at N'
    refine h _ _ _ a' D' t' _ (n + 1) _ F' (by walk_at "names") (pull1 N') (.head _) (fun p hp => .tail _ hp) ?_
    intro p hp
    rcases List.mem_cons.mp hp with rfl | hp
    · exact ne'.symm
    · exact hP p hp
  · rename_i hlt _ hbt _ F' N'
    obtain ⟨k, hk⟩ := hget z (by omega)
    rw [hcl z k hk] at hbt
    refine ⟨(((z + 1 : Nat) : Int) + 1, _), _, _, _, _, rfl, F', N', by walk_at "names", ⟨rfl, z + 1, by dsimp only; omega, by omega, ?_⟩, by dsimp only; omega⟩
    intro q hq
    rw [List.take_add_one, hk] at hq
    rcases List.mem_append.mp hq with hq | hq
    · exact hall q hq
    · rw [List.mem_singleton.mp hq]; exact hbt
  · rename_i hlt _ _ _ _ _ _ _ a' D' t' n1 ne' nt' _ _ _ _ _ _ _ _ F' N'
    obtain ⟨e1, e2⟩ := stop (.inl (by omega))
    rw [e2] at F'
    rw [List.push_toArray, e1] at N'
    refine h _ _ _ a' D' t' _ (n + 1) _ F' (by walk_at "names") (pull1 N') (.head _) (fun p hp => .tail _ hp) ?_
    intro p hp
    rcases List.mem_cons.mp hp with rfl | hp
    · exact ne'.symm
    · exact hP p hp

theorem tokIn_mono {tl nw : List (Addr × Obj)} (hs : ∀ p ∈ tl, p ∈ nw) {vs : List Value} {ps : List Pc} (h : F2 (TokIn tl) vs ps) : F2 (TokIn nw) vs ps := h.mono fun v p ⟨a, D, t, e, hm⟩ => ⟨a, D, t, e, hs _ hm⟩
theorem item0 {l : Str} {c : Nat} {r : List Nat} (h : l.cps.toList = c :: r) : Txt.item l 0 = ⟨#[c]⟩ := item_eq (i := 0) (by rw [← Array.getElem?_toList, h]; rfl)
theorem str_nil {l : Str} (h : l.cps.toList = []) : l = ⟨[].toArray⟩ := by rw [← str_mk l, h]
theorem pieces_spec {w : World} {A : Around} {s : Shared} {x : Str} {t : Tok} {Q E : Value → Shared → Prop} {mean : ExcName → Option Value} {mg mb : Str → Option Value}
    (X : (KK w.params).In s.heap) (T : TopV mean mg mb s.heap) (ok : Ok A 8) (hx : x.length ≤ 10000)
    (h : ∀ h' tk P n vs tl, Kp s.heap h' → (∀ p ∈ (P, listOf vs.toArray n) :: tl, h'.get? p.1 = some p.2 ∧ s.heap.get? p.1 = none) → (∀ p ∈ tl, p.1 ≠ P) → F2 (TokIn tl) vs (pcs x.cps.toList) → Q (.ref P) { s with heap := h', toks := tk }) :
    wpAny (model pg w) A (call (.ref 249) [.str x t]) Q E s := by
  refine call_fn X T (by kernel_rfl : _ = some (obf249 w.params)) rfl (by kernel_rfl) ok.room (binds := [(Str.ofString "line", .str x t)]) rfl (locs rfl) (fun h₁ L F N hk => ?_)
  have ok' : Ok (A.deeper (envOf (Str.ofString "_law_pieces") (fnS (stm 18)) L 249 (Value.ref 248))) 7 := ok.deeper
  iterate 8 walk1
  rename_i P h3 _ h4 F4 N4
  refine while_inv (σ := Str × Tok × List Value × Nat) (fun c => [(Str.ofString "pieces", .ref P), (Str.ofString "line", .str c.1 c.2.1)])
    (fun c news => ∃ tl ps, news = (P, listOf c.2.2.1.toArray c.2.2.2) :: tl ∧ (∀ p ∈ tl, p.1 ≠ P) ∧ F2 (TokIn tl) c.2.2.1 ps ∧ ps ++ pcs c.1.cps.toList = pcs x.cps.toList ∧ c.1.length + ps.length ≤ x.length)
    (fun c => c.1.length) (x, t, [], 0) F4 N4 (by walk_at "names") ⟨[], [], rfl, by simp, .nil, rfl, by simp⟩ ?_
  rintro ⟨l, tl', vs, n⟩ u news h' tk ⟨tl, ps, rfl, hP, hF, hpcs, hlen⟩ F₁ N₁
  dsimp only at hF hpcs hlen F₁ N₁ ⊢
  clear F4 N4
  have hvl : vs.length ≤ 10000 := by rw [hF.length]; omega
  iterate 5 walk1
  have e0 : Str.ofString "" = ⟨[].toArray⟩ := by decide +kernel
  cases hl : l.cps.toList with
  | nil =>
    have el := str_nil hl
    rw [if_neg (by rw [el, e0]; decide)]
    clear hlen
    k_steps
    rename Fr _ _ _ _ => F'
    rename News _ _ _ _ => N'
    refine h _ _ P n vs tl F'.keep (fun p hp => ⟨(N' p hp).1, (N' p hp).2.2⟩) hP ?_
    rw [hl, pcs_nil, List.append_nil] at hpcs
    rw [← hpcs]
    exact hF
  | cons c r =>
    rw [if_pos (by
      rw [e0]
      refine bne_iff_ne.mpr fun e => ?_
      rw [e] at hl
      cases hl)]
    have hll : l.length = r.length + 1 := by
      have : l.cps.toList.length = (c :: r).length := by rw [hl]
      rw [Array.length_toList] at this
      exact this
    cases hb : bt c
    · refine pieces_dark X T ok' (by omega) hvl hl (item0 hl) hb hP F₁ N₁ fun h'' tk'' m' a D t' tr n' nw F' hm N' ha hs hnw => ?_
      have hd := drop_len (fun k => !bt k) r
      refine ⟨(⟨(r.dropWhile fun k => !bt k).toArray⟩, tr, vs ++ [.ref a], n'), _, _, _, _, rfl, F', N', hm, ⟨nw, ps ++ [dark c r], rfl, hnw, (tokIn_mono hs hF).snoc ⟨a, D, t', rfl, ha⟩, ?_, ?_⟩, ?_⟩
      · rw [← hpcs, hl, pcs_dark hb]; simp
      · dsimp only; rw [len_mk, List.length_append, List.length_singleton]; omega
      · dsimp only; rw [len_mk]; omega
    · refine pieces_white X T ok' (by omega) hvl hl (item0 hl) hb hP F₁ N₁ fun h'' tk'' m' a D t' tr n' nw F' hm N' ha hs hnw => ?_
      have hd := drop_len isW r
      refine ⟨(⟨(r.dropWhile isW).toArray⟩, tr, vs ++ [.ref a], n'), _, _, _, _, rfl, F', N', hm, ⟨nw, ps ++ [white c r], rfl, hnw, (tokIn_mono hs hF).snoc ⟨a, D, t', rfl, ha⟩, ?_, ?_⟩, ?_⟩
      · rw [← hpcs, hl, pcs_white hb]; simp
      · dsimp only; rw [len_mk, List.length_append, List.length_singleton]; omega
      · dsimp only; rw [len_mk]; omega
end Mine
end

section
set_option maxRecDepth 100000
set_option linter.unusedVariables false
namespace Mine
open PySem PySem.W PySem.Calls PyProof.Rows PySem.Spec
inductive Tr where
  | tx (l : List Nat)
  | rm (ps : List Tr)
mutual
def Tr.fold {α : Type} (f : List Nat → α) (g : List α → α) : Tr → α
  | .tx l => f l
  | .rm ps => g (foldL f g ps)
def foldL {α : Type} (f : List Nat → α) (g : List α → α) : List Tr → List α
  | [] => []
  | p :: ps => p.fold f g :: foldL f g ps
end
section
variable {α : Type} {f : List Nat → α} {g : List α → α}
theorem foldL_eq : ∀ ps : List Tr, foldL f g ps = ps.map (Tr.fold f g)
  | [] => by simp [foldL]
  | p :: ps => by rw [foldL, foldL_eq ps]; rfl
theorem fold_tx (l : List Nat) : (Tr.tx l).fold f g = f l := by rw [Tr.fold]
theorem fold_rm (ps : List Tr) : (Tr.rm ps).fold f g = g (ps.map (Tr.fold f g)) := by rw [Tr.fold, foldL_eq]
end
theorem Tr.ind {P : Tr → Prop} (ht : ∀ l, P (.tx l)) (hr : ∀ ps, (∀ p ∈ ps, P p) → P (.rm ps)) : ∀ t, P t := fun t =>
  Tr.rec (motive_1 := P) (motive_2 := fun ps => ∀ p ∈ ps, P p) ht (fun ps h => hr ps h) (fun p hp => by cases hp) (fun p ps h hs q hq => by
    rcases List.mem_cons.mp hq with rfl | hq
    · exact h
    · exact hs q hq) t
noncomputable section
noncomputable def Tr.toD : Tr → PyData := Tr.fold (fun l => .str ⟨l.toArray⟩) .list
noncomputable def Tr.bare : Tr → Tr := Tr.fold (fun l => .tx (shown l)) .rm
noncomputable def Tr.texts : Tr → List (List Nat) := Tr.fold (fun l => [l]) List.flatten
noncomputable def Tr.wr : Tr → List Nat := Tr.fold (fun l => escP (vis l)) fun ss => 40 :: (ss.flatten ++ [41])
noncomputable def Tr.size : Tr → Nat := Tr.fold (fun l => l.length + 1) fun ns => ns.sum + 1
noncomputable def Tr.rmc : Tr → Nat := Tr.fold (fun _ => 0) fun ns => ns.sum + 1
end
theorem toD_tx (l : List Nat) : (Tr.tx l).toD = .str ⟨l.toArray⟩ := fold_tx l
theorem toD_rm (ps : List Tr) : (Tr.rm ps).toD = .list (ps.map Tr.toD) := fold_rm ps
theorem bare_tx (l : List Nat) : (Tr.tx l).bare = .tx (shown l) := fold_tx l
theorem bare_rm (ps : List Tr) : (Tr.rm ps).bare = .rm (ps.map Tr.bare) := fold_rm ps
theorem texts_tx (l : List Nat) : (Tr.tx l).texts = [l] := fold_tx l
theorem texts_rm (ps : List Tr) : (Tr.rm ps).texts = (ps.map Tr.texts).flatten := fold_rm ps
theorem wr_tx (l : List Nat) : (Tr.tx l).wr = escP (vis l) := fold_tx l
theorem wr_rm (ps : List Tr) : (Tr.rm ps).wr = 40 :: ((ps.map Tr.wr).flatten ++ [41]) := fold_rm ps
theorem size_tx (l : List Nat) : (Tr.tx l).size = l.length + 1 := fold_tx l
theorem size_rm (ps : List Tr) : (Tr.rm ps).size = (ps.map Tr.size).sum + 1 := fold_rm ps
theorem rmc_tx (l : List Nat) : (Tr.tx l).rmc = 0 := fold_tx l
theorem rmc_rm (ps : List Tr) : (Tr.rm ps).rmc = (ps.map Tr.rmc).sum + 1 := fold_rm ps

/-! ### the open remark: what is before the last text, the last text, the remarks around it -/
structure Z where
  cur : List Tr
  last : List Nat
  up : List (List Tr)
noncomputable def Z.top (z : Z) : List Tr := z.cur ++ [.tx z.last]
noncomputable def Z.add (z : Z) (c : List Nat) : Z := ⟨z.cur, z.last ++ c, z.up⟩
noncomputable def Z.opn (z : Z) : Z := ⟨[], [], z.top :: z.up⟩
noncomputable def Z.cls (z : Z) : Z := match z.up with
  | [] => z
  | f :: fs => ⟨f ++ [.rm z.top], [], fs⟩
noncomputable def closeZ : List Tr → List (List Tr) → List Tr
  | top, [] => top
  | top, f :: fs => closeZ (f ++ [.rm top, .tx []]) fs
noncomputable def Z.close (z : Z) : List Tr := closeZ z.top z.up

/-! ### texts and remarks by turns -/
inductive Alt : List Tr → Prop
  | one (l : List Nat) : Alt [.tx l]
  | more (l : List Nat) {qs ps : List Tr} : Alt qs → Alt ps → Alt (.tx l :: .rm qs :: ps)
theorem Alt.last {ps : List Tr} (h : Alt ps) : ∀ {cur : List Tr} {l : List Nat} (l' : List Nat), ps = cur ++ [.tx l] → Alt (cur ++ [.tx l']) := by
  induction h with
  | one l0 =>
    intro cur l l' e
    cases cur with
    | nil => exact .one l'
    | cons a cur => cases cur <;> cases e
  | more l0 hq hp _ ih =>
    intro cur l l' e
    cases cur with
    | nil => cases e
    | cons a cur =>
      cases cur with
      | nil => cases e
      | cons b cur =>
        simp only [List.cons_append, List.cons.injEq] at e
        obtain ⟨rfl, rfl, e⟩ := e
        exact .more l0 hq (ih l' e)
theorem Alt.join {ps qs : List Tr} (h : Alt ps) (hq : Alt qs) (l : List Nat) : Alt (ps ++ [.rm qs, .tx l]) := by
  induction h with
  | one l0 => exact .more l0 hq (.one l)
  | more l0 h1 h2 _ ih => exact .more l0 h1 ih
structure Z.Good (z : Z) (n k : Nat) : Prop where
  alt : Alt z.top
  alts : ∀ f ∈ z.up, Alt f
  size : (z.top.map Tr.size).sum + (z.up.map fun f => (f.map Tr.size).sum + 2).sum ≤ n
  rmc : (z.top.map Tr.rmc).sum + (z.up.map fun f => (f.map Tr.rmc).sum + 1).sum ≤ k
  small : ∀ t, t ∈ z.top ∨ (∃ f ∈ z.up, t ∈ f) → ∀ l ∈ t.texts, ∀ c ∈ l, c < 55296
theorem sum_one (f : Tr → Nat) (a : List Tr) (t : Tr) : ((a ++ [t]).map f).sum = (a.map f).sum + f t := by simp
theorem sum_two (f : Tr → Nat) (a : List Tr) (t u : Tr) : ((a ++ [t, u]).map f).sum = (a.map f).sum + f t + f u := by simp [Nat.add_assoc]
theorem Z.Good.add {z : Z} {n k : Nat} (g : z.Good n k) {c : List Nat} (hc : ∀ x ∈ c, x < 55296) : (z.add c).Good (n + c.length) k := by
  refine ⟨g.alt.last _ rfl, g.alts, ?_, ?_, ?_⟩
  · have := g.size
    unfold Z.top at this ⊢
    rw [sum_one, size_tx] at this ⊢
    show _ + ((z.last ++ c).length + 1) + (z.up.map _).sum ≤ _
    rw [List.length_append]
    show (z.cur.map Tr.size).sum + _ + _ ≤ _
    omega
  · have := g.rmc
    unfold Z.top at this ⊢
    rw [sum_one, rmc_tx] at this ⊢
    exact this
  · rintro t (ht | ht) l hl x hx
    · rcases List.mem_append.mp ht with ht | ht
      · exact g.small t (.inl (List.mem_append_left _ ht)) l hl x hx
      · rw [List.mem_singleton] at ht
        subst ht
        rw [texts_tx, List.mem_singleton] at hl
        subst hl
        rcases List.mem_append.mp hx with hx | hx
        · exact g.small (.tx z.last) (.inl (List.mem_append_right _ (.head _))) z.last (by rw [texts_tx]; exact .head _) x hx
        · exact hc x hx
    · exact g.small t (.inr ht) l hl x hx
theorem Z.Good.opn {z : Z} {n k : Nat} (g : z.Good n k) : z.opn.Good (n + 3) (k + 1) := by
  refine ⟨.one [], ?_, ?_, ?_, ?_⟩
  · intro f hf
    rcases List.mem_cons.mp hf with rfl | hf
    · exact g.alt
    · exact g.alts f hf
  · have := g.size
    show (([Tr.tx []]).map Tr.size).sum + ((z.top :: z.up).map _).sum ≤ _
    rw [List.map_cons, List.sum_cons, List.map_cons, List.map_nil, List.sum_cons, List.sum_nil, size_tx]
    simp only [List.length_nil]
    omega
  · have := g.rmc
    show (([Tr.tx []]).map Tr.rmc).sum + ((z.top :: z.up).map _).sum ≤ _
    rw [List.map_cons, List.sum_cons, List.map_cons, List.map_nil, List.sum_cons, List.sum_nil, rmc_tx]
    omega
  · rintro t (ht | ⟨f, hf, ht⟩) l hl x hx
    · replace ht := List.mem_singleton.mp ht
      subst ht
      rw [texts_tx, List.mem_singleton] at hl
      subst hl
      cases hx
    · rcases List.mem_cons.mp hf with rfl | hf
      · exact g.small t (.inl ht) l hl x hx
      · exact g.small t (.inr ⟨f, hf, ht⟩) l hl x hx
theorem Z.Good.cls {z : Z} {n k : Nat} (g : z.Good n k) : z.cls.Good n k := by
  unfold Z.cls
  split
  · exact g
  · rename_i f fs e
    have ga := g.alts
    have gs := g.size
    have gr := g.rmc
    have gm := g.small
    rw [e] at ga gs gr gm
    have et : (⟨f ++ [.rm z.top], [], fs⟩ : Z).top = f ++ [.rm z.top, .tx []] := by unfold Z.top; simp
    refine ⟨?_, fun h hh => ga h (.tail _ hh), ?_, ?_, ?_⟩
    · rw [et]; exact (ga f (.head _)).join g.alt []
    · rw [et, sum_two, size_tx, size_rm]
      dsimp only
      rw [List.map_cons, List.sum_cons] at gs
      simp only [List.length_nil]
      omega
    · rw [et, sum_two, rmc_tx, rmc_rm]
      dsimp only
      rw [List.map_cons, List.sum_cons] at gr
      omega
    · rintro t (ht | ⟨h, hh, ht⟩) l hl x hx
      · rw [et] at ht
        rcases List.mem_append.mp ht with ht | ht
        · exact gm t (.inr ⟨f, .head _, ht⟩) l hl x hx
        · rcases List.mem_cons.mp ht with rfl | ht
          · rw [texts_rm] at hl
            obtain ⟨ls, h1, h2⟩ := List.mem_flatten.mp hl
            obtain ⟨q, hq, rfl⟩ := List.mem_map.mp h1
            exact gm q (.inl hq) l h2 x hx
          · replace ht := List.mem_singleton.mp ht
            subst ht
            rw [texts_tx, List.mem_singleton] at hl
            subst hl
            cases hx
      · exact gm t (.inr ⟨h, .tail _ hh, ht⟩) l hl x hx
theorem Z.Good.mono {z : Z} {n k n' k' : Nat} (g : z.Good n k) (hn : n ≤ n') (hk : k ≤ k') : z.Good n' k' := ⟨g.alt, g.alts, Nat.le_trans g.size hn, Nat.le_trans g.rmc hk, g.small⟩
theorem close_eq : ∀ (z : Z) (j : Nat), z.up.length = j → ∀ {n k : Nat}, z.Good n k → ∃ z' : Z, z'.up = [] ∧ z'.Good n k ∧ z'.top = z.close
  | z, 0, h, n, k, g => ⟨z, List.length_eq_zero_iff.mp h, g, by unfold Z.close; rw [List.length_eq_zero_iff.mp h]; rfl⟩
  | z, j + 1, h, n, k, g => by
    have gc := g.cls
    unfold Z.cls at gc
    cases e : z.up with
    | nil => rw [e] at h; cases h
    | cons f fs =>
      rw [e] at gc h
      dsimp only at gc
      obtain ⟨z', h1, h2, h3⟩ := close_eq ⟨f ++ [.rm z.top], [], fs⟩ j (by simpa using h) gc
      refine ⟨z', h1, h2, h3.trans ?_⟩
      unfold Z.close
      rw [e]
      show closeZ (⟨f ++ [.rm z.top], [], fs⟩ : Z).top fs = closeZ z.top (f :: fs)
      show _ = closeZ (f ++ [.rm z.top, .tx []]) fs
      unfold Z.top
      simp
/-- what holds of the remark that is drawn -/
structure GoodT (ps : List Tr) (n k : Nat) : Prop where
  alt : Alt ps
  size : (Tr.rm ps).size ≤ n
  rmc : (Tr.rm ps).rmc ≤ k
  small : ∀ l ∈ (Tr.rm ps).texts, ∀ c ∈ l, c < 55296
theorem Z.Good.close {z : Z} {n k : Nat} (g : z.Good n k) : GoodT z.close (n + 1) (k + 1) := by
  obtain ⟨z', h1, h2, h3⟩ := close_eq z _ rfl g
  rw [← h3]
  have gs := h2.size
  have gr := h2.rmc
  rw [h1] at gs gr
  simp only [List.map_nil, List.sum_nil, Nat.add_zero] at gs gr
  refine ⟨h2.alt, by rw [size_rm]; omega, by rw [rmc_rm]; omega, fun l hl c hc => ?_⟩
  rw [texts_rm] at hl
  obtain ⟨ls, h4, h5⟩ := List.mem_flatten.mp hl
  obtain ⟨q, hq, rfl⟩ := List.mem_map.mp h4
  exact h2.small q (.inl hq) l h5 c hc
end Mine
end

section
set_option maxRecDepth 100000
set_option linter.unusedVariables false
namespace Mine
open PySem PySem.W PySem.Calls PyProof.Rows PySem.Spec
noncomputable def ItemsL (seg : List (Addr × Obj)) (its : List Value) (ps : List Tr) : Prop := its.length = ps.length ∧ ∀ h : Heap, Stand h seg → ∃ as, ReadsAll h its (ps.map Tr.toD) as
theorem ItemsL.nil (seg : List (Addr × Obj)) : ItemsL seg [] [] := ⟨rfl, fun _ _ => ⟨_, .nil⟩⟩
theorem ItemsL.snoc {seg seg' : List (Addr × Obj)} {its : List Value} {ps : List Tr} {v : Value} {t : Tr} (h : ItemsL seg its ps) (hs : ∀ p ∈ seg, p ∈ seg') (hv : ∀ h : Heap, Stand h seg' → ∃ as, Reads h v t.toD as) : ItemsL seg' (its ++ [v]) (ps ++ [t]) := by
  refine ⟨by simp [h.1], fun hh st => ?_⟩
  obtain ⟨as, ha⟩ := h.2 hh (st.sub hs)
  obtain ⟨bs, hb⟩ := hv hh st
  obtain ⟨cs, hc⟩ := readsAll_append ha (.cons hb .nil)
  exact ⟨cs, by simpa using hc⟩
theorem ItemsL.text {seg : List (Addr × Obj)} {its : List Value} {ps : List Tr} (h : ItemsL seg its ps) (l : List Nat) (t : Tok) : ItemsL seg (its ++ [Value.str ⟨l.toArray⟩ t]) (ps ++ [.tx l]) :=
  h.snoc (fun _ hp => hp) fun _ _ => ⟨_, by rw [toD_tx]; exact .str _ _⟩
theorem ItemsL.rm {seg segb : List (Addr × Obj)} {its itb : List Value} {ps pb : List Tr} {a : Addr} {n : Nat} (hb : ItemsL segb itb pb) (h : ItemsL seg its ps) : ItemsL ((a, listOf its.toArray n) :: (seg ++ segb)) (itb ++ [Value.ref a]) (pb ++ [.rm ps]) := by
  refine hb.snoc (fun p hp => .tail _ (List.mem_append_right _ hp)) fun hh st => ?_
  obtain ⟨as, ha⟩ := h.2 hh (st.sub fun p hp => .tail _ (List.mem_append_left _ hp))
  exact ⟨_, by rw [toD_rm]; exact .list (st _ (.head _)) rfl rfl (by simpa using ha)⟩
inductive Zip (r : Addr) : List (Addr × Obj) → List Value → Addr → List (List Tr) → Prop
  | nil : Zip r [] [] r []
  | cons {seg tl : List (Addr × Obj)} {its ps : List Value} {f : List Tr} {fs : List (List Tr)} {a b : Addr} {t : Tok} {n : Nat} : ItemsL seg its f → Zip r tl ps b fs →
      Zip r ((b, listOf ((its ++ [Value.ref a]) ++ [Value.str ⟨[].toArray⟩ t]).toArray n) :: (seg ++ tl)) (ps ++ [Value.ref b]) a (f :: fs)
theorem Zip.len {r : Addr} {tl : List (Addr × Obj)} {ps : List Value} {a : Addr} {fs : List (List Tr)} (z : Zip r tl ps a fs) : ps.length = fs.length := by
  induction z with
  | nil => rfl
  | cons _ _ ih => simp [ih]
theorem Zip.reads {r : Addr} {tl : List (Addr × Obj)} {ps : List Value} {a : Addr} {fs : List (List Tr)} (z : Zip r tl ps a fs) : ∀ {seg : List (Addr × Obj)} {its : List Value} {top : List Tr} {n : Nat} {h : Heap}, ItemsL seg its top →
    Stand h ((a, listOf its.toArray n) :: (seg ++ tl)) → ∃ as, Reads h (.ref r) (Tr.rm (closeZ top fs)).toD as := by
  induction z with
  | nil =>
    intro seg its top n h hi st
    obtain ⟨as, ha⟩ := hi.2 h (st.sub fun p hp => .tail _ (List.mem_append_left _ hp))
    exact ⟨_, by rw [toD_rm]; exact .list (st _ (.head _)) rfl rfl (by simpa [closeZ] using ha)⟩
  | @cons segb tl itb ps f fs a b t m hb zz ih =>
    intro seg its top n h hi st
    have hi' : ItemsL ((a, listOf its.toArray n) :: (seg ++ segb)) ((itb ++ [Value.ref a]) ++ [Value.str ⟨[].toArray⟩ t]) (f ++ [.rm top, .tx []]) := by
      have := (hb.rm (a := a) (n := n) hi).text [] t
      simpa using this
    refine ih (n := m) hi' (st.sub fun p hp => ?_)
    simp only [List.mem_cons, List.mem_append] at hp ⊢
    rcases hp with rfl | (rfl | hp | hp) | hp
    · exact .inr (.inr (.inl rfl))
    · exact .inl rfl
    · exact .inr (.inl hp)
    · exact .inr (.inr (.inr (.inl hp)))
    · exact .inr (.inr (.inr (.inr hp)))
/-- the state between the turns: the path P, the outermost list r -/
noncomputable def ZInv (P r : Addr) (z : Z) (news : List (Addr × Obj)) : Prop :=
  ∃ n na tl seg its a ps t, news = (P, listOf (ps ++ [Value.ref a]).toArray n) :: (a, listOf (its ++ [Value.str ⟨z.last.toArray⟩ t]).toArray na) :: (seg ++ tl) ∧ ItemsL seg its z.cur ∧ Zip r tl ps a z.up ∧ (news.map (·.1)).Nodup
theorem nodup_perm {a b : List (Addr × Obj)} (h : (a.map (·.1)).Nodup) (p : b.Perm a) : (b.map (·.1)).Nodup := (p.map (·.1)).symm.nodup h
theorem nodup_same {a b : List (Addr × Obj)} (h : (a.map (·.1)).Nodup) (p : b.map (·.1) = a.map (·.1)) : (b.map (·.1)).Nodup := by rw [p]; exact h
theorem ZInv.root {P r : Addr} {t : Tok} {n na : Nat} (h : @Ne Nat P r) : ZInv P r ⟨[], [], []⟩ [(P, listOf #[Value.ref r] n), (r, listOf #[Value.str ⟨[].toArray⟩ t] na)] :=
  ⟨n, na, [], [], [], r, [], t, rfl, .nil _, .nil, by simpa using h⟩
theorem ZInv.add {P r a : Addr} {z : Z} {n na : Nat} {seg tl : List (Addr × Obj)} {its ps : List Value} {t t' : Tok} {x : List Nat} (hi : ItemsL seg its z.cur) (hz : Zip r tl ps a z.up)
    (hn : (((P, listOf (ps ++ [Value.ref a]).toArray n) :: (a, listOf (its ++ [Value.str ⟨z.last.toArray⟩ t]).toArray na) :: (seg ++ tl)).map (·.1)).Nodup) :
    ZInv P r (z.add x) ((P, listOf (ps ++ [Value.ref a]).toArray n) :: (a, listOf (its ++ [Value.str ⟨(z.last ++ x).toArray⟩ t']).toArray na) :: (seg ++ tl)) :=
  ⟨n, na, tl, seg, its, a, ps, t', rfl, hi, hz, nodup_same hn rfl⟩
theorem ZInv.opn {P r a b : Addr} {z : Z} {n na n' na' nb : Nat} {seg tl : List (Addr × Obj)} {its ps : List Value} {t t' t'' : Tok} (hi : ItemsL seg its z.cur) (hz : Zip r tl ps a z.up)
    (hn : (((P, listOf (ps ++ [Value.ref a]).toArray n) :: (a, listOf (its ++ [Value.str ⟨z.last.toArray⟩ t]).toArray na) :: (seg ++ tl)).map (·.1)).Nodup)
    (hb : ∀ p ∈ (P, listOf (ps ++ [Value.ref a]).toArray n) :: (a, listOf (its ++ [Value.str ⟨z.last.toArray⟩ t]).toArray na) :: (seg ++ tl), p.1 ≠ b) :
    ZInv P r z.opn ((P, listOf ((ps ++ [Value.ref a]) ++ [Value.ref b]).toArray n') :: (b, listOf #[Value.str ⟨[].toArray⟩ t'] nb) :: (a, listOf (((its ++ [Value.str ⟨z.last.toArray⟩ t]) ++ [Value.ref b]) ++ [Value.str ⟨[].toArray⟩ t'']).toArray na') :: (seg ++ tl)) := by
  refine ⟨n', nb, (a, listOf (((its ++ [Value.str ⟨z.last.toArray⟩ t]) ++ [Value.ref b]) ++ [Value.str ⟨[].toArray⟩ t'']).toArray na') :: (seg ++ tl), [], [], b, ps ++ [Value.ref a], t', rfl, .nil _, .cons (hi.text _ _) hz, ?_⟩
  rw [List.map_cons, List.map_cons, List.nodup_cons] at hn
  show List.Nodup (P :: b :: a :: (seg ++ tl).map (·.1))
  rw [List.nodup_cons, List.nodup_cons]
  refine ⟨?_, ?_, hn.2⟩
  · intro hm
    rcases List.mem_cons.mp hm with e | hm
    · exact hb _ (.head _) e
    · exact hn.1 hm
  · intro hm
    rcases List.mem_cons.mp hm with e | hm
    · exact hb _ (.tail _ (.head _)) e.symm
    · obtain ⟨p, hp, e⟩ := List.mem_map.mp hm
      exact hb p (.tail _ (.tail _ hp)) e
theorem ZInv.cls {P r a : Addr} {z : Z} {n na n' : Nat} {seg tl : List (Addr × Obj)} {its ps : List Value} {t : Tok} (hi : ItemsL seg its z.cur) (hz : Zip r tl ps a z.up)
    (hn : (((P, listOf (ps ++ [Value.ref a]).toArray n) :: (a, listOf (its ++ [Value.str ⟨z.last.toArray⟩ t]).toArray na) :: (seg ++ tl)).map (·.1)).Nodup) (hu : z.up ≠ []) :
    ∃ news, ZInv P r z.cls news ∧ ∀ p, p ∈ news ↔ p ∈ (P, listOf ps.toArray n') :: (a, listOf (its ++ [Value.str ⟨z.last.toArray⟩ t]).toArray na) :: (seg ++ tl) := by
  unfold Z.cls
  cases e : z.up with
  | nil => exact absurd e hu
  | cons f fs =>
    rw [e] at hz
    dsimp only
    cases hz with
    | @cons segb tlb itb psb _ _ _ b tb nb hb zz =>
      refine ⟨_, ⟨n', nb, tlb, (a, listOf (its ++ [Value.str ⟨z.last.toArray⟩ t]).toArray na) :: (seg ++ segb), itb ++ [Value.ref a], b, psb, tb, rfl, ?_, zz, ?_⟩, fun p => ?_⟩
      · exact hb.rm (hi.text _ _)
      · refine nodup_perm (nodup_same (b := (P, listOf (psb ++ [Value.ref b]).toArray n') :: (a, listOf (its ++ [Value.str ⟨z.last.toArray⟩ t]).toArray na) :: (seg ++ (b, listOf (itb ++ [Value.ref a] ++ [Value.str ⟨[].toArray⟩ tb]).toArray nb) :: (segb ++ tlb))) hn rfl) (.cons _ ?_)
        refine List.Perm.trans (l₂ := (a, listOf (its ++ [Value.str ⟨z.last.toArray⟩ t]).toArray na) :: (b, listOf (itb ++ [Value.ref a] ++ [Value.str ⟨[].toArray⟩ tb]).toArray nb) :: (seg ++ segb ++ tlb)) ?_ (.cons _ ?_)
        · exact List.Perm.swap ..
        · rw [List.append_assoc seg segb tlb]
          exact (List.perm_middle).symm
      · simp only [List.mem_cons, List.mem_append]
        constructor
        · rintro (rfl | rfl | ((rfl | hp | hp) | hp))
          · exact .inl rfl
          · exact .inr (.inr (.inr (.inl rfl)))
          · exact .inr (.inl rfl)
          · exact .inr (.inr (.inl hp))
          · exact .inr (.inr (.inr (.inr (.inl hp))))
          · exact .inr (.inr (.inr (.inr (.inr hp))))
        · rintro (rfl | rfl | hp | rfl | hp | hp)
          · exact .inl rfl
          · exact .inr (.inr (.inl (.inl rfl)))
          · exact .inr (.inr (.inl (.inr (.inl hp))))
          · exact .inr (.inl rfl)
          · exact .inr (.inr (.inl (.inr (.inr hp))))
          · exact .inr (.inr (.inr hp))
theorem ZInv.reads {P r : Addr} {z : Z} {news : List (Addr × Obj)} {h : Heap} (x : ZInv P r z news) (st : Stand h news) : ∃ as, Reads h (.ref r) (Tr.rm z.close).toD as := by
  obtain ⟨n, na, tl, seg, its, a, ps, t, rfl, hi, hz, _⟩ := x
  exact hz.reads (hi.text z.last t) (st.sub fun p hp => .tail _ hp)
end Mine
end

section
set_option maxRecDepth 100000
set_option linter.unusedVariables false
set_option maxHeartbeats 0
set_option Elab.async false
namespace Mine
open PySem PySem.W PySem.Calls PyProof.Rows PySem.Spec
local macro_rules | `(tactic| walk_at "names") => `(tactic| repeat' (first | exact List.forall_mem_nil _ | refine List.forall_mem_cons.2 ⟨?_, ?_⟩ | rfl))
local macro_rules | `(tactic| size_fits) => `(tactic| (simp only [PySem.Str.length_append, len_one, len_item, len_mk, List.size_toArray, Array.size_append, List.length_append, List.length_cons, List.length_nil, PySem.sizeLine_eq]; omega))
local macro_rules | `(tactic| k_all) => `(tactic| with_reducible assumption)
section
variable {prog : Program} {w : World} {M : Model} {A : Around} {E : Value → Shared → Prop} {s : Shared} {h₀ : Heap} {L D : Addr} {m : Str → Option Value} {news news' : List (Addr × Obj)} {env : Env}
theorem get_last {n : Nat} {u : Tok} {as : List Value} {v : Value} {Q : Value → Shared → Prop} (N : News h₀ L s.heap news) (hm : (D, listOf (as ++ [v]).toArray n) ∈ news) (h : Q v s) :
    wpAny (model prog w) A (getItem (.ref D) (.int (-1) u)) Q E s := get_U N hm (idx_snoc _ _) (at_snoc _ _) (by decide) (by decide) h
theorem set_snoc (as : List Value) (v v' : Value) : (as ++ [v]).toArray.setIfInBounds as.length v' = (as ++ [v']).toArray := by
  simp
theorem set_last {n : Nat} {t : Tok} {as : List Value} {v v' : Value} {Q : Unit → Shared → Prop} (F : Fr h₀ L s.heap m) (N : News h₀ L s.heap news) (U : Upd D (listOf (as ++ [v]).toArray n) (listOf (as ++ [v']).toArray n) news news')
    (h : ∀ h', Fr h₀ L h' m → News h₀ L h' news' → Q () { s with heap := h' }) : wpAny (model prog w) A (setItem (.ref D) (.int (-1) t) v') Q E s :=
  setItem_U F N (its := (as ++ [v]).toArray) (j := as.length) (by rw [set_snoc]; exact U) (by decide) (by decide) (idx_snoc _ _) (by simp) h
theorem len_U {n : Nat} {its : List Value} {Q : Value → Shared → Prop} (N : News h₀ L s.heap news) (hm : (D, listOf its.toArray n) ∈ news) (hl : its.length ≤ 100000) (h : Q (.int (its.length : Int) (s.toks + 1)) { s with toks := s.toks + 1 + 1 }) :
    wpAny (model prog w) A (call (.builtin "len") [.ref D]) Q E s := by
  have e : its.toArray.size = its.length := List.size_toArray ..
  exact len_list ⟨_, (N _ hm).1, rfl, n, rfl⟩ (by rw [e]; omega) (by rw [e]; exact h)
theorem pop_U {n : Nat} {as : List Value} {v : Value} {Q : Value → Shared → Prop} (F : Fr h₀ L s.heap m) (N : News h₀ L s.heap news) (U : Upd D (listOf (as ++ [v]).toArray n) (listOf as.toArray (n + 1)) news news') (hl : as.length ≤ 100000)
    (h : ∀ h', Fr h₀ L h' m → News h₀ L h' news' → Q v { s with heap := h' }) : wpAny (model prog w) A (call (.builtin "list.pop") [.ref D]) Q E s := by
  obtain ⟨pre, post, rfl, rfl, a, b⟩ := U.split
  have z := N (D, listOf (as ++ [v]).toArray n) (List.mem_append.mpr (.inr (.head _)))
  have hy : (as ++ [v]).toArray[(as ++ [v]).toArray.size - 1]? = some v := by simp
  refine call_meets PySem.F.slot_list_pop ⟨_, z.1, rfl⟩ PySem.F.entry_list_pop (PySem.F.args_list_pop_1 _) (PySem.MeetsSeq.list_pop_last D _ n v hy (by simp [PySem.sizeLine_eq]; omega)) ⟨z.1, h _ (F.change (Heap.SameBut.update ..) z.2.1 z.2.2) (news_set N a b (Heap.SameBut.update ..) ?_)⟩
  rw [Heap.get?_update_self _ z.1 rfl]
  have ee : (as ++ [v]).eraseIdx as.length = as := by rw [List.eraseIdx_append_of_length_le (Nat.le_refl _)]; simp
  simp [Obj.mapSeq, ee]
end
local macro_rules | `(tactic| walk_at "call builtin:len") => `(tactic| (k_here; (with_reducible show wpAny _ _ (call (Value.builtin "len") [Value.ref _]) _ _ _); k_dflt (refine' len_U ?N ?m ?l ?_; (case N => k_asm); (case m => k_mem); (case l => (simp only [List.length_append, List.length_cons, List.length_nil]; omega)); k_whole)))
local macro_rules | `(tactic| walk_at "call builtin:list.pop") => `(tactic| (k_here; (with_reducible show wpAny _ _ (call (Value.builtin "list.pop") [Value.ref _]) _ _ _); k_dflt (refine' pop_U ?F ?N ?U ?l ?_; (case F => k_asm); (case N => k_asm); (case U => k_upd); (case l => omega); k_whole; intro h' F' N'; (try k_sweep))))
local macro_rules | `(tactic| walk_at "getItem ref int") => `(tactic| (k_here; (with_reducible show wpAny _ _ (getItem (Value.ref _) (Value.int _ _)) _ _ _); k_dflt (refine' get_last ?N ?m ?_; (case N => k_asm); (case m => k_mem); k_whole)))
local macro_rules | `(tactic| walk_at "setItem ref int") => `(tactic| (k_here; (with_reducible show wpAny _ _ (setItem (Value.ref _) (Value.int _ _) _) _ _ _); k_dflt (refine' set_last ?F ?N ?U ?_; (case F => k_asm); (case N => k_asm); (case U => k_upd); k_whole; intro h' F' N'; (try k_sweep))))
local macro_rules | `(tactic| walk_at "subscriptTail") => `(tactic| (k_here; (with_reducible show wpAny _ _ (subscriptTail _ _ (Value.ref _) (Value.int _ _)) _ _ _); k_dflt (refine' sub_U ?N ?m (idx_snoc _ _) (at_snoc _ _) ?a ?b ?_; (case N => k_asm); (case m => k_mem); (case a => decide); (case b => decide); k_whole)))
noncomputable abbrev envT (L : Addr) : Env := envOf (Str.ofString "_law_tree") (fnS (stm 13)) L 218 (Value.ref 217)
noncomputable def treeBody : List Stmt := match (fnB (stm 13)).getD 2 (.Pass ⟨0,0,0,0⟩) with | .For _ _ b _ _ => b | _ => []
noncomputable def elseOf : List Stmt → List Stmt
  | [_, .If _ _ [.If _ _ e _] _] => e
  | _ => []
noncomputable def augStmt : Stmt := (elseOf treeBody).getD 0 (.Pass ⟨0,0,0,0⟩)
section
variable {prog : Program} {w : World} {A : Around} {E : Value → Shared → Prop} {s : Shared} {h₀ : Heap} {L D : Addr} {m : Str → Option Value} {news news' : List (Addr × Obj)} {env : Env}
theorem sub_menu {value slice : Expr} {its : List Value} {n : Nat} {x : Int} {u : Tok} {Q : Value → Shared → Prop} (N : News h₀ L s.heap news) (hm : (D, listOf its.toArray n) ∈ news) (hl : its.length = 12)
    (hall : ∀ v ∈ its, ∃ c t, v = .str ⟨#[c]⟩ t ∧ c < 55296) (h : ∀ c t, c < 55296 → Q (.str ⟨#[c]⟩ t) s)
    (hs : subscripted slice false (.ref D) (.int (x.fmod 12) u) = operate [.ref D, .int (x.fmod 12) u] (getItem (.ref D) (.int (x.fmod 12) u)) := by with_unfolding_all rfl) :
    wpAny (model prog w) A (subscriptTail value slice (.ref D) (.int (x.fmod 12) u)) Q E s := by
  have h1 : 0 ≤ x.fmod 12 := Int.fmod_nonneg_of_pos x (by decide)
  have h2 : x.fmod 12 < 12 := Int.fmod_lt_of_pos x (by decide)
  generalize x.fmod 12 = k at h1 h2 hs ⊢
  obtain ⟨j, rfl⟩ : ∃ j : Nat, k = (j : Int) := ⟨k.toNat, by omega⟩
  have hi : j < its.length := by omega
  obtain ⟨c, t, e, hc⟩ := hall its[j] (List.getElem_mem hi)
  refine sub_U N hm (j := j) (v := .str ⟨#[c]⟩ t) ?_ ?_ (by omega) (by omega) (h c t hc) hs
  · exact idx_nat (by rw [List.size_toArray]; exact hi)
  · rw [List.getElem?_toArray, List.getElem?_eq_getElem hi, e]
end
theorem chr_a (x : Int) : (97 + (x.fdiv 12).fmod 26).toNat < 55296 := by
  have h2 : (x.fdiv 12).fmod 26 < 26 := Int.fmod_lt_of_pos _ (by decide)
  omega
theorem chr_b (x : Int) : ((x.fdiv 12).fmod 55296).toNat < 55296 := by
  have h1 : 0 ≤ (x.fdiv 12).fmod 55296 := Int.fmod_nonneg_of_pos _ (by decide)
  have h2 : (x.fdiv 12).fmod 55296 < 55296 := Int.fmod_lt_of_pos _ (by decide)
  omega
theorem chr_s {z : Str} {c : Nat} (t : Tok) (h : z = ⟨#[c]⟩) (hc : c < 55296) : ∃ c' t', Value.str z t = .str ⟨#[c']⟩ t' ∧ c' < 55296 := ⟨c, t, by rw [h], hc⟩
theorem tree_aug {w : World} {A : Around} {s : Shared} {L P a : Addr} {m : Str → Option Value} {x : Int} {t t1 tk : Tok} {x1 : List Nat} {ps its : List Value} {n na : Nat} {tl : List (Addr × Obj)} {h₀ : Heap} {Q : Flow → Shared → Prop} {mean : ExcName → Option Value} {mg mb : Str → Option Value}
    (X : (KK w.params).In h₀) (T : TopV mean mg mb h₀) (ok : Ok A 3) (hPa : @Ne Nat P a) (hpl : ps.length ≤ 1000) (hil : its.length ≤ 1000) (hxl : x1.length ≤ 1000) (hP : ∀ p ∈ tl, p.1 ≠ P) (ha : ∀ p ∈ tl, p.1 ≠ a)
    (F : Fr h₀ L s.heap m) (hm : ∀ p ∈ [(Str.ofString "k", Value.int (x.fdiv 12) tk), (Str.ofString "x", .int x t), (Str.ofString "path", .ref P)], m p.1 = some p.2)
    (N : News h₀ L s.heap ((P, listOf (ps ++ [Value.ref a]).toArray n) :: (a, listOf (its ++ [Value.str ⟨x1.toArray⟩ t1]).toArray na) :: tl))
    (h : ∀ h' tk c t', c < 55296 → Fr h₀ L h' m → News h₀ L h' ((P, listOf (ps ++ [Value.ref a]).toArray n) :: (a, listOf (its ++ [Value.str ⟨(x1 ++ [c]).toArray⟩ t']).toArray na) :: tl) → Q .next { s with heap := h', toks := tk }) :
    wpAny (model pg w) A (exec augStmt (envT L)) Q (fun _ _ => False) s := by
  have F₁ : Fr h₀ L s.heap (kstB m [(Str.ofString "k", Value.int (x.fdiv 12) tk), (Str.ofString "x", .int x t), (Str.ofString "path", .ref P)]) := by rw [kstB_self hm]; exact F
  clear F
  show wpAny (model pg w) A (exec (Stmt.AugAssign _ _ _ _) (envT L)) _ _ _
  k_steps
  rename Fr _ _ _ _ => F'
  rename News _ _ _ _ => N'
  refine sub_menu (its := [_, _, _, _, _, _, _, _, _, _, _, _]) N' (.head _) rfl ?_ fun c tc hc => ?_
  · repeat' (first | exact List.forall_mem_nil _ | refine List.forall_mem_cons.2 ⟨?_, ?_⟩ | exact chr_s _ rfl (chr_a x) | exact chr_s _ rfl (chr_b x) | exact chr_s _ (by decide +kernel : _ = (⟨#[40]⟩ : Str)) (by decide) | exact chr_s _ (by decide +kernel : _ = (⟨#[41]⟩ : Str)) (by decide) | exact chr_s _ (by decide +kernel : _ = (⟨#[92]⟩ : Str)) (by decide) | exact chr_s _ (by decide +kernel : _ = (⟨#[34]⟩ : Str)) (by decide) | exact chr_s _ (by decide +kernel : _ = (⟨#[32]⟩ : Str)) (by decide) | exact chr_s _ (by decide +kernel : _ = (⟨#[9]⟩ : Str)) (by decide) | exact chr_s _ (by decide +kernel : _ = (⟨#[10]⟩ : Str)) (by decide) | exact chr_s _ (by decide +kernel : _ = (⟨#[61]⟩ : Str)) (by decide))
  · k_steps
    rename Fr _ _ _ _ => F'
    rename News _ _ _ _ => N'
    rw [kstB_self hm] at F'
    have e : (⟨x1.toArray⟩ : Str) ++ (⟨#[c]⟩ : Str) = ⟨(x1 ++ [c]).toArray⟩ := mk_append x1 [c]
    rw [e] at N'
    exact h _ _ c _ hc F' fun p hp => N' p (.tail _ hp)
section TT
local macro_rules | `(tactic| walk_at "exec AugAssign Subscript") => `(tactic| (k_here; (with_reducible show wpAny _ _ (exec (Stmt.AugAssign _ _ _ _) _) _ _ _); k_dflt (refine' tree_aug ?X ?T ?o ?n ?p ?i ?x ?P ?a ?F ?hm ?N ?_; (case X => k_asm); (case T => k_asm); (case o => k_asm); (case F => k_asm); (case N => k_asm); (case n => k_asm); (case p => k_asm); (case i => k_asm); (case x => k_asm); (case P => k_asm); (case a => k_asm); (case hm => walk_at "names"); k_whole; intro h' tk' c' t' hc' F' N')))
theorem tree_turn {w : World} {A : Around} {s : Shared} {L P I a r la : Addr} {oI : Obj} {u : Str → Option Value} {x : Int} {t t1 : Tok} {x1 : List Nat} {ps its : List Value} {n na : Nat} {tl : List (Addr × Obj)} {h₀ : Heap} {Q : Flow → Shared → Prop} {mean : ExcName → Option Value} {mg mb : Str → Option Value}
    (X : (KK w.params).In h₀) (T : TopV mean mg mb h₀) (ok : Ok A 3) (hPI : @Ne Nat P I) (hPa : @Ne Nat P a) (haI : @Ne Nat a I) (hpl : ps.length ≤ 1000) (hil : its.length ≤ 1000) (hxl : x1.length ≤ 1000) (hP : ∀ p ∈ tl ++ [(I, oI)], p.1 ≠ P) (ha : ∀ p ∈ tl ++ [(I, oI)], p.1 ≠ a)
    (F : Fr h₀ L s.heap (fun y => if y = Str.ofString "x" then some (.int x t) else kstB u [(Str.ofString "path", .ref P), (Str.ofString "root", .ref r), (Str.ofString "numbers", .ref la)] y)) (N : News h₀ L s.heap ((P, listOf (ps ++ [Value.ref a]).toArray n) :: (a, listOf (its ++ [Value.str ⟨x1.toArray⟩ t1]).toArray na) :: (tl ++ [(I, oI)])))
    (hO : ∀ h' tk m' b t' t'' n' na', Fr h₀ L h' m' → (∀ p ∈ [(Str.ofString "path", Value.ref P), (Str.ofString "root", Value.ref r), (Str.ofString "numbers", Value.ref la)], m' p.1 = some p.2) →
      News h₀ L h' ((P, listOf ((ps ++ [Value.ref a]) ++ [Value.ref b]).toArray n') :: (b, listOf #[Value.str ⟨[].toArray⟩ t'] 0) :: (a, listOf (((its ++ [Value.str ⟨x1.toArray⟩ t1]) ++ [Value.ref b]) ++ [Value.str ⟨[].toArray⟩ t'']).toArray na') :: (tl ++ [(I, oI)])) →
      @LT.lt Nat _ P b → @LT.lt Nat _ a b → AllLt b (tl ++ [(I, oI)]) → Q .next { s with heap := h', toks := tk })
    (hC : ∀ h' tk m' n', ps ≠ [] → Fr h₀ L h' m' → (∀ p ∈ [(Str.ofString "path", Value.ref P), (Str.ofString "root", Value.ref r), (Str.ofString "numbers", Value.ref la)], m' p.1 = some p.2) →
      News h₀ L h' ((P, listOf ps.toArray n') :: (a, listOf (its ++ [Value.str ⟨x1.toArray⟩ t1]).toArray na) :: (tl ++ [(I, oI)])) → Q .next { s with heap := h', toks := tk })
    (hA : ∀ h' tk m' c t', c < 55296 → Fr h₀ L h' m' → (∀ p ∈ [(Str.ofString "path", Value.ref P), (Str.ofString "root", Value.ref r), (Str.ofString "numbers", Value.ref la)], m' p.1 = some p.2) →
      News h₀ L h' ((P, listOf (ps ++ [Value.ref a]).toArray n) :: (a, listOf (its ++ [Value.str ⟨(x1 ++ [c]).toArray⟩ t']).toArray na) :: (tl ++ [(I, oI)])) → Q .next { s with heap := h', toks := tk }) :
    wpAny (model pg w) A (execs (match (fnB (stm 13)).getD 2 (.Pass ⟨0,0,0,0⟩) with | .For _ _ b _ _ => b | _ => []) (envT L)) Q (fun _ _ => False) s := by
  have e0 : Str.ofString "" = ⟨[].toArray⟩ := by decide +kernel
  k_steps
  all_goals (rename Fr _ _ _ _ => F')
  all_goals (rename News _ _ _ _ => N')
  · rename _ ∧ _ => l1
    rw [e0, List.push_toArray, List.push_toArray, List.push_toArray] at N'
    exact hO _ _ _ _ _ _ _ _ F' (by walk_at "names") (pull1 N') l1.1 l1.2.1 l1.2.2
  · omega
  · exact hA _ _ _ _ _ ‹_› F' (by walk_at "names") N'
  · rename_i hl _
    refine hC _ _ _ _ ?_ F' (by walk_at "names") N'
    intro e; rw [e] at hl; simp at hl
  · exact hA _ _ _ _ _ ‹_› F' (by walk_at "names") N'
  · exact hA _ _ _ _ _ ‹_› F' (by walk_at "names") N'
end TT
theorem Z.Good.bounds {z : Z} {n k : Nat} (g : z.Good n k) : z.cur.length ≤ n ∧ z.last.length ≤ n ∧ z.up.length ≤ n := by
  have h := g.size
  unfold Z.top at h
  rw [sum_one, size_tx] at h
  have h1 : ∀ l : List Tr, l.length ≤ (l.map Tr.size).sum := by
    intro l
    induction l with
    | nil => exact Nat.le_refl _
    | cons t l ih =>
      have : 1 ≤ t.size := by
        cases t with
        | tx l => rw [size_tx]; omega
        | rm ps => rw [size_rm]; omega
      simp only [List.map_cons, List.sum_cons, List.length_cons]
      omega
  have h2 : ∀ l : List (List Tr), l.length ≤ (l.map fun f => (f.map Tr.size).sum + 2).sum := by
    intro l
    induction l with
    | nil => exact Nat.le_refl _
    | cons t l ih =>
      simp only [List.map_cons, List.sum_cons, List.length_cons]
      omega
  have := h1 z.cur
  have := h2 z.up
  omega
theorem Z.Good.start : (⟨[], [], []⟩ : Z).Good 1 0 := by
  refine ⟨.one [], fun f hf => (by cases hf), ?_, ?_, ?_⟩
  · show ([Tr.tx []].map Tr.size).sum + 0 ≤ 1
    rw [List.map_cons, size_tx]; decide
  · show ([Tr.tx []].map Tr.rmc).sum + 0 ≤ 0
    rw [List.map_cons, rmc_tx]; decide
  · rintro t (ht | ⟨f, hf, ht⟩) l hl x hx
    · replace ht := List.mem_singleton.mp ht
      subst ht
      rw [texts_tx, List.mem_singleton] at hl
      subst hl
      cases hx
    · cases hf
theorem ndP {P a : Addr} {oP oa : Obj} {tl : List (Addr × Obj)} (h : (((P, oP) :: (a, oa) :: tl).map (·.1)).Nodup) : @Ne Nat P a ∧ (∀ p ∈ tl, p.1 ≠ P) ∧ ∀ p ∈ tl, p.1 ≠ a := by
  rw [List.map_cons, List.nodup_cons, List.map_cons, List.nodup_cons] at h
  exact ⟨fun e => h.1 (e ▸ .head _), fun p hp e => h.1 (.tail _ (List.mem_map.mpr ⟨p, hp, e⟩)), fun p hp e => h.2.1 (List.mem_map.mpr ⟨p, hp, e⟩)⟩
theorem offI {I d : Addr} {oI : Obj} {tl : List (Addr × Obj)} (h1 : ∀ p ∈ tl, p.1 ≠ d) (h2 : @Ne Nat d I) : ∀ p ∈ tl ++ [(I, oI)], p.1 ≠ d := fun p hp => by
  rcases List.mem_append.mp hp with hp | hp
  · exact h1 p hp
  · rw [List.mem_singleton.mp hp]; exact h2.symm
theorem tree_spec {w : World} {A : Around} {s : Shared} {la : Addr} {items : Array Value} {Q E : Value → Shared → Prop} {mean : ExcName → Option Value} {mg mb : Str → Option Value}
    (X : (KK w.params).In s.heap) (T : TopV mean mg mb s.heap) (ok : Ok A 4) (hl : s.heap.IsList la items) (hi : ∀ (i : Nat) (v : Value), items[i]? = some v → ∃ k t, v = Value.int k t) (hz : items.size ≤ 40)
    (h : ∀ h' tk r ps seg, Kp s.heap h' → GoodT ps 200 50 → Made s.heap h' seg (.ref r) (Tr.rm ps).toD → Q (.ref r) { s with heap := h', toks := tk }) :
    wpAny (model pg w) A (call (.ref 218) [.ref la]) Q E s := by
  refine call_fn X T (by kernel_rfl : _ = some (obf218 w.params)) rfl (by kernel_rfl) ok.room (binds := [(Str.ofString "numbers", .ref la)]) rfl (locs rfl) (fun h₁ L F N hk => ?_)
  have ok' : Ok (A.deeper (envT L)) 3 := ok.deeper
  have e0 : Str.ofString "" = ⟨[].toArray⟩ := by decide +kernel
  k_steps
  rename_i r _ _ _ _ P _ lt1 h4 F4 N4
  rw [e0] at N4
  have hPr : @Ne Nat P r := Nat.ne_of_gt lt1
  refine For_invV s.heap rfl rfl ?_
  refine ld F4 rfl ?_
  refine iter_list (σ := Z) (fun _ => [(Str.ofString "path", .ref P), (Str.ofString "root", .ref r), (Str.ofString "numbers", .ref la)]) (fun i z news => z.Good (1 + 3 * i) i ∧ ZInv P r z news) ⟨[], [], []⟩ ok'.handled hl F4 N4 (by walk_at "names") ⟨.start, .root hPr⟩ ?_ ?_
  · rintro i v z u news₁ h' tk I oI hv ⟨hg, n, na, tl, seg, its, a, ps, t, rfl, hI, hZ, hN⟩ hne F₁ N₁
    obtain ⟨x, tx, rfl⟩ := hi i v hv
    have hi40 : i < 40 := Nat.lt_of_lt_of_le (Array.getElem?_eq_some_iff.mp hv).1 hz
    clear F4 N4
    obtain ⟨hPa, hP, ha⟩ := ndP hN
    have hPI : @Ne Nat P I := neN (hne _ (.head _))
    have haI : @Ne Nat a I := neN (hne _ (.tail _ (.head _)))
    obtain ⟨b1, b2, b3⟩ := hg.bounds
    refine tree_turn X T ok' hPI hPa haI (by rw [hZ.len]; omega) (by rw [hI.1]; omega) (by omega) (offI hP hPI) (offI ha haI) F₁ N₁ ?_ ?_ ?_
    · intro h'' tk' m' b t' t'' n' na' F' hm N' l1 l2 l3
      have l3' : ∀ p ∈ (seg ++ tl) ++ [(I, oI)], p.1 < b := kst_ltOf l3
      refine stepTo_next z.opn (_ :: _ :: _ :: (seg ++ tl)) F' N' ?_ hm ⟨hg.opn.mono (by omega) (by omega), ZInv.opn hI hZ hN ?_⟩
      · intro p hp
        rcases List.mem_cons.mp hp with rfl | hp
        · exact hPI
        · rcases List.mem_cons.mp hp with rfl | hp
          · exact Nat.ne_of_gt (l3' (I, oI) (List.mem_append.mpr (.inr (.head _))))
          · rcases List.mem_cons.mp hp with rfl | hp
            · exact haI
            · exact hne p (.tail _ (.tail _ hp))
      · intro p hp
        rcases List.mem_cons.mp hp with rfl | hp
        · exact Nat.ne_of_lt l1
        · rcases List.mem_cons.mp hp with rfl | hp
          · exact Nat.ne_of_lt l2
          · exact Nat.ne_of_lt (l3' p (List.mem_append.mpr (.inl hp)))
    · intro h'' tk' m' n' hps F' hm N'
      have hu : z.up ≠ [] := fun e => hps (List.length_eq_zero_iff.mp (by rw [hZ.len, e]; rfl))
      obtain ⟨nw, hz', hmem⟩ := ZInv.cls (n' := n') hI hZ hN hu
      refine stepTo_next z.cls nw F' (fun p hp => N' p ?_) (fun p hp => ?_) hm ⟨hg.cls.mono (by omega) (by omega), hz'⟩
      · rcases List.mem_append.mp hp with hp | hp
        · rcases List.mem_cons.mp ((hmem p).mp hp) with rfl | hp
          · exact .head _
          · rcases List.mem_cons.mp hp with rfl | hp
            · exact .tail _ (.head _)
            · exact .tail _ (.tail _ (List.mem_append_left _ hp))
        · exact .tail _ (.tail _ (List.mem_append_right _ hp))
      · rcases List.mem_cons.mp ((hmem p).mp hp) with rfl | hp
        · exact hPI
        · exact hne p (.tail _ hp)
    · intro h'' tk' m' c t' hc F' hm N'
      refine stepTo_next (z.add [c]) (_ :: _ :: (seg ++ tl)) F' N' ?_ hm ⟨(hg.add (c := [c]) (by simpa using hc)).mono (by simp; omega) (by omega), ZInv.add hI hZ hN⟩
      intro p hp
      rcases List.mem_cons.mp hp with rfl | hp
      · exact hPI
      · rcases List.mem_cons.mp hp with rfl | hp
        · exact haI
        · exact hne p (.tail _ (.tail _ hp))
  · rintro z u news₁ h' tk ⟨hg, n, na, tl, seg, its, a, ps, t, rfl, hI, hZ, hN⟩ F₁ N₁
    clear F4 N4
    obtain ⟨hPa, hP, ha⟩ := ndP hN
    obtain ⟨b1, b2, b3⟩ := hg.bounds
    have hpl : ps.length ≤ 1000 := by rw [hZ.len]; omega
    have hil : its.length ≤ 1000 := by rw [hI.1]; omega
    have hxl : z.last.length ≤ 1000 := by omega
    k_steps
    rename_i t6 _ _ _ F' N'
    have e6 : Str.ofString "(\t\\ \n\"" = ⟨[40, 9, 92, 32, 10, 34].toArray⟩ := by decide +kernel
    rw [e6, mk_append] at N'
    have hg' := hg.add (c := [40, 9, 92, 32, 10, 34]) (by decide)
    have hz' : ZInv P r (z.add [40, 9, 92, 32, 10, 34]) _ := ZInv.add (t' := t6) hI hZ hN
    have hgc := hg'.close
    refine h _ _ r _ _ F'.keep ⟨hgc.alt, Nat.le_trans hgc.size ?_, Nat.le_trans hgc.rmc (by omega), hgc.small⟩ ⟨fun p hp => ⟨(N' p hp).1, (N' p hp).2.2⟩, fun hh st => hz'.reads st⟩
    simp only [List.length_cons, List.length_nil]
    omega
noncomputable abbrev envR (L : Addr) : Env := envOf (Str.ofString "_law_read_remark") (fnS (stm 20)) L 261 (Value.ref 260)
theorem b41 (c : Nat) : ((⟨#[c]⟩ : Str) == Str.ofString ")") = (c == 41) := by
  have := mk_beq [c] [41]
  rw [show Str.ofString ")" = ⟨[41].toArray⟩ from by decide +kernel]
  rw [this]; by_cases q : c = 41 <;> simp [q]
theorem b92 (c : Nat) : ((⟨#[c]⟩ : Str) == Str.ofString "\\") = (c == 92) := by
  have := mk_beq [c] [92]
  rw [show Str.ofString "\\" = ⟨[92].toArray⟩ from by decide +kernel]
  rw [this]; by_cases q : c = 92 <;> simp [q]
theorem b40 (c : Nat) : ((⟨#[c]⟩ : Str) == Str.ofString "(") = (c == 40) := by
  have := mk_beq [c] [40]
  rw [show Str.ofString "(" = ⟨[40].toArray⟩ from by decide +kernel]
  rw [this]; by_cases q : c = 40 <;> simp [q]
theorem occ3 (c : Nat) : (Builtin.Str.occurrences (Str.ofString "()\\") ⟨#[c]⟩ 0 (Str.ofString "()\\").length 1).isEmpty = !(c == 40 || c == 41 || c == 92) := by
  rw [occ_one]
  congr 1
  have e : (Str.ofString "()\\").cps.toList = [40, 41, 92] := by decide +kernel
  rw [e]
  by_cases h1 : c = 40
  · simp [h1]
  · by_cases h2 : c = 41
    · simp [h2]
    · by_cases h3 : c = 92 <;> simp [h1, h2, h3]
noncomputable def rrAdd (g : Bool) (c : Nat) (e : Bool) : Bool := g || !(c == 40 || c == 41 || c == 92) || (c == 41 && e)
theorem len_emp (ps : List Value) (a : Addr) : (ps ++ [Value.ref a]).length = ps.length + 1 := by simp
theorem rr_turn {w : World} {A : Around} {s : Shared} {L P I a r : Addr} {oI : Obj} {u : Str → Option Value} {ch : Nat} {t t1 tx : Tok} {x : Str} {x1 : List Nat} {g : Bool} {ps its : List Value} {n na : Nat} {tl : List (Addr × Obj)} {h₀ : Heap} {Q : Flow → Shared → Prop} {mean : ExcName → Option Value} {mg mb : Str → Option Value}
    (X : (KK w.params).In h₀) (T : TopV mean mg mb h₀) (ok : Ok A 3) (hPI : @Ne Nat P I) (hPa : @Ne Nat P a) (haI : @Ne Nat a I) (hpl : ps.length ≤ 10000) (hil : its.length ≤ 10000) (hxl : x1.length ≤ 10000) (hP : ∀ p ∈ tl ++ [(I, oI)], p.1 ≠ P) (ha : ∀ p ∈ tl ++ [(I, oI)], p.1 ≠ a)
    (F : Fr h₀ L s.heap (fun y => if y = Str.ofString "sign" then some (.str ⟨#[ch]⟩ t) else kstB u [(Str.ofString "guarded", .bool g), (Str.ofString "path", .ref P), (Str.ofString "outer", .ref r), (Str.ofString "written", .str x tx)] y))
    (N : News h₀ L s.heap ((P, listOf (ps ++ [Value.ref a]).toArray n) :: (a, listOf (its ++ [Value.str ⟨x1.toArray⟩ t1]).toArray na) :: (tl ++ [(I, oI)])))
    (hA : ∀ h' tk m' t', rrAdd g ch ps.isEmpty = true → Fr h₀ L h' m' → (∀ p ∈ [(Str.ofString "guarded", Value.bool false), (Str.ofString "path", Value.ref P), (Str.ofString "outer", Value.ref r), (Str.ofString "written", Value.str x tx)], m' p.1 = some p.2) →
      News h₀ L h' ((P, listOf (ps ++ [Value.ref a]).toArray n) :: (a, listOf (its ++ [Value.str ⟨(x1 ++ [ch]).toArray⟩ t']).toArray na) :: (tl ++ [(I, oI)])) → Q .next { s with heap := h', toks := tk })
    (hG : ∀ h' tk m', rrAdd g ch ps.isEmpty = false → ch = 92 → Fr h₀ L h' m' → (∀ p ∈ [(Str.ofString "guarded", Value.bool true), (Str.ofString "path", Value.ref P), (Str.ofString "outer", Value.ref r), (Str.ofString "written", Value.str x tx)], m' p.1 = some p.2) →
      News h₀ L h' ((P, listOf (ps ++ [Value.ref a]).toArray n) :: (a, listOf (its ++ [Value.str ⟨x1.toArray⟩ t1]).toArray na) :: (tl ++ [(I, oI)])) → Q .next { s with heap := h', toks := tk })
    (hO : ∀ h' tk m' b t' t'' n' na', rrAdd g ch ps.isEmpty = false → ch = 40 → Fr h₀ L h' m' → (∀ p ∈ [(Str.ofString "guarded", Value.bool g), (Str.ofString "path", Value.ref P), (Str.ofString "outer", Value.ref r), (Str.ofString "written", Value.str x tx)], m' p.1 = some p.2) →
      News h₀ L h' ((P, listOf ((ps ++ [Value.ref a]) ++ [Value.ref b]).toArray n') :: (b, listOf #[Value.str ⟨[].toArray⟩ t'] 0) :: (a, listOf (((its ++ [Value.str ⟨x1.toArray⟩ t1]) ++ [Value.ref b]) ++ [Value.str ⟨[].toArray⟩ t'']).toArray na') :: (tl ++ [(I, oI)])) →
      @LT.lt Nat _ P b → @LT.lt Nat _ a b → AllLt b (tl ++ [(I, oI)]) → Q .next { s with heap := h', toks := tk })
    (hC : ∀ h' tk m' n', rrAdd g ch ps.isEmpty = false → ch = 41 → ps ≠ [] → Fr h₀ L h' m' → (∀ p ∈ [(Str.ofString "guarded", Value.bool g), (Str.ofString "path", Value.ref P), (Str.ofString "outer", Value.ref r), (Str.ofString "written", Value.str x tx)], m' p.1 = some p.2) →
      News h₀ L h' ((P, listOf ps.toArray n') :: (a, listOf (its ++ [Value.str ⟨x1.toArray⟩ t1]).toArray na) :: (tl ++ [(I, oI)])) → Q .next { s with heap := h', toks := tk }) :
    wpAny (model pg w) A (execs (match (fnB (stm 20)).getD 3 (.Pass ⟨0,0,0,0⟩) with | .For _ _ b _ _ => b | _ => []) (envR L)) Q (fun _ _ => False) s := by
  have e0 : Str.ofString "" = ⟨[].toArray⟩ := by decide +kernel
  have ea : (⟨x1.toArray⟩ : Str) ++ (⟨#[ch]⟩ : Str) = ⟨(x1 ++ [ch]).toArray⟩ := mk_append x1 [ch]
  have emp : ps.isEmpty = decide (((ps ++ [Value.ref a]).length : Int) = 1) := by
    rw [len_emp]
    cases ps with
    | nil => rfl
    | cons v vs =>
      have : ¬ (((v :: vs).length + 1 : Nat) : Int) = 1 := by simp only [List.length_cons]; omega
      rw [decide_eq_false this]; rfl
  have nemp : ¬ ((ps ++ [Value.ref a]).length : Int) = 1 → ps ≠ [] := fun h e => h (by rw [e]; rfl)
  k_steps
  all_goals (rename Fr _ _ _ _ => F')
  all_goals (rename News _ _ _ _ => N')
  all_goals (try rw [e0] at N')
  all_goals (try rw [ea] at N')
  all_goals (try simp only [List.push_toArray] at N')
  all_goals (rename g = _ => hg)
  all_goals (try rw [b41] at *)
  all_goals (try rw [b92] at *)
  all_goals (try rw [b40] at *)
  all_goals (try rw [occ3] at *)
  all_goals (try (rename (ch == 41) = _ => h41))
  all_goals (try (rename (ch == 92) = _ => h92))
  all_goals (try (rename (ch == 40) = _ => h40))
  all_goals (try (rename (!(ch == 40 || ch == 41 || ch == 92)) = _ => ho))
  · exact hA _ _ _ _ (by rw [hg]; rfl) F' (by walk_at "names") N'
  · exact hA _ _ _ _ (by unfold rrAdd; rw [ho]; simp) F' (by walk_at "names") N'
  · rename ((ps ++ [Value.ref a]).length : Int) = 1 => h2
    exact hA _ _ _ _ (by unfold rrAdd; rw [h41, emp, decide_eq_true h2]; simp) F' (by walk_at "names") N'
  · exact absurd ((beq_iff_eq.mp h41).symm.trans (beq_iff_eq.mp h92)) (by decide)
  · exact absurd ((beq_iff_eq.mp h41).symm.trans (beq_iff_eq.mp h40)) (by decide)
  · rename ((ps ++ [Value.ref a]).length : Int) ≠ 1 => h2
    exact hC _ _ _ _ (by unfold rrAdd; rw [hg, ho, emp, decide_eq_false h2]; simp) (beq_iff_eq.mp h41) (nemp h2) F' (by walk_at "names") N'
  · exact hG _ _ _ (by unfold rrAdd; rw [hg, ho, h41]; simp) (beq_iff_eq.mp h92) F' (by walk_at "names") N'
  · rename _ ∧ _ => l1
    exact hO _ _ _ _ _ _ _ _ (by unfold rrAdd; rw [hg, ho, h41]; simp) (beq_iff_eq.mp h40) F' (by walk_at "names") (pull1 N') l1.1 l1.2.1 l1.2.2
  · rw [h41, h92, h40] at ho
    cases ho
noncomputable def rrStep (st : Z × Bool) (c : Nat) : Z × Bool :=
  if rrAdd st.2 c st.1.up.isEmpty then (st.1.add [c], false) else if c = 92 then (st.1, true) else if c = 40 then (st.1.opn, st.2) else (st.1.cls, st.2)
noncomputable def rrRun (l : List Nat) (st : Z × Bool) : Z × Bool := l.foldl rrStep st
theorem rr_succ {x : Str} {i c : Nat} (h : x.cps[i]? = some c) (st : Z × Bool) : rrRun (x.cps.toList.take (i + 1)) st = rrStep (rrRun (x.cps.toList.take i) st) c := by
  rw [take_succ_cps h]
  unfold rrRun
  rw [List.foldl_append]
  rfl
theorem Zip.emp {r a : Addr} {tl : List (Addr × Obj)} {ps : List Value} {fs : List (List Tr)} (z : Zip r tl ps a fs) : ps.isEmpty = fs.isEmpty := by
  have := z.len
  cases ps <;> cases fs <;> simp at this ⊢
theorem read_remark {w : World} {A : Around} {s : Shared} {x : Str} {tx : Tok} {Q E : Value → Shared → Prop} {mean : ExcName → Option Value} {mg mb : Str → Option Value}
    (X : (KK w.params).In s.heap) (T : TopV mean mg mb s.heap) (ok : Ok A 4) (hx : x.length ≤ 1000) (hc : ∀ c ∈ x.cps.toList, c < 55296)
    (h : ∀ h' tk v seg, Kp s.heap h' → Made s.heap h' seg v (.list [(Tr.rm (rrRun x.cps.toList (⟨[], [], []⟩, false)).1.close).toD, .int ((rrRun x.cps.toList (⟨[], [], []⟩, false)).1.up.length + 1 : Nat), .bool (rrRun x.cps.toList (⟨[], [], []⟩, false)).2]) → Q v { s with heap := h', toks := tk }) :
    wpAny (model pg w) A (call (.ref 261) [.str x tx]) Q E s := by
  refine call_fn X T (by kernel_rfl : _ = some (obf261 w.params)) rfl (by kernel_rfl) ok.room (binds := [(Str.ofString "written", .str x tx)]) rfl (locs rfl) (fun h₁ L F N hk => ?_)
  have ok' : Ok (A.deeper (envR L)) 3 := ok.deeper
  have e0 : Str.ofString "" = ⟨[].toArray⟩ := by decide +kernel
  k_steps
  rename_i r _ _ _ _ P _ lt1 h4 h5 F4 N4
  rw [e0] at N4
  have hPr : @Ne Nat P r := Nat.ne_of_gt lt1
  refine For_invV s.heap rfl rfl ?_
  refine ld F4 rfl ?_
  refine iter_str (σ := Z × Bool) (fun st => [(Str.ofString "guarded", .bool st.2), (Str.ofString "path", .ref P), (Str.ofString "outer", .ref r), (Str.ofString "written", .str x tx)])
    (fun i st news => st.1.Good (1 + 3 * i) i ∧ ZInv P r st.1 news ∧ rrRun (x.cps.toList.take i) (⟨[], [], []⟩, false) = st) (⟨[], [], []⟩, false) ok'.handled F4 N4 (by walk_at "names") ⟨.start, .root hPr, rfl⟩ ?_ ?_
  · rintro i ch t ⟨z, g⟩ u news₁ h' tk I oI hch ⟨hg, ⟨n, na, tl, seg, its, a, ps, t1, rfl, hI, hZ, hN⟩, hrun⟩ hne F₁ N₁
    dsimp only at hg hI hZ hN hne F₁ N₁
    have hi : i < 1000 := Nat.lt_of_lt_of_le (Array.getElem?_eq_some_iff.mp hch).1 hx
    have hcs : ch < 55296 := hc ch (by rw [← Array.getElem?_toList] at hch; exact List.mem_of_getElem? hch)
    clear F4 N4
    obtain ⟨hPa, hP, ha⟩ := ndP hN
    have hPI : @Ne Nat P I := neN (hne _ (.head _))
    have haI : @Ne Nat a I := neN (hne _ (.tail _ (.head _)))
    obtain ⟨b1, b2, b3⟩ := hg.bounds
    have hnx := rr_succ hch (⟨[], [], []⟩, false)
    rw [hrun] at hnx
    refine rr_turn X T ok' hPI hPa haI (by rw [hZ.len]; omega) (by rw [hI.1]; omega) (by omega) (offI hP hPI) (offI ha haI) F₁ N₁ ?_ ?_ ?_ ?_
    · intro h'' tk' m' t' hk F' hm N'
      rw [hZ.emp] at hk
      refine stepTo_next (z.add [ch], false) (_ :: _ :: (seg ++ tl)) F' N' ?_ hm ⟨(hg.add (c := [ch]) (by simpa using hcs)).mono (by simp; omega) (by omega), ZInv.add hI hZ hN, ?_⟩
      · intro p hp
        rcases List.mem_cons.mp hp with rfl | hp
        · exact hPI
        · rcases List.mem_cons.mp hp with rfl | hp
          · exact haI
          · exact hne p (.tail _ (.tail _ hp))
      · rw [hnx]; unfold rrStep; rw [if_pos hk]
    · intro h'' tk' m' hk h92 F' hm N'
      rw [hZ.emp] at hk
      refine stepTo_next (z, true) (_ :: _ :: (seg ++ tl)) F' N' hne hm ⟨hg.mono (by omega) (by omega), ⟨n, na, tl, seg, its, a, ps, t1, rfl, hI, hZ, hN⟩, ?_⟩
      rw [hnx]; unfold rrStep; rw [if_neg (by rw [hk]; exact Bool.false_ne_true), if_pos h92]
    · intro h'' tk' m' b t' t'' n' na' hk h40 F' hm N' l1 l2 l3
      rw [hZ.emp] at hk
      have l3' : ∀ p ∈ (seg ++ tl) ++ [(I, oI)], p.1 < b := kst_ltOf l3
      refine stepTo_next (z.opn, g) (_ :: _ :: _ :: (seg ++ tl)) F' N' ?_ hm ⟨hg.opn.mono (by omega) (by omega), ZInv.opn hI hZ hN ?_, ?_⟩
      · intro p hp
        rcases List.mem_cons.mp hp with rfl | hp
        · exact hPI
        · rcases List.mem_cons.mp hp with rfl | hp
          · exact Nat.ne_of_gt (l3' (I, oI) (List.mem_append.mpr (.inr (.head _))))
          · rcases List.mem_cons.mp hp with rfl | hp
            · exact haI
            · exact hne p (.tail _ (.tail _ hp))
      · intro p hp
        rcases List.mem_cons.mp hp with rfl | hp
        · exact Nat.ne_of_lt l1
        · rcases List.mem_cons.mp hp with rfl | hp
          · exact Nat.ne_of_lt l2
          · exact Nat.ne_of_lt (l3' p (List.mem_append.mpr (.inl hp)))
      · rw [hnx]; unfold rrStep; rw [if_neg (by rw [hk]; exact Bool.false_ne_true), if_neg (by rw [h40]; decide), if_pos h40]
    · intro h'' tk' m' n' hk h41 hps F' hm N'
      rw [hZ.emp] at hk
      have hu : z.up ≠ [] := fun e => hps (List.length_eq_zero_iff.mp (by rw [hZ.len, e]; rfl))
      obtain ⟨nw, hz', hmem⟩ := ZInv.cls (n' := n') hI hZ hN hu
      refine stepTo_next (z.cls, g) nw F' (fun p hp => N' p ?_) (fun p hp => ?_) hm ⟨hg.cls.mono (by omega) (by omega), hz', ?_⟩
      · rcases List.mem_append.mp hp with hp | hp
        · rcases List.mem_cons.mp ((hmem p).mp hp) with rfl | hp
          · exact .head _
          · rcases List.mem_cons.mp hp with rfl | hp
            · exact .tail _ (.head _)
            · exact .tail _ (.tail _ (List.mem_append_left _ hp))
        · exact .tail _ (.tail _ (List.mem_append_right _ hp))
      · rcases List.mem_cons.mp ((hmem p).mp hp) with rfl | hp
        · exact hPI
        · exact hne p (.tail _ hp)
      · rw [hnx]; unfold rrStep; rw [if_neg (by rw [hk]; exact Bool.false_ne_true), if_neg (by rw [h41]; decide), if_neg (by rw [h41]; decide)]
  · rintro ⟨z, g⟩ u news₁ h' tk ⟨hg, ⟨n, na, tl, seg, its, a, ps, t1, rfl, hI, hZ, hN⟩, hrun⟩ F₁ N₁
    dsimp only at hg hI hZ hN F₁ N₁
    clear F4 N4
    have hall : x.cps.toList.take x.cps.size = x.cps.toList := List.take_of_length_le (by rw [Array.length_toList]; exact Nat.le_refl _)
    rw [hall] at hrun
    rw [hrun] at h
    have hsz : x.cps.size ≤ 1000 := hx
    obtain ⟨hPa, hP, ha⟩ := ndP hN
    obtain ⟨b1, b2, b3⟩ := hg.bounds
    have hpl : ps.length ≤ 10000 := by rw [hZ.len]; omega
    k_steps
    rename_i D h6 F' N' _
    have hz' : ZInv P r z _ := ⟨n, na, tl, seg, its, a, ps, t1, rfl, hI, hZ, hN⟩
    have e : (ps ++ [Value.ref a]).length = z.up.length + 1 := by rw [List.length_append, hZ.len]; rfl
    refine h _ _ _ _ F'.keep ⟨fun p hp => ⟨(N' p hp).1, (N' p hp).2.2⟩, fun hh st => ?_⟩
    obtain ⟨as, has⟩ := hz'.reads (h := hh) (st.sub fun p hp => .tail _ hp)
    have rl := Reads.list (st _ (.head _)) rfl rfl (.cons has (.cons (.int _ _) (.cons (.bool _) .nil)))
    rw [e] at rl
    exact ⟨_, rl⟩
end Mine
end

section
set_option maxRecDepth 100000
set_option linter.unusedVariables false
set_option maxHeartbeats 0
namespace Mine
open PySem PySem.W PySem.Calls PyProof.Rows PySem.Spec
/-- a value that reads as a tree -/
noncomputable def RdT (h : Heap) (v : Value) (t : Tr) : Prop := ∃ as, Reads h v t.toD as
theorem RdT.keeps {h h' : Heap} {v : Value} {t : Tr} (x : RdT h v t) (k : Kp h h') : RdT h' v t := let ⟨as, r⟩ := x; ⟨as, Reads.keeps k r⟩
theorem rdAll {h : Heap} : ∀ {vs : List Value} {ps : List Tr} {as : List Addr}, ReadsAll h vs (ps.map Tr.toD) as → F2 (RdT h) vs ps
  | _, [], _, .nil => .nil
  | _, _ :: _, _, .cons a b => .cons ⟨_, a⟩ (rdAll b)
theorem rdAll' {h : Heap} : ∀ {vs : List Value} {ps : List Tr}, F2 (RdT h) vs ps → ∃ as, ReadsAll h vs (ps.map Tr.toD) as
  | _, _, .nil => ⟨_, .nil⟩
  | _, _, .cons ⟨_, a⟩ b => let ⟨_, c⟩ := rdAll' b; ⟨_, .cons a c⟩
theorem RdT.tx {h : Heap} {v : Value} {l : List Nat} (x : RdT h v (.tx l)) : ∃ t, v = .str ⟨l.toArray⟩ t := by
  obtain ⟨as, r⟩ := x
  rw [toD_tx] at r
  cases r with
  | str _ t => exact ⟨t, rfl⟩
theorem RdT.rm {h : Heap} {v : Value} {ps : List Tr} (x : RdT h v (.rm ps)) : ∃ b vs, v = .ref b ∧ h.IsList b vs ∧ F2 (RdT h) vs.toList ps := by
  obtain ⟨as, r⟩ := x
  rw [toD_rm] at r
  cases r with
  | @list a o vs n xs as h1 h2 h3 h4 => exact ⟨a, vs, rfl, ⟨o, h1, h2, n, h3⟩, rdAll h4⟩
theorem RdT.mk {h : Heap} {b : Addr} {vs : List Value} {n : Nat} {ps : List Tr} (h1 : h.get? b = some (listOf vs.toArray n)) (x : F2 (RdT h) vs ps) : RdT h (.ref b) (.rm ps) := by
  obtain ⟨as, ha⟩ := rdAll' x
  exact ⟨_, by rw [toD_rm]; exact .list h1 rfl rfl (by simpa using ha)⟩
theorem RdT.str {h : Heap} (l : List Nat) (t : Tok) : RdT h (.str ⟨l.toArray⟩ t) (.tx l) := ⟨_, by rw [toD_tx]; exact .str _ _⟩
theorem mem_sum {f : Tr → Nat} : ∀ {ps : List Tr} {t : Tr}, t ∈ ps → f t ≤ (ps.map f).sum
  | p :: ps, t, h => by
    rw [List.map_cons, List.sum_cons]
    rcases List.mem_cons.mp h with rfl | h
    · exact Nat.le_add_right _ _
    · exact Nat.le_trans (mem_sum h) (Nat.le_add_left _ _)
theorem get_mem {ps : List Tr} {i : Nat} {t : Tr} (h : ps[i]? = some t) : t ∈ ps := List.mem_of_getElem? h
theorem len_size (ps : List Tr) : ps.length ≤ (ps.map Tr.size).sum := by
  induction ps with
  | nil => exact Nat.le_refl _
  | cons t l ih =>
    have : 1 ≤ t.size := by
      cases t with
      | tx l => rw [size_tx]; omega
      | rm ps => rw [size_rm]; omega
    simp only [List.map_cons, List.sum_cons, List.length_cons]
    omega
theorem texts_le : ∀ t : Tr, t.texts.length + t.texts.flatten.length ≤ t.size := by
  refine Tr.ind (fun l => ?_) fun ps ih => ?_
  · rw [texts_tx, size_tx]; simp; omega
  · rw [texts_rm, size_rm]
    have : (ps.map Tr.texts).flatten.length + (ps.map Tr.texts).flatten.flatten.length ≤ (ps.map Tr.size).sum := by
      induction ps with
      | nil => simp
      | cons p ps ih2 =>
        have h1 := ih p (.head _)
        have h2 := ih2 fun q hq => ih q (.tail _ hq)
        simp only [List.map_cons, List.flatten_cons, List.sum_cons, List.length_append, List.flatten_append]
        omega
    omega
theorem text_len {t : Tr} {l : List Nat} (h : l ∈ t.texts) : l.length ≤ t.size := by
  have h1 := texts_le t
  have h2 : l.length ≤ t.texts.flatten.length := by
    obtain ⟨a, b, e⟩ := List.append_of_mem h
    rw [e]; simp; omega
  omega
theorem take_get {α β : Type} (f : α → List β) {ps : List α} {i : Nat} {t : α} (h : ps[i]? = some t) : ((ps.take (i + 1)).map f).flatten = ((ps.take i).map f).flatten ++ f t := by
  rw [List.take_add_one, h]; simp
theorem take_le {α β : Type} (f : α → List β) (ps : List α) (i : Nat) : ((ps.take i).map f).flatten.length ≤ (ps.map f).flatten.length := by
  have e : ps.map f = (ps.take i).map f ++ (ps.drop i).map f := by rw [← List.map_append, List.take_append_drop]
  rw [e, List.flatten_append, List.length_append]
  exact Nat.le_add_right _ _
section
variable {prog : Program} {w : World} {A : Around} {E : Value → Shared → Prop} {s : Shared} {h₀ : Heap} {L : Addr} {m : Str → Option Value}
theorem isi_list {b : Addr} {its : Array Value} {Q : Value → Shared → Prop} (F : Fr h₀ L s.heap m) (hb : h₀.IsList b its) (h : Q (.bool true) s) : wpAny (model prog w) A (call (.builtin "isinstance") [.ref b, .type "list"]) Q E s :=
  call_isinstance_yes (F.lst hb).typeIs PySem.F.isi_meta_list PySem.F.isi_self_list h
end
end Mine
end

section
set_option maxRecDepth 100000
set_option linter.unusedVariables false
set_option maxHeartbeats 0
set_option Elab.async false
namespace Mine
open PySem PySem.W PySem.Calls PyProof.Rows PySem.Spec
local macro_rules | `(tactic| walk_at "names") => `(tactic| repeat' (first | exact List.forall_mem_nil _ | refine List.forall_mem_cons.2 ⟨?_, ?_⟩ | rfl))
local macro_rules | `(tactic| size_fits) => `(tactic| (simp only [PySem.Str.length_append, len_one, len_item, len_mk, List.size_toArray, Array.size_append, List.length_append, List.length_cons, List.length_nil, PySem.sizeLine_eq]; omega))
local macro_rules | `(tactic| k_all) => `(tactic| with_reducible assumption)
local macro_rules | `(tactic| walk_at "call builtin:isinstance") => `(tactic| (k_here; (with_reducible show wpAny _ _ (call (Value.builtin "isinstance") [Value.ref _, Value.type "list"]) _ _ _); k_dflt (refine' isi_list ?F ?b ?_; (case F => k_asm); (case b => k_asm); k_whole)))
noncomputable def TextsAt (w : World) (n : Nat) : Prop := ∀ (A : Around) (s : Shared) (a : Addr) (ps : List Tr) (Q E : Value → Shared → Prop) (mean : ExcName → Option Value) (mg mb : Str → Option Value), (KK w.params).In s.heap → TopV mean mg mb s.heap → Ok A (n + 2) →
  RdT s.heap (.ref a) (.rm ps) → (Tr.rm ps).rmc ≤ n → (Tr.rm ps).size ≤ 1000 →
  (∀ h' tk D vs k, Kp s.heap h' → h'.get? D = some (listOf vs.toArray k) → s.heap.get? D = none → F2 StrIs vs (Tr.rm ps).texts → Q (.ref D) { s with heap := h', toks := tk }) → wpAny (model pg w) A (call (.ref 242) [.ref a]) Q E s
section
variable {w : World} {A : Around} {E : Value → Shared → Prop} {s : Shared} {h₀ : Heap} {L b : Addr} {m : Str → Option Value} {news : List (Addr × Obj)}
theorem texts_F {n : Nat} {qs : List Tr} {Q : Value → Shared → Prop} {mean : ExcName → Option Value} {mg mb : Str → Option Value} (ih : TextsAt w n) (F : Fr h₀ L s.heap m) (N : News h₀ L s.heap news) (X : (KK w.params).In h₀) (T : TopV mean mg mb h₀) (ok : Ok A (n + 2))
    (hr : RdT h₀ (.ref b) (.rm qs)) (hc : (Tr.rm qs).rmc ≤ n) (hz : (Tr.rm qs).size ≤ 1000)
    (h : ∀ h' tk D vs k, Fr h₀ L h' m → News h₀ L h' ((D, listOf vs.toArray k) :: news) → (∀ p ∈ news, p.1 ≠ D) → F2 StrIs vs (Tr.rm qs).texts → Q (.ref D) { s with heap := h', toks := tk }) : wpAny (model pg w) A (call (.ref 242) [.ref b]) Q E s :=
  ih A s b qs Q E mean mg mb (X.keeps F.keep) (T.keeps F.keep) ok (hr.keeps F.keep) hc hz fun h' tk D vs k hk hD hn hv => h h' tk D vs k (frK F hk) (newsNew F (nwK N hk) hD hn) (newNe N hn) hv
end
noncomputable abbrev envX (L : Addr) : Env := envOf (Str.ofString "_law_texts") (fnS (stm 17)) L 242 (Value.ref 241)
theorem texts_all (w : World) : ∀ n, TextsAt w n
  | 0 => fun A s a ps Q E mean mg mb X T ok hr hc hz h => by rw [rmc_rm] at hc; omega
  | n + 1 => fun A s a ps Q E mean mg mb X T ok hr hc hz h => by
    have ih := texts_all w n
    refine call_fn X T (by kernel_rfl : _ = some (obf242 w.params)) rfl (by kernel_rfl) ok.room (binds := [(Str.ofString "tree", .ref a)]) rfl (locs rfl) (fun h₁ L F N hk => ?_)
    have ok' : Ok (A.deeper (envX L)) (n + 2) := ok.deeper
    obtain ⟨a', items, e, hl, hit⟩ := hr.rm
    cases e
    rw [rmc_rm] at hc
    rw [size_rm] at hz
    have hit_len := hit.length
    have hsz := len_size ps
    have htl := texts_le (.rm ps)
    rw [texts_rm, size_rm] at htl
    k_steps
    rename_i D0 _ _ _ F4 N4
    refine For_invV s.heap rfl rfl ?_
    refine ld F4 rfl ?_
    refine iter_list (σ := List Value × Nat) (fun _ => [(Str.ofString "texts", .ref D0), (Str.ofString "tree", .ref a)]) (fun i c news => news = [(D0, listOf c.1.toArray c.2)] ∧ F2 StrIs c.1 ((ps.take i).map Tr.texts).flatten) ([], 0) ok'.handled hl F4 N4 (by walk_at "names") ⟨rfl, .nil⟩ ?_ ?_
    · rintro i v ⟨vs, k⟩ u news₁ h' tk I oI hv ⟨rfl, hvs⟩ hne F₁ N₁
      dsimp only at hvs hne F₁ N₁
      obtain ⟨t, ht, hrd⟩ := hit.get (by simpa using hv : items.toList[i]? = some v)
      have htk := take_get Tr.texts ht
      have hvl : vs.length ≤ 1000 := by rw [hvs.length]; have := take_le Tr.texts ps i; omega
      have hDI : @Ne Nat D0 I := neN (hne _ (.head _))
      have h1 := mem_sum (f := Tr.rmc) (get_mem ht)
      have h2 := mem_sum (f := Tr.size) (get_mem ht)
      replace N₁ : News s.heap (envX L).locals h' [(D0, listOf vs.toArray k), (I, oI)] := N₁
      clear F4 N4
      cases t with
      | tx l =>
        obtain ⟨tl, rfl⟩ := hrd.tx
        k_steps
        rename Fr _ _ _ _ => F'
        rename News _ _ _ _ => N'
        rw [List.push_toArray] at N'
        refine stepTo_next (vs ++ [.str ⟨l.toArray⟩ tl], k + 1) [_] F' N' (List.forall_mem_cons.2 ⟨hDI, List.forall_mem_nil _⟩) (by walk_at "names") ⟨rfl, ?_⟩
        rw [htk, texts_tx]
        exact hvs.snoc ⟨tl, rfl⟩
      | rm qs =>
        obtain ⟨b, its, rfl, hb, _⟩ := hrd.rm
        have hcq : (Tr.rm qs).rmc ≤ n := by omega
        have hzq : (Tr.rm qs).size ≤ 1000 := by omega
        have hzt := texts_le (.rm qs)
        k_steps
        refine texts_F ih F₁ N₁ X T ok' hrd hcq hzq fun h2 tk2 D2 vs2 k2 F2' N2' nD hv2 => ?_
        have hv2l : vs2.length ≤ 1000 := by rw [hv2.length]; omega
        clear F₁ N₁
        have nD1 : @Ne Nat D0 D2 := neN (nD _ (.head _))
        k_steps
        refine extend_in (own := [(D2, listOf vs2.toArray k2)]) (rest := [(I, oI)]) F2' N2' (List.forall_mem_cons.2 ⟨nD1.symm, List.forall_mem_nil _⟩) (List.forall_mem_cons.2 ⟨hDI.symm, List.forall_mem_nil _⟩) (N2' _ (.head _)).1 ?_ (hsz := by size_fits)
        intro h3 n3 F3 N3
        clear F2' N2'
        k_steps
        refine stepTo_next (vs ++ vs2, n3) [_] F3 (fun p hp => N3 p (.tail _ hp)) (List.forall_mem_cons.2 ⟨hDI, List.forall_mem_nil _⟩) (by walk_at "names") ⟨by simp, ?_⟩
        rw [htk]
        exact hvs.append hv2
    · rintro ⟨vs, k⟩ u news₁ h' tk ⟨rfl, hvs⟩ F₁ N₁
      clear F4 N4
      k_steps
      have e : items.size = ps.length := by rw [← hit_len, Array.length_toList]
      rw [e, List.take_length, ← texts_rm] at hvs
      exact h _ _ _ _ _ F₁.keep (N₁ _ (.head _)).1 (N₁ _ (.head _)).2.2 hvs
open PySem PySem.W PySem.Calls PyProof.Rows PySem.Spec PyProof.Rows.LCg
noncomputable def ItemsD (seg : List (Addr × Obj)) (its : List Value) (ds : List PyData) : Prop := its.length = ds.length ∧ ∀ h : Heap, Stand h seg → ∃ as, ReadsAll h its ds as
theorem ItemsD.nil (seg : List (Addr × Obj)) : ItemsD seg [] [] := ⟨rfl, fun _ _ => ⟨_, .nil⟩⟩
theorem ItemsD.snoc {seg seg' : List (Addr × Obj)} {its : List Value} {ds : List PyData} {v : Value} {d : PyData} (h : ItemsD seg its ds) (hs : ∀ p ∈ seg, p ∈ seg') (hv : ∀ h : Heap, Stand h seg' → ∃ as, Reads h v d as) : ItemsD seg' (its ++ [v]) (ds ++ [d]) := by
  refine ⟨by simp [h.1], fun hh st => ?_⟩
  obtain ⟨as, ha⟩ := h.2 hh (st.sub hs)
  obtain ⟨bs, hb⟩ := hv hh st
  exact readsAll_append ha (.cons hb .nil)
theorem ItemsD.list {seg : List (Addr × Obj)} {its : List Value} {ds : List PyData} {h : Heap} {D : Addr} {n : Nat} (x : ItemsD seg its ds) (st : Stand h seg) (hD : h.get? D = some (listOf its.toArray n)) : ∃ as, Reads h (.ref D) (.list ds) as := by
  obtain ⟨as, ha⟩ := x.2 h st
  exact ⟨_, .list hD rfl rfl (by simpa using ha)⟩
theorem readsStrs {h : Heap} {vs : List Value} {ls : List (List Nat)} {as : List Addr} (r : ReadsAll h vs (ls.map fun l => PyData.str ⟨l.toArray⟩) as) : F2 StrIs vs ls := by
  induction ls generalizing vs as with
  | nil => cases r; exact .nil
  | cons l ls ih =>
    cases r with
    | cons a b =>
      cases a with
      | str _ t => exact .cons ⟨t, rfl⟩ (ih b)
theorem strsReads {h : Heap} : ∀ {vs : List Value} {ls : List (List Nat)}, F2 StrIs vs ls → ∃ as, ReadsAll h vs (ls.map fun l => PyData.str ⟨l.toArray⟩) as
  | _, _, .nil => ⟨_, .nil⟩
  | _, _, .cons ⟨t, e⟩ b => by
    obtain ⟨as, ha⟩ := strsReads (h := h) b
    subst e
    exact ⟨_, .cons (.str _ _) ha⟩
theorem readsInts {h : Heap} {vs : List Value} {ks : List Int} {as : List Addr} (r : ReadsAll h vs (ks.map PyData.int) as) : IntsAre vs ks := by
  induction ks generalizing vs as with
  | nil => cases r; exact .nil
  | cons l ls ih =>
    cases r with
    | cons a b =>
      cases a with
      | int _ t => exact .cons _ t (ih b)
/-- how the element's evaluation ends -/
noncomputable def ElEnd (h₀ : Heap) (L : Addr) (m : Str → Option Value) (s' : Shared) (nw : List (Addr × Obj)) (d : PyData) (y : Value) (s₂ : Shared) : Prop :=
  ∃ h' tk' seg, s₂ = { s' with heap := h', toks := tk' } ∧ Fr h₀ L h' m ∧ News h₀ L h' (seg ++ nw) ∧ (∀ p ∈ seg, ∀ q ∈ nw, q.1 ≠ p.1) ∧ ∀ h : Heap, Stand h seg → ∃ as, Reads h y d as
section
variable {prog : Program} {w : World} {A : Around} {E : Value → Shared → Prop} {s : Shared} {h₀ : Heap} {L : Addr} {m : Str → Option Value} {env : Env}
theorem comp_data {elt iter : Expr} {x : Str} {px : Pos} {scope : Scope} {cl : List (Str × Addr)} {pos : Pos} {Q : Value → Shared → Prop} (ds : List PyData) (F₀ : Fr h₀ L s.heap m)
    (hclos : closureFor scope env = pure cl) (hcell : ∀ y ∈ scope.names, y.2 ≠ .cell) (hkind : scope.kind = .function)
    (hnames : ∀ y ∈ scope.names, y.2 = .local → scope.names.lookup y.1 = some .local) (hx : scope.names.lookup x = some .local) (hh : A.handled = none)
    (h : wpAny (model prog w) A (eval iter env) (fun xv s₁ => ∃ ax its news, xv = .ref ax ∧ Fr h₀ L s₁.heap m ∧ News h₀ L s₁.heap news ∧ SrcAt h₀ ax its news ∧ its.size ≤ sizeLine ∧ its.size = ds.length ∧
      (∀ (i : Nat) v d C oC m₂ h tk (E' : Value → Shared → Prop) nw, its[i]? = some v → ds[i]? = some d → NsObj oC m₂ → m₂ x = some v → Fr h₀ L h m → News h₀ L h ((C, oC) :: nw) → (∀ p ∈ news, p ∈ nw) →
        wpAny (model prog w) A (eval elt (compEnvC scope cl C env)) (ElEnd h₀ L m s₁ ((C, oC) :: nw) d) E' { s₁ with heap := h, toks := tk }) ∧
      (∀ D h tk ys own, Fr h₀ L h m → News h₀ L h ((D, lst ys) :: (own ++ news)) → Off1 D (own ++ news) → ItemsD own ys ds → Q (.ref D) { s₁ with heap := h, toks := tk })) E s)
    (hs : ∀ x, foldedSetIterable iter env x = pure x := by intro _; rfl) :
    wpAny (model prog w) A (eval (.ListComp elt [⟨.Name x px, iter, [], 0⟩] scope pos) env) Q E s := by
  refine ListComp_U F₀ hclos hcell hkind hnames hx (wpAny_mono h (fun xv s₁ h₁ => ?_) fun _ _ e => e) hs
  obtain ⟨ax, its, news, rfl, F, N, hsrc, hsz, hlen, turn, fin⟩ := h₁
  refine .inl ⟨ax, its, news, rfl, hh, F, N, hsrc, hsz, ?_⟩
  rintro s₂ ⟨g, rfl⟩
  refine rest_inv (fun i ys nw => ∃ own, nw = own ++ news ∧ ItemsD own ys (ds.take i)) (n := its.size) ?_ ?_ its.size 0 [] news (Nat.zero_add _) ⟨[], rfl, .nil _⟩
  · rintro i ys nw v I oI C oC D m₂ h' tk E' hi ⟨own, rfl, hit⟩ hv hC hm F₁ N₁ off ne
    obtain ⟨d, hd⟩ : ∃ d, ds[i]? = some d := ⟨_, List.getElem?_eq_getElem (hlen ▸ hi)⟩
    have N₂ : News h₀ L h' ((C, oC) :: (I, oI) :: (D, lst ys) :: (own ++ news)) := pull1 N₁
    refine wpAny_mono (turn i v d C oC m₂ h' tk E' _ hv hd hC hm F₁ N₂ fun p hp => .tail _ (.tail _ (List.mem_append_right _ hp))) (fun y s₃ z => ?_) fun _ _ e => e
    obtain ⟨h₃, tk₃, seg, rfl, F₃, N₃, hoff, hr⟩ := z
    refine ⟨h₃, tk₃, (seg ++ own) ++ news, rfl, F₃, fun p hp => N₃ p ?_, .of fun p hp => ?_, ?_, seg ++ own, rfl, ?_⟩
    · rcases List.mem_cons.mp hp with rfl | hp
      · exact List.mem_append_right _ (.tail _ (.head _))
      · rcases List.mem_cons.mp hp with rfl | hp
        · exact List.mem_append_right _ (.head _)
        · rcases List.mem_cons.mp hp with rfl | hp
          · exact List.mem_append_right _ (.tail _ (.tail _ (.head _)))
          · rw [List.append_assoc] at hp
            rcases List.mem_append.mp hp with hp | hp
            · exact List.mem_append_left _ hp
            · exact List.mem_append_right _ (.tail _ (.tail _ (.tail _ hp)))
    · rw [List.append_assoc] at hp
      rcases List.mem_append.mp hp with hp | hp
      · exact ⟨(hoff p hp _ (.tail _ (.head _))).symm, (hoff p hp _ (.head _)).symm, (hoff p hp _ (.tail _ (.tail _ (.head _)))).symm⟩
      · exact off.mem p hp
    · rcases hsrc with e | ⟨o, hm', r⟩
      · exact .inl e
      · exact .inr ⟨o, List.mem_append_right _ hm', r⟩
    · rw [List.take_add_one, hd]
      exact hit.snoc (fun p hp => List.mem_append_right _ hp) fun hh st => hr hh (st.sub fun p hp => List.mem_append_left _ hp)
  · rintro ys nw ⟨own, rfl, hit⟩ D h' tk F₁ N₁ off
    rw [hlen, List.take_length] at hit
    exact fin D h' tk ys own F₁ N₁ off hit
theorem elEnd_val {s' : Shared} {h : Heap} {nw : List (Addr × Obj)} {d : PyData} {y : Value} {h' : Heap} {tk' : Nat} (F : Fr h₀ L h' m) (N : News h₀ L h' nw) (hr : ∀ h : Heap, ∃ as, Reads h y d as) : ElEnd h₀ L m s' nw d y { s' with heap := h', toks := tk' } :=
  ⟨h', tk', [], rfl, F, N, fun p hp => (by cases hp), fun h _ => hr h⟩
end
section
variable {w : World} {A : Around} {E : Value → Shared → Prop} {s : Shared} {h₀ : Heap} {L : Addr} {m : Str → Option Value} {news : List (Addr × Obj)}
theorem pieces_F {x : Str} {t : Tok} {Q : Value → Shared → Prop} {mean : ExcName → Option Value} {mg mb : Str → Option Value} (F : Fr h₀ L s.heap m) (N : News h₀ L s.heap news) (X : (KK w.params).In h₀) (T : TopV mean mg mb h₀) (ok : Ok A 8) (hx : x.length ≤ 10000)
    (h : ∀ h' tk P n vs tl, Fr h₀ L h' m → News h₀ L h' ((P, listOf vs.toArray n) :: (tl ++ news)) → (∀ p ∈ (P, listOf vs.toArray n) :: tl, ∀ q ∈ news, q.1 ≠ p.1) → F2 (TokIn tl) vs (pcs x.cps.toList) → Q (.ref P) { s with heap := h', toks := tk }) :
    wpAny (model pg w) A (call (.ref 249) [.str x t]) Q E s := by
  refine pieces_spec (X.keeps F.keep) (T.keeps F.keep) ok hx fun h' tk P n vs tl hk hst hP hF => ?_
  refine h h' tk P n vs tl (frK F hk) (fun p hp => ?_) (fun p hp q hq e => ?_) hF
  · have old := nwK N hk
    have new : ∀ p ∈ (P, listOf vs.toArray n) :: tl, h'.get? p.1 = some p.2 ∧ p.1 ≠ L ∧ h₀.get? p.1 = none := fun p hp => newsNew F (news := []) (fun _ h => by cases h) (hst p hp).1 (hst p hp).2 p (.head _)
    rcases List.mem_cons.mp hp with rfl | hp
    · exact new _ (.head _)
    · rcases List.mem_append.mp hp with hp | hp
      · exact new p (.tail _ hp)
      · exact old p hp
  · have := (hst p hp).2
    rw [← e, (N q hq).1] at this
    cases this
/-- what str() makes of a piece -/
theorem shows_pc {tl : List (Addr × Obj)} {v : Value} {p : Pc} {h : Heap} {mean : ExcName → Option Value} {mg mb : Str → Option Value} (X : (KK w.params).In h) (T : TopV mean mg mb h) (st : Stand h tl) (hv : TokIn tl v p) (hp : p.1 = 148 ∨ p.1 = 175 ∨ p.1 = 202) (hl : p.2.length ≤ 1000000) :
    Shows w h v ⟨(seen p).toArray⟩ := by
  obtain ⟨a, D, t, rfl, hm⟩ := hv
  have ha : TokAt h a p.1 ⟨p.2.toArray⟩ := ⟨D, t, st _ hm⟩
  unfold seen
  rcases hp with e | e | e
  · rw [if_neg (by rw [e]; decide)]
    rw [e] at ha
    exact shows_tok (.inl rfl) X (by rw [len_mk]; exact hl) ha
  · rw [if_neg (by rw [e]; decide)]
    rw [e] at ha
    exact shows_tok (.inr rfl) X (by rw [len_mk]; exact hl) ha
  · rw [if_pos e]
    rw [e] at ha
    have := shows_hid X T ha
    rwa [show Str.ofString "" = ⟨[].toArray⟩ from by decide +kernel] at this
theorem piece_len {l : List Nat} {p : Pc} (h : p ∈ pcs l) : p.2.length ≤ l.length := by
  have e := (pcs_len _ l (Nat.le_refl _)).2
  obtain ⟨a, b, q⟩ := List.append_of_mem h
  rw [q] at e
  rw [← e]
  simp
  omega
theorem seen_le (p : Pc) : (seen p).length ≤ p.2.length := by
  unfold seen
  split
  · exact Nat.zero_le _
  · exact Nat.le_refl _
end
noncomputable def RemarkAt (w : World) (n : Nat) : Prop := ∀ (A : Around) (s : Shared) (a : Addr) (ps : List Tr) (Q E : Value → Shared → Prop) (mean : ExcName → Option Value) (mg mb : Str → Option Value), (KK w.params).In s.heap → TopV mean mg mb s.heap → Ok A (n + 10) →
  RdT s.heap (.ref a) (.rm ps) → (Tr.rm ps).rmc ≤ n → (Tr.rm ps).size ≤ 1000 →
  (∀ h' tk t, Kp s.heap h' → Q (.str ⟨(Tr.rm ps).wr.toArray⟩ t) { s with heap := h', toks := tk }) → wpAny (model pg w) A (call (.ref 254) [.ref a]) Q E s
section
variable {w : World} {A : Around} {E : Value → Shared → Prop} {s : Shared} {h₀ : Heap} {L b : Addr} {m : Str → Option Value} {news : List (Addr × Obj)}
theorem remark_F {n : Nat} {qs : List Tr} {Q : Value → Shared → Prop} {mean : ExcName → Option Value} {mg mb : Str → Option Value} (ih : RemarkAt w n) (F : Fr h₀ L s.heap m) (N : News h₀ L s.heap news) (X : (KK w.params).In h₀) (T : TopV mean mg mb h₀) (ok : Ok A (n + 10))
    (hr : RdT h₀ (.ref b) (.rm qs)) (hc : (Tr.rm qs).rmc ≤ n) (hz : (Tr.rm qs).size ≤ 1000)
    (h : ∀ h' tk t, Fr h₀ L h' m → News h₀ L h' news → Q (.str ⟨(Tr.rm qs).wr.toArray⟩ t) { s with heap := h', toks := tk }) : wpAny (model pg w) A (call (.ref 254) [.ref b]) Q E s :=
  ih A s b qs Q E mean mg mb (X.keeps F.keep) (T.keeps F.keep) ok (hr.keeps F.keep) hc hz fun h' tk t hk => h h' tk t (frK F hk) (nwK N hk)
end
theorem escP_append (a b : List Nat) : escP (a ++ b) = escP a ++ escP b := List.flatMap_append
theorem escP_flat : ∀ ls : List (List Nat), escP ls.flatten = (ls.map escP).flatten
  | [] => rfl
  | l :: ls => by rw [List.flatten_cons, escP_append, escP_flat ls]; rfl
theorem escP_len (l : List Nat) : (escP l).length ≤ 2 * l.length := by
  unfold escP
  induction l with
  | nil => exact Nat.le_refl _
  | cons k r ih =>
    rw [List.flatMap_cons, List.length_append, List.length_cons]
    have : (if k = 92 then [92, 92] else if k = 40 then [92, 40] else if k = 41 then [92, 41] else [k]).length ≤ 2 := by
      split
      · exact Nat.le_refl _
      · split
        · exact Nat.le_refl _
        · split
          · exact Nat.le_refl _
          · exact Nat.le_succ _
    omega
theorem vis_len (l : List Nat) : (vis l).length ≤ l.length := by
  have e := (pcs_len _ l (Nat.le_refl _)).2
  have key : ∀ ps : List Pc, ((ps.map seen).flatten).length ≤ ((ps.map (·.2)).flatten).length := by
    intro ps
    induction ps with
    | nil => exact Nat.le_refl _
    | cons p ps ih =>
      have := seen_le p
      simp only [List.map_cons, List.flatten_cons, List.length_append]
      omega
  have := key (pcs l)
  rw [e] at this
  exact this
theorem wr_len : ∀ t : Tr, t.wr.length ≤ 2 * t.size := by
  refine Tr.ind (fun l => ?_) fun ps ih => ?_
  · rw [wr_tx, size_tx]
    have h1 := escP_len (vis l)
    have h2 := vis_len l
    omega
  · rw [wr_rm, size_rm]
    have : (ps.map Tr.wr).flatten.length ≤ 2 * (ps.map Tr.size).sum := by
      induction ps with
      | nil => simp
      | cons p ps ih2 =>
        have h1 := ih p (.head _)
        have h2 := ih2 fun q hq => ih q (.tail _ hq)
        simp only [List.map_cons, List.flatten_cons, List.sum_cons, List.length_append]
        omega
    simp only [List.length_cons, List.length_append, List.length_nil]
    omega
noncomputable abbrev envM (L : Addr) : Env := envOf (Str.ofString "_law_remark") (fnS (stm 19)) L 254 (Value.ref 253)
theorem remark_all (w : World) : ∀ n, RemarkAt w n
  | 0 => fun A s a ps Q E mean mg mb X T ok hr hc hz h => by rw [rmc_rm] at hc; omega
  | n + 1 => fun A s a ps Q E mean mg mb X T ok hr hc hz h => by
    have ih := remark_all w n
    refine call_fn X T (by kernel_rfl : _ = some (obf254 w.params)) rfl (by kernel_rfl) ok.room (binds := [(Str.ofString "tree", .ref a)]) rfl (locs rfl) (fun h₁ L F N hk => ?_)
    have ok' : Ok (A.deeper (envM L)) (n + 10) := ok.deeper
    obtain ⟨a', items, e, hl, hit⟩ := hr.rm
    cases e
    have hwl := wr_len (.rm ps)
    rw [wr_rm, size_rm] at hwl
    simp only [List.length_cons, List.length_append, List.length_nil] at hwl
    rw [rmc_rm] at hc
    rw [size_rm] at hz
    have hit_len := hit.length
    have hsz := len_size ps
    k_steps
    rename Fr _ _ _ _ => F4
    rename News _ _ _ _ => N4
    refine For_invV s.heap rfl rfl ?_
    refine ld F4 rfl ?_
    have s40' : Str.ofString "(" = ⟨(40 :: (((ps.take 0).map Tr.wr).flatten)).toArray⟩ := by show _ = (⟨[40].toArray⟩ : Str); decide +kernel
    refine iter_list (σ := Str × Tok) (fun c => [(Str.ofString "written", .str c.1 c.2), (Str.ofString "tree", .ref a)]) (fun i c news => news = [] ∧ c.1 = ⟨(40 :: ((ps.take i).map Tr.wr).flatten).toArray⟩) (Str.ofString "(", _) ok'.handled hl F4 N4 (by walk_at "names") ⟨rfl, s40'⟩ ?_ ?_
    · rintro i v ⟨x, tx⟩ u news₁ h' tk I oI hv ⟨rfl, hx⟩ hne F₁ N₁
      dsimp only at hx F₁ N₁
      obtain ⟨t, ht, hrd⟩ := hit.get (by simpa using hv : items.toList[i]? = some v)
      have htk := take_get Tr.wr ht
      have hxl : x.length ≤ 10000 := by
        rw [hx, len_mk, List.length_cons]
        have := take_le Tr.wr ps i
        omega
      have h1 := mem_sum (f := Tr.rmc) (get_mem ht)
      have h2 := mem_sum (f := Tr.size) (get_mem ht)
      have hwt := wr_len t
      clear F4 N4
      cases t with
      | tx l =>
        obtain ⟨tl, rfl⟩ := hrd.tx
        rw [wr_tx] at htk hwt
        rw [size_tx] at h2 hwt
        have hll : l.length ≤ 1000 := by omega
        iterate 23 walk1
        refine comp_data (cl := []) ((pcs l).map fun p => PyData.str ⟨(escP (seen p)).toArray⟩) F₁ rfl (by decide) rfl (by decide) rfl ok'.handled ?_
        k_steps
        refine pieces_F F₁ N₁ X T (ok'.less (by omega)) (by rw [len_mk]; omega) fun h3 tk3 P n3 vs tl3 F3 N3 off3 hF => ?_
        have hF' : F2 (TokIn tl3) vs (pcs l) := hF
        have hlen := hF'.length
        have hpl := (pcs_len _ l (Nat.le_refl _)).1
        refine ⟨P, vs.toArray, _, rfl, F3, N3, .inr ⟨_, .head _, rfl, _, rfl⟩, by rw [List.size_toArray, PySem.sizeLine_eq]; omega, by rw [List.size_toArray, List.length_map]; exact hlen, ?_, ?_⟩
        · intro i v d C oC m₂ h5 tk5 E' nw hv5 hd5 hC hm F5 N5 hsub
          obtain ⟨p, hp, htok⟩ := hF'.get (by simpa using hv5 : vs[i]? = some v)
          rw [List.getElem?_map, hp] at hd5
          cases hd5
          have hpm := List.mem_of_getElem? hp
          have hpo := (pcs_ok _ l (Nat.le_refl _) p hpm).1
          have hpln := piece_len hpm
          have hst : Stand h5 tl3 := fun q hq => (N5 q (.tail _ (hsub q (.tail _ (List.mem_append_left _ hq))))).1
          have hsh := shows_pc (X.keeps F5.keep) (T.keeps F5.keep) hst htok hpo (by omega)
          obtain ⟨av, Dv, tv, rfl, hmv⟩ := htok
          clear F3 N3 F₁ N₁
          k_steps
          refine mpp (X.keeps F5.keep) (T.keeps F5.keep) (ok'.less (by omega)) (by rw [len_mk]; have := seen_le p; omega) hsh fun h6 tk6 t6 hk6 => ?_
          exact elEnd_val (h := h6) (frK F5 hk6) (nwK N5 hk6) fun hh => ⟨_, .str _ _⟩
        · intro D h5 tk5 ys own F5 N5 off hit5
          have hys : F2 StrIs ys ((pcs l).map fun p => escP (seen p)) := by
            obtain ⟨as, hr5⟩ := hit5.2 h5 fun p hp => (N5 p (.tail _ (List.mem_append_left _ hp))).1
            refine readsStrs (h := h5) (as := as) ?_
            rw [List.map_map]
            exact hr5
          have efl : ((pcs l).map fun p => escP (seen p)).flatten = escP (vis l) := by
            unfold vis
            rw [escP_flat, List.map_map]
            rfl
          clear F3 N3 F₁ N₁
          k_steps
          refine join_flat ⟨_, (N5 _ (.head _)).1, rfl, _, rfl⟩ hys (by rw [efl]; omega) fun t6 k6 => ?_
          rw [efl]
          have hl6 : (Str.mk (escP (vis l)).toArray).length ≤ 10000 := by rw [len_mk]; omega
          k_steps
          rename Fr _ _ _ _ => F'
          rename News _ _ _ _ => N'
          refine stepTo_next (x ++ ⟨(escP (vis l)).toArray⟩, _) [] F' (fun p hp => N' p (.tail _ (List.mem_append_right _ (.tail _ (List.mem_append_right _ hp))))) (List.forall_mem_nil _) (by walk_at "names") ⟨rfl, ?_⟩
          rw [hx, htk, mk_append]
          rfl
      | rm qs =>
        obtain ⟨b, its, rfl, hb, _⟩ := hrd.rm
        have hcq : (Tr.rm qs).rmc ≤ n := by omega
        have hzq : (Tr.rm qs).size ≤ 1000 := by omega
        k_steps
        refine remark_F ih F₁ N₁ X T ok' hrd hcq hzq fun h2 tk2 t2 F2' N2' => ?_
        have hl2 : (Str.mk (Tr.rm qs).wr.toArray).length ≤ 10000 := by rw [len_mk]; omega
        clear F₁ N₁
        k_steps
        rename Fr _ _ _ _ => F'
        rename News _ _ _ _ => N'
        refine stepTo_next (x ++ ⟨(Tr.rm qs).wr.toArray⟩, _) [] F' N' (List.forall_mem_nil _) (by walk_at "names") ⟨rfl, ?_⟩
        rw [hx, htk, mk_append]
        rfl
    · rintro ⟨x, tx⟩ u news₁ h' tk ⟨rfl, hx⟩ F₁ N₁
      dsimp only at hx F₁ N₁
      have e : items.size = ps.length := by rw [← hit_len, Array.length_toList]
      rw [e, List.take_length] at hx
      have hxl : x.length ≤ 10000 := by rw [hx, len_mk, List.length_cons]; omega
      clear F4 N4
      k_steps
      refine (congrArg (fun z : Str => Q (.str z _) _) ?_).mp (h _ _ _ F₁.keep)
      rw [hx, wr_rm, show Str.ofString ")" = ⟨[41].toArray⟩ from by decide +kernel, mk_append]
      rfl
noncomputable def BareAt (w : World) (n : Nat) : Prop := ∀ (A : Around) (s : Shared) (a : Addr) (ps : List Tr) (Q E : Value → Shared → Prop) (mean : ExcName → Option Value) (mg mb : Str → Option Value), (KK w.params).In s.heap → TopV mean mg mb s.heap → Ok A (n + 6) →
  RdT s.heap (.ref a) (.rm ps) → (Tr.rm ps).rmc ≤ n → (Tr.rm ps).size ≤ 1000 → (∀ l ∈ (Tr.rm ps).texts, ∀ c ∈ l, c < 55296) →
  (∀ h' tk D seg, Kp s.heap h' → (∀ p ∈ seg, h'.get? p.1 = some p.2 ∧ s.heap.get? p.1 = none) → (∀ h : Heap, Stand h seg → RdT h (.ref D) (Tr.rm ps).bare) → Q (.ref D) { s with heap := h', toks := tk }) → wpAny (model pg w) A (call (.ref 235) [.ref a]) Q E s
noncomputable abbrev envB (L : Addr) : Env := envOf (Str.ofString "_law_bare") (fnS (stm 16)) L 235 (Value.ref 234)
theorem bare_all (w : World) : ∀ n, BareAt w n
  | 0 => fun A s a ps Q E mean mg mb X T ok hr hc hz hch h => by rw [rmc_rm] at hc; omega
  | n + 1 => fun A s a ps Q E mean mg mb X T ok hr hc hz hch h => by
    have ih := bare_all w n
    refine call_fn X T (by kernel_rfl : _ = some (obf235 w.params)) rfl (by kernel_rfl) ok.room (binds := [(Str.ofString "tree", .ref a)]) rfl (locs rfl) (fun h₁ L F N hk => ?_)
    have ok' : Ok (A.deeper (envB L)) (n + 6) := ok.deeper
    obtain ⟨a', items, e, hl, hit⟩ := hr.rm
    cases e
    rw [rmc_rm] at hc
    rw [size_rm] at hz
    rw [texts_rm] at hch
    have hit_len := hit.length
    have hsz := len_size ps
    have esz : items.size = ps.length := by rw [← hit_len, Array.length_toList]
    iterate 2 walk1
    refine comp_data (cl := []) (ps.map fun t => t.bare.toD) F rfl (by decide) rfl (by decide) rfl ok'.handled ?_
    refine ld F rfl ?_
    refine ⟨a, items, [], rfl, F, N, .inl hl, by rw [PySem.sizeLine_eq]; omega, by rw [List.length_map]; exact esz, ?_, ?_⟩
    · intro i v d C oC m₂ h5 tk5 E' nw hv5 hd5 hC hm F5 N5 hsub
      obtain ⟨t, ht, hrd⟩ := hit.get (by simpa using hv5 : items.toList[i]? = some v)
      rw [List.getElem?_map, ht] at hd5
      cases hd5
      have h1 := mem_sum (f := Tr.rmc) (get_mem ht)
      have h2 := mem_sum (f := Tr.size) (get_mem ht)
      have hcht : ∀ l ∈ t.texts, ∀ c ∈ l, c < 55296 := fun l hl => hch l (List.mem_flatten.mpr ⟨_, List.mem_map.mpr ⟨t, get_mem ht, rfl⟩, hl⟩)
      clear F N
      cases t with
      | tx l =>
        obtain ⟨tl, rfl⟩ := hrd.tx
        rw [size_tx] at h2
        rw [texts_tx] at hcht
        k_steps
        refine shown_spec (X.keeps F5.keep) (T.keeps F5.keep) (ok'.less (by omega)) (by rw [len_mk]; omega) (hcht l (.head _)) fun h6 tk6 t6 hk6 => ?_
        refine elEnd_val (h := h6) (frK F5 hk6) (nwK N5 hk6) fun hh => ⟨[], ?_⟩
        show Reads hh _ (Tr.tx l).bare.toD _
        rw [bare_tx, toD_tx]
        exact .str _ _
      | rm qs =>
        obtain ⟨b, its, rfl, hb, _⟩ := hrd.rm
        k_steps
        refine ih _ _ b qs _ _ mean mg mb (X.keeps F5.keep) (T.keeps F5.keep) ok' (hrd.keeps F5.keep) (by omega) (by omega) hcht fun h6 tk6 D6 seg hk6 hseg hrd6 => ?_
        refine ⟨h6, tk6, seg, rfl, frK F5 hk6, fun p hp => ?_, fun p hp q hq e => ?_, fun hh st => hrd6 hh st⟩
        · rcases List.mem_append.mp hp with hp | hp
          · exact newsNew F5 (news := []) (fun _ h => by cases h) (hseg p hp).1 (hseg p hp).2 p (.head _)
          · exact nwK N5 hk6 p hp
        · have := (hseg p hp).2
          rw [← e, (N5 q hq).1] at this
          cases this
    · intro D h5 tk5 ys own F5 N5 off hit5
      clear F N
      k_steps
      refine h h5 _ D ((D, lst ys) :: own) F5.keep (fun p hp => ?_) fun hh st => ?_
      · have z := N5 p (by
          rcases List.mem_cons.mp hp with rfl | hp
          · exact .head _
          · exact .tail _ (List.mem_append_left _ hp))
        exact ⟨z.1, z.2.2⟩
      · obtain ⟨as, ha⟩ := hit5.list (h := hh) (D := D) (n := ys.length) (st.sub fun p hp => .tail _ hp) (st _ (.head _))
        refine ⟨as, ?_⟩
        rw [bare_rm, toD_rm, List.map_map]
        exact ha
/-! ### the reader of remarks -/
theorem rr_append (a b : List Nat) (st : Z × Bool) : rrRun (a ++ b) st = rrRun b (rrRun a st) := by unfold rrRun; rw [List.foldl_append]
theorem rr_cons (c : Nat) (b : List Nat) (st : Z × Bool) : rrRun (c :: b) st = rrRun b (rrStep st c) := rfl
theorem add_add (z : Z) (a b : List Nat) : (z.add a).add b = z.add (a ++ b) := by unfold Z.add; simp
theorem add_nil (z : Z) : z.add [] = z := by unfold Z.add; simp
theorem rr_esc1 (k : Nat) (z : Z) : rrRun (if k = 92 then [92, 92] else if k = 40 then [92, 40] else if k = 41 then [92, 41] else [k]) (z, false) = (z.add [k], false) := by
  by_cases h1 : k = 92
  · subst h1; rfl
  · rw [if_neg h1]
    by_cases h2 : k = 40
    · subst h2; rfl
    · rw [if_neg h2]
      by_cases h3 : k = 41
      · subst h3; rfl
      · rw [if_neg h3]
        show rrStep (z, false) k = _
        unfold rrStep rrAdd
        rw [if_pos]
        simp [h1, h2, h3]
theorem rr_esc : ∀ (y : List Nat) (z : Z), rrRun (escP y) (z, false) = (z.add y, false)
  | [], z => by rw [add_nil]; rfl
  | k :: r, z => by
    unfold escP
    rw [List.flatMap_cons, rr_append, rr_esc1]
    have := rr_esc r (z.add [k])
    unfold escP at this
    rw [this, add_add]
    rfl
noncomputable def jf (last : List Nat) : List Tr → List Tr
  | .tx l :: r => .tx (last ++ l) :: r
  | r => r
theorem jf_nil (ps : List Tr) : jf [] ps = ps := by
  cases ps with
  | nil => rfl
  | cons p ps => cases p <;> rfl
theorem rr_rm {qs : List Tr} (ih : ∀ cur last up, ∃ cur' last', rrRun (qs.map Tr.wr).flatten (⟨cur, last, up⟩, false) = (⟨cur', last', up⟩, false) ∧ cur' ++ [.tx last'] = cur ++ jf last (qs.map Tr.bare)) (cur : List Tr) (last : List Nat) (up : List (List Tr)) :
    rrRun (Tr.rm qs).wr (⟨cur, last, up⟩, false) = (⟨cur ++ [.tx last, .rm (qs.map Tr.bare)], [], up⟩, false) := by
  rw [wr_rm, rr_cons, rr_append]
  have e1 : rrStep (⟨cur, last, up⟩, false) 40 = (⟨[], [], (cur ++ [.tx last]) :: up⟩, false) := by
    unfold rrStep rrAdd
    simp [Z.opn, Z.top]
  rw [e1]
  obtain ⟨cur', last', h1, h2⟩ := ih [] [] ((cur ++ [.tx last]) :: up)
  rw [h1]
  show rrStep (⟨cur', last', (cur ++ [.tx last]) :: up⟩, false) 41 = _
  unfold rrStep rrAdd
  rw [jf_nil, List.nil_append] at h2
  simp [Z.cls, Z.top, h2]
theorem rr_parts {ps : List Tr} (h : Alt ps) : ∀ cur last up, ∃ cur' last', rrRun (ps.map Tr.wr).flatten (⟨cur, last, up⟩, false) = (⟨cur', last', up⟩, false) ∧ cur' ++ [.tx last'] = cur ++ jf last (ps.map Tr.bare) := by
  induction h with
  | one l =>
    intro cur last up
    refine ⟨cur, last ++ shown l, ?_, ?_⟩
    · simp only [List.map_cons, List.map_nil, List.flatten_cons, List.flatten_nil, List.append_nil]
      rw [wr_tx, rr_esc, vis_shown]
      rfl
    · simp only [List.map_cons, List.map_nil, bare_tx]
      rfl
  | @more l qs ps hq hp ihq ihp =>
    intro cur last up
    obtain ⟨cur', last', h1, h2⟩ := ihp (cur ++ [.tx (last ++ shown l), .rm (qs.map Tr.bare)]) [] up
    refine ⟨cur', last', ?_, ?_⟩
    · simp only [List.map_cons, List.flatten_cons]
      rw [rr_append, rr_append, wr_tx, rr_esc, vis_shown]
      show rrRun _ (rrRun _ (⟨cur, last ++ shown l, up⟩, false)) = _
      rw [rr_rm ihq]
      exact h1
    · rw [h2, jf_nil]
      simp only [List.map_cons, bare_tx, bare_rm]
      simp [jf]
theorem rr_law {ps : List Tr} (h : Alt ps) : rrRun (Tr.rm ps).wr (⟨[], [], []⟩, false) = (⟨[.tx [], (Tr.rm ps).bare], [], []⟩, false) := by
  rw [rr_rm (rr_parts h), bare_rm]
  rfl
/-! ### the reader of quoted strings -/
theorem rq_esc : ∀ (y : List Nat) (k : Nat) (f : List Nat) (b : List Int), rqRun k (escQ y) ⟨f, b, false⟩ = ⟨f ++ y, b, false⟩
  | [], k, f, b => by simp [escQ, rqRun]
  | c :: r, k, f, b => by
    unfold escQ
    rw [List.flatMap_cons, rqRun_append]
    have e : rqRun k (if c = 92 then [92, 92] else if c = 34 then [92, 34] else [c]) ⟨f, b, false⟩ = ⟨f ++ [c], b, false⟩ := by
      by_cases h1 : c = 92
      · subst h1; rfl
      · rw [if_neg h1]
        by_cases h2 : c = 34
        · subst h2; rfl
        · rw [if_neg h2]
          show rqStep ⟨f, b, false⟩ k c = _
          unfold rqStep
          rw [if_pos]
          simp [h1, h2]
    rw [e]
    have := rq_esc r (k + (if c = 92 then [92, 92] else if c = 34 then [92, 34] else [c]).length) (f ++ [c]) b
    unfold escQ at this
    rw [this]
    simp
noncomputable def quo (y : List Nat) : List Nat := 34 :: (escQ y ++ [34])
theorem rq_law (y : List Nat) : rqRun 0 (quo y) ⟨[], [], false⟩ = ⟨y, [0, ((quo y).length : Int) - 1], false⟩ := by
  unfold quo
  show rqRun 1 (escQ y ++ [34]) ⟨[], [0], false⟩ = _
  rw [rqRun_append, rq_esc]
  show rqStep ⟨[] ++ y, [0], false⟩ (1 + (escQ y).length) 34 = _
  unfold rqStep
  simp
  omega
/-! ### backslashes -/
theorem cnt_flat (c : Nat) : ∀ ls : List (List Nat), cnt c ls.flatten = (ls.map (cnt c)).sum
  | [] => rfl
  | l :: ls => by rw [List.flatten_cons, cnt_append, cnt_flat c ls]; rfl
theorem cnt_escP : ∀ y : List Nat, cnt 92 (escP y) = cnt 40 y + cnt 41 y + 2 * cnt 92 y
  | [] => rfl
  | k :: r => by
    unfold escP
    rw [List.flatMap_cons, cnt_append]
    have ih := cnt_escP r
    unfold escP at ih
    rw [ih, cnt_cons, cnt_cons, cnt_cons]
    by_cases h1 : k = 92
    · subst h1
      show (2 : Int) + _ = _
      simp; omega
    · by_cases h2 : k = 40
      · subst h2
        show (1 : Int) + _ = _
        simp; omega
      · by_cases h3 : k = 41
        · subst h3
          show (1 : Int) + _ = _
          simp; omega
        · rw [if_neg h1, if_neg h2, if_neg h3, if_neg h2, if_neg h3, if_neg h1, cnt_cons, if_neg h1]
          show (0 + 0) + _ = _
          omega
theorem cnt_quo (y : List Nat) : cnt 92 (quo y) = cnt 34 y + 2 * cnt 92 y := by
  have key : ∀ y : List Nat, cnt 92 (escQ y) = cnt 34 y + 2 * cnt 92 y := by
    intro y
    induction y with
    | nil => rfl
    | cons k r ih =>
      unfold escQ at ih ⊢
      rw [List.flatMap_cons, cnt_append, ih, cnt_cons, cnt_cons]
      by_cases h1 : k = 92
      · subst h1
        show (2 : Int) + _ = _
        simp; omega
      · by_cases h2 : k = 34
        · subst h2
          show (1 : Int) + _ = _
          simp; omega
        · rw [if_neg h1, if_neg h2, if_neg h2, if_neg h1, cnt_cons, if_neg h1]
          show (0 + 0) + _ = _
          omega
  unfold quo
  rw [cnt_cons, cnt_append, key]
  show (0 : Int) + (_ + 0) = _
  omega
noncomputable def need (l : List Nat) : Int := cnt 40 l + cnt 41 l + 2 * cnt 92 l
theorem bare_texts : ∀ t : Tr, t.bare.texts = t.texts.map shown := by
  refine Tr.ind (fun l => ?_) fun ps ih => ?_
  · rw [bare_tx, texts_tx, texts_tx]; rfl
  · rw [bare_rm, texts_rm, texts_rm, List.map_flatten, List.map_map, List.map_map]
    congr 1
    exact List.map_congr_left ih
theorem cnt_wr : ∀ t : Tr, cnt 92 t.wr = (t.bare.texts.map need).sum := by
  refine Tr.ind (fun l => ?_) fun ps ih => ?_
  · rw [wr_tx, bare_tx, texts_tx, vis_shown, cnt_escP]
    show _ = need (shown l) + 0
    unfold need
    omega
  · rw [wr_rm, bare_rm, texts_rm, cnt_cons, cnt_append, cnt_flat]
    have : ((ps.map Tr.wr).map (cnt 92)).sum = (((ps.map Tr.bare).map Tr.texts).flatten.map need).sum := by
      induction ps with
      | nil => rfl
      | cons p ps ih2 =>
        have h1 := ih p (.head _)
        have h2 := ih2 fun q hq => ih q (.tail _ hq)
        simp only [List.map_cons, List.sum_cons, List.flatten_cons, List.map_append, List.sum_append]
        rw [h1, h2]
    rw [this]
    show (0 : Int) + (_ + 0) = _
    omega
structure Shp (d : PyData) (k : Nat) : Prop where
  lay : d.canLay0 = true
  dep : d.depth ≤ k
theorem Shp.mono {d : PyData} {k k' : Nat} (x : Shp d k) (h : k ≤ k') : Shp d k' := ⟨x.lay, Nat.le_trans x.dep h⟩
theorem shp_all {k : Nat} : ∀ {ds : List PyData}, (∀ d ∈ ds, Shp d k) → PyData.canLayAll0 ds = true ∧ PyData.depthAll ds ≤ k
  | [], _ => ⟨rfl, Nat.zero_le _⟩
  | d :: ds, h => by
    obtain ⟨a, b⟩ := shp_all fun e he => h e (.tail _ he)
    have z := h d (.head _)
    exact ⟨by rw [PyData.canLayAll0, z.lay, a]; rfl, by rw [PyData.depthAll]; exact Nat.max_le.mpr ⟨z.dep, b⟩⟩
theorem shp_list {k : Nat} {ds : List PyData} (h : ∀ d ∈ ds, Shp d k) : Shp (.list ds) (k + 1) := by
  obtain ⟨a, b⟩ := shp_all h
  exact ⟨by rw [PyData.canLay0]; exact a, by rw [PyData.depth]; omega⟩
theorem shp_str {l : List Nat} (k : Nat) (h : ∀ c ∈ l, c < 55296) : Shp (.str ⟨l.toArray⟩) k := ⟨by rw [PyData.canLay0]; exact strOk_of h, by rw [PyData.depth]; exact Nat.zero_le _⟩
theorem shp_int (i : Int) (k : Nat) : Shp (.int i) k := ⟨rfl, Nat.zero_le _⟩
theorem shp_bool (b : Bool) (k : Nat) : Shp (.bool b) k := ⟨rfl, Nat.zero_le _⟩
theorem shp_tree : ∀ t : Tr, (∀ l ∈ t.texts, ∀ c ∈ l, c < 55296) → Shp t.toD t.rmc := by
  refine Tr.ind (fun l h => ?_) fun ps ih h => ?_
  · rw [toD_tx]; exact shp_str _ (h l (by rw [texts_tx]; exact .head _))
  · rw [toD_rm, rmc_rm]
    refine shp_list fun d hd => ?_
    obtain ⟨t, ht, rfl⟩ := List.mem_map.mp hd
    exact (ih t ht fun l hl => h l (by rw [texts_rm]; exact List.mem_flatten.mpr ⟨_, List.mem_map.mpr ⟨t, ht, rfl⟩, hl⟩)).mono (mem_sum ht)
theorem Shp.shaped {d : PyData} (x : Shp d 64) : SeqAt.shaped d = true := by
  unfold SeqAt.shaped
  rw [x.lay, decide_eq_true x.dep]; rfl
section
variable {prog : Program} {w : World} {A : Around} {E : Value → Shared → Prop} {s : Shared} {a b : Value} {d : PyData} {as bs : List Addr} {Q : Value → Shared → Prop} {n : Nat}
theorem ne_same (ra : ∃ as, Reads s.heap a d as) (rb : ∃ as, Reads s.heap b d as) (hs : Shp d 64) (ok : Ok A n) (h : Q (.bool false) s) : wpAny (model prog w) A (compareOp .NotEq a b) Q E s := by
  obtain ⟨as, ra⟩ := ra
  obtain ⟨bs, rb⟩ := rb
  refine ne_dataH ra rb hs.shaped hs.shaped (by have := ok.units; show A.units + 64 < 9900; omega) ?_
  rw [SeqAt.eqv_refl d hs.lay]
  exact h
theorem eq_same (ra : ∃ as, Reads s.heap a d as) (rb : ∃ as, Reads s.heap b d as) (hs : Shp d 64) (ok : Ok A n) (h : Q (.bool true) s) : wpAny (model prog w) A (compareOp .Eq a b) Q E s := by
  obtain ⟨as, ra⟩ := ra
  obtain ⟨bs, rb⟩ := rb
  refine eq_dataH ra rb hs.shaped hs.shaped (by have := ok.units; show A.units + 64 < 9900; omega) ?_
  rw [SeqAt.eqv_refl d hs.lay]
  exact h
end
theorem shown_len (l : List Nat) : (shown l).length ≤ l.length := by rw [← vis_shown]; exact vis_len l
theorem shown_small {l : List Nat} (h : ∀ c ∈ l, c < 55296) : ∀ c ∈ shown l, c < 55296 := by
  rw [← vis_shown]
  intro c hc
  unfold vis at hc
  obtain ⟨x, hx, hcx⟩ := List.mem_flatten.mp hc
  obtain ⟨p, hp, rfl⟩ := List.mem_map.mp hx
  have hc2 : c ∈ p.2 := by
    unfold seen at hcx
    split at hcx
    · cases hcx
    · exact hcx
  refine h c ?_
  have e := (pcs_len _ l (Nat.le_refl _)).2
  rw [← e]
  exact List.mem_flatten.mpr ⟨_, List.mem_map.mpr ⟨p, hp, rfl⟩, hc2⟩
theorem rmc_bare : ∀ t : Tr, t.bare.rmc = t.rmc := by
  refine Tr.ind (fun l => ?_) fun ps ih => ?_
  · rw [bare_tx, rmc_tx, rmc_tx]
  · rw [bare_rm, rmc_rm, rmc_rm, List.map_map]
    congr 2
    exact List.map_congr_left ih
theorem size_bare : ∀ t : Tr, t.bare.size ≤ t.size := by
  refine Tr.ind (fun l => ?_) fun ps ih => ?_
  · rw [bare_tx, size_tx, size_tx]; have := shown_len l; omega
  · rw [bare_rm, size_rm, size_rm, List.map_map]
    have : (ps.map (Tr.size ∘ Tr.bare)).sum ≤ (ps.map Tr.size).sum := by
      induction ps with
      | nil => exact Nat.le_refl _
      | cons p ps ih2 =>
        have h1 := ih p (.head _)
        have h2 := ih2 fun q hq => ih q (.tail _ hq)
        simp only [List.map_cons, List.sum_cons, Function.comp]
        omega
    omega
theorem small_bare {t : Tr} (h : ∀ l ∈ t.texts, ∀ c ∈ l, c < 55296) : ∀ l ∈ t.bare.texts, ∀ c ∈ l, c < 55296 := by
  rw [bare_texts]
  intro l hl
  obtain ⟨l', hl', rfl⟩ := List.mem_map.mp hl
  exact shown_small (h l' hl')
theorem escP_small {l : List Nat} (h : ∀ c ∈ l, c < 55296) : ∀ c ∈ escP l, c < 55296 := by
  intro c hc
  unfold escP at hc
  obtain ⟨k, hk, hck⟩ := List.mem_flatMap.mp hc
  have hk' := h k hk
  split at hck
  · simp at hck; omega
  · split at hck
    · simp at hck; omega
    · split at hck
      · simp at hck; omega
      · simp at hck; omega
theorem quo_small {l : List Nat} (h : ∀ c ∈ l, c < 55296) : ∀ c ∈ quo l, c < 55296 := by
  intro c hc
  unfold quo escQ at hc
  rcases List.mem_cons.mp hc with rfl | hc
  · decide
  · rcases List.mem_append.mp hc with hc | hc
    · obtain ⟨k, hk, hck⟩ := List.mem_flatMap.mp hc
      have hk' := h k hk
      split at hck
      · simp at hck; omega
      · split at hck
        · simp at hck; omega
        · simp at hck; omega
    · simp at hc; omega
theorem wr_small : ∀ t : Tr, (∀ l ∈ t.texts, ∀ c ∈ l, c < 55296) → ∀ c ∈ t.wr, c < 55296 := by
  refine Tr.ind (fun l h => ?_) fun ps ih h => ?_
  · rw [wr_tx, vis_shown]; exact escP_small (shown_small (h l (by rw [texts_tx]; exact .head _)))
  · rw [wr_rm]
    intro c hc
    rcases List.mem_cons.mp hc with rfl | hc
    · decide
    · rcases List.mem_append.mp hc with hc | hc
      · obtain ⟨x, hx, hcx⟩ := List.mem_flatten.mp hc
        obtain ⟨t, ht, rfl⟩ := List.mem_map.mp hx
        exact ih t ht (fun l hl => h l (by rw [texts_rm]; exact List.mem_flatten.mpr ⟨_, List.mem_map.mpr ⟨t, ht, rfl⟩, hl⟩)) c hcx
      · simp at hc; omega
theorem quo_len (l : List Nat) : (quo l).length ≤ 2 * l.length + 2 := by
  unfold quo
  have := escQ_len l
  simp only [List.length_cons, List.length_append, List.length_nil]
  omega
theorem objsOf {h : Heap} : ∀ {fp : List Addr}, (∀ b ∈ fp, ∃ o, h.get? b = some o) → ∃ l : List (Addr × Obj), (∀ p ∈ l, h.get? p.1 = some p.2 ∧ p.1 ∈ fp) ∧ ∀ b ∈ fp, ∃ o, (b, o) ∈ l
  | [], _ => ⟨[], fun p hp => (by cases hp), fun b hb => (by cases hb)⟩
  | b :: fp, hx => by
    obtain ⟨l, h1, h2⟩ := objsOf fun c hc => hx c (.tail _ hc)
    obtain ⟨o, ho⟩ := hx b (.head _)
    refine ⟨(b, o) :: l, fun p hp => ?_, fun c hc => ?_⟩
    · rcases List.mem_cons.mp hp with rfl | hp
      · exact ⟨ho, .head _⟩
      · exact ⟨(h1 p hp).1, .tail _ (h1 p hp).2⟩
    · rcases List.mem_cons.mp hc with rfl | hc
      · exact ⟨o, .head _⟩
      · obtain ⟨o', ho'⟩ := h2 c hc
        exact ⟨o', .tail _ ho'⟩
section
variable {prog : Program} {w : World} {A : Around} {E : Value → Shared → Prop} {s : Shared} {h₀ : Heap} {L : Addr} {m : Str → Option Value} {env : Env}
theorem fr_buts {h h' : Heap} {wr : List Addr} (F : Fr h₀ L h m) (hk : ∀ b o, b ∉ wr → h.get? b = some o → h'.get? b = some o) (hn : ∀ b ∈ wr, b ≠ L ∧ h₀.get? b = none) : Fr h₀ L h' m :=
  ⟨F.ns.at' fun o e => hk L o (fun hm => (hn L hm).1 rfl) e, fun b o e => hk b o (fun hm => by rw [(hn b hm).2] at e; cases e) (F.keep b o e), F.above⟩
theorem news_buts {h h' : Heap} {wr : List Addr} {news : List (Addr × Obj)} (N : News h₀ L h news) (hk : ∀ b o, b ∉ wr → h.get? b = some o → h'.get? b = some o) (off : ∀ b ∈ wr, ∀ p ∈ news, p.1 ≠ b) : News h₀ L h' news :=
  fun p hp => ⟨hk _ _ (fun hm => off _ hm p hp rfl) (N p hp).1, (N p hp).2⟩
theorem assign_pair {a b : Str} {pa pb : Pos} {scope : Scope} {cl : List (Str × Addr)} {C : Addr} {m₂ : Str → Option Value} {v0 v1 : Value} {Q : Unit → Shared → Prop}
    (hkind : scope.kind = .function) (ha : scope.names.lookup a = some .local) (hb : scope.names.lookup b = some .local) (hab : a ≠ b)
    (hC : s.heap.Ns C m₂) (F : Fr h₀ L s.heap m) (hCL : C ≠ L) (hC₀ : h₀.get? C = none)
    (h : ∀ h' tk oC' m', NsObj oC' m' → m' a = some v0 → m' b = some v1 → Fr h₀ L h' m → h'.get? C = some oC' → (∀ c o, c ≠ C → s.heap.get? c = some o → h'.get? c = some o) → Q () { s with heap := h', toks := tk }) :
    wpAny (model prog w) A (assignInOrder ((assignEach [.Name a pa, .Name b pb] (compEnvC scope cl C env)).map (·.2)) [v0, v1]) Q E s := by
  refine assignInOrder_cons (wpAny_assign_Name (wpAny_storeName_local (lookup_relabel_local ha) hC (fun h₆ hn₆ hs₆ => ?_) (by simp [compEnvC, relabel, hkind])))
  refine assignInOrder_cons (wpAny_assign_Name (wpAny_storeName_local (lookup_relabel_local hb) hn₆ (fun h₃ hn₃ hs₃ => ?_) (by simp [compEnvC, relabel, hkind])))
  refine assignInOrder_nil ?_
  obtain ⟨oC', heC, hoC⟩ := ns_obj hn₃
  exact h h₃ _ oC' _ hoC (by simp [hab]) (by simp) ((F.change hs₆ hCL hC₀).change hs₃ hCL hC₀) heC fun c o hc e => hs₃.extBut c o hc (hs₆.extBut c o hc e)

theorem block_T {xa xb : Str} {pa pb pt : Pos} {kt : Nat} {elt iter : Expr} {scope : Scope} {cl : List (Str × Addr)} {pos : Pos} {s₂ : Shared} {I : Addr} {fp wr : List Addr} {n : Nat} {xs zs : Array Value} {St : Nat → Heap → Prop} {Mid : Nat → Addr → Heap → Prop} {news : List (Addr × Obj)} {ds : List PyData}
    {RR : Value → Addr → Result → Shared → Prop} (hh : A.handled = none)
    (W : WalksT prog w A I fp wr n (fun i vals => ∃ x y, xs[i]? = some x ∧ zs[i]? = some y ∧ vals = #[x, y]) St Mid) (hsz : n ≤ sizeLine) (hds : ds.length = n) (hob : ∀ i h, St i h → ∀ b ∈ fp, ∃ o, h.get? b = some o)
    (hcell : ∀ y ∈ scope.names, y.2 ≠ .cell) (hkind : scope.kind = .function) (hxa : scope.names.lookup xa = some .local) (hxb : scope.names.lookup xb = some .local) (hab : xa ≠ xb)
    (hst : St 0 s₂.heap) (hfp : ∀ b ∈ fp, b < s₂.heap.objs.size)
    (F : Fr h₀ L s₂.heap m) (N : News h₀ L s₂.heap news) (hnew : ∀ b ∈ fp, b ≠ L ∧ h₀.get? b = none) (hwr : ∀ b ∈ wr, ∀ p ∈ news, p.1 ≠ b)
    (turn : ∀ (i : Nat) va vb d C oC m₂ h tk (E' : Value → Shared → Prop) nw, xs[i]? = some va → zs[i]? = some vb → ds[i]? = some d → NsObj oC m₂ → m₂ xa = some va → m₂ xb = some vb → Fr h₀ L h m → News h₀ L h ((C, oC) :: nw) → (∀ p ∈ news, p ∈ nw) →
      wpAny (model prog w) A (eval elt (compEnvC scope cl C env)) (ElEnd h₀ L m s₂ ((C, oC) :: nw) d) E' { s₂ with heap := h, toks := tk })
    (hRR : ∀ D C h tk m' ys own, Fr h₀ L h m → News h₀ L h ((D, lst ys) :: (own ++ news)) → Off1 D (own ++ news) → h.Ns C m' → h₀.get? C = none → C ≠ L → C ≠ D → (∀ p ∈ own ++ news, p.1 ≠ C) → ItemsD own ys ds → RR (.ref D) C (.ok .next) { s₂ with heap := h, toks := tk }) :
    wpAny (model prog w) A (newList []) (fun acc s₃ => wpAny (model prog w) A (newFunctionEnv scope env.globals cl [] env.qual none .none (some env)) (fun cenv s₄ =>
      codeAny (model prog w) A (.compStart (.ListComp elt [⟨.Tuple [.Name xa pa, .Name xb pb] kt pt, iter, [], 0⟩] scope pos) 0 (.ref I) acc { cenv with scope := relabel scope env }) (RR acc cenv.locals) s₄) E s₃) E s₂ := by
  refine wpAny_newObj_type (wpAny_newFunctionEnv hcell (by intro y hy; simp at hy) (fun h₁ hns₁ hsb₁ => ?_) hkind)
  dsimp only at hns₁ hsb₁ ⊢
  generalize hH2 : s₂.heap.push { cls := .type "list", dict := none, data := .seq ([] : List Value).toArray } = H2 at hns₁ hsb₁ ⊢
  have hC : H2.objs.size = s₂.heap.objs.size + 1 := by rw [← hH2, Heap.size_push]
  generalize hDd : s₂.heap.objs.size = D at *
  generalize hCc : H2.objs.size = C at *
  have hDC : D ≠ C := by rw [hC]; exact Nat.ne_of_lt (Nat.lt_succ_self _)
  have below : ∀ b, b < D → b ≠ C ∧ b ≠ D := fun b hb => ⟨by rw [hC]; exact Nat.ne_of_lt (Nat.lt_succ_of_lt hb), Nat.ne_of_lt hb⟩
  have hDf : D ∉ fp := fun hm => Nat.lt_irrefl _ (hfp _ hm)
  have hCf : C ∉ fp := fun hm => by have := hfp _ hm; rw [hC] at this; exact Nat.lt_irrefl _ (Nat.lt_of_succ_lt this)
  have hDw : D ∉ wr := fun hm => hDf (W.sub _ hm)
  have hCw : C ∉ wr := fun hm => hCf (W.sub _ hm)
  have hnw : ∀ b ∈ wr, b ≠ L ∧ h₀.get? b = none := fun b hb => hnew b (W.sub b hb)
  have lt : ∀ {b o}, s₂.heap.get? b = some o → b < D := fun e => hDd ▸ Heap.lt_size e
  have old : ∀ b o, s₂.heap.get? b = some o → h₁.get? b = some o := fun b o e => hsb₁.extBut b o (below b (lt e)).1 (Heap.get?_push_of_some _ (hH2 ▸ Heap.get?_push_of_some _ e))
  have hacc : h₁.get? D = some (lst []) := hsb₁.extBut _ _ hDC (Heap.get?_push_of_some _ (hH2 ▸ hDd ▸ Heap.get?_push_size _ rfl))
  have hst₁ : St 0 h₁ := W.frame _ _ _ hst fun b _ o e => old b o e
  have fresh₀ : ∀ a, D ≤ a → h₀.get? a = none := fun a ha => by
    cases e : h₀.get? a with
    | none => rfl
    | some o' => exact absurd (lt (F.keep a o' e)) (Nat.not_lt.mpr ha)
  have hD₀ : h₀.get? D = none := fresh₀ _ (Nat.le_refl _)
  have hC₀ : h₀.get? C = none := fresh₀ _ (by rw [hC]; exact Nat.le_succ _)
  have hLlt : L < D := hDd ▸ F.ns.lt
  have hDL : D ≠ L := Ne.symm (below L hLlt).2
  have hCL : C ≠ L := Ne.symm (below L hLlt).1
  have off₀ : ∀ p ∈ news, p.1 ∉ wr ∧ p.1 ≠ C ∧ p.1 ≠ D := fun p hp => ⟨fun hm => hwr _ hm p hp rfl, (below _ (lt (N p hp).1)).1, (below _ (lt (N p hp).1)).2⟩
  have loop : ∀ s₃ : Shared, s₃ = { s₂ with heap := h₁, toks := s₂.toks + ([] : List (Str × Value)).length } →
      codeAny (model prog w) A (.compLoop (.ListComp elt [⟨.Tuple [.Name xa pa, .Name xb pb] kt pt, iter, [], 0⟩] scope pos) 0 (.ref I) (.ref D) (compEnvC scope cl C env)) (RR (.ref D) C) s₃ := by
    rintro s₃ rfl
    refine cl_loop
      (fun k s' => ∃ h' tk i ys m' own, s' = { s₂ with heap := h', toks := tk } ∧ i ≤ n ∧ k = n + 1 - i ∧ ys.length ≤ i ∧ St i h' ∧ Fr h₀ L h' m ∧ h'.Ns C m' ∧ News h₀ L h' ((D, lst ys) :: (own ++ news)) ∧ (∀ p ∈ own ++ news, p.1 ∉ wr ∧ p.1 ≠ C ∧ p.1 ≠ D) ∧ ItemsD own ys (ds.take i)) ?_ (n + 1)
      ⟨h₁, _, 0, [], _, [], rfl, Nat.zero_le _, rfl, Nat.le_refl _, hst₁, F.keeps old, hns₁, fun p hp => ?_, off₀, .nil _⟩
    · rintro k s' E' ⟨h', tk, i, ys, m', own, rfl, hi, rfl, hyl, hst', F', hn', N', off', hI'⟩
      have offw : ∀ b ∈ wr, ∀ p ∈ (D, lst ys) :: (own ++ news), p.1 ≠ b := fun b hb p hp e => by
        rcases List.mem_cons.mp hp with rfl | hp
        · exact hDw (by have e' : D = b := e; rw [e']; exact hb)
        · exact (off' p hp).1 (e ▸ hb)
      by_cases hlt : i < n
      · refine W.item i _ _ _ hlt hst' fun T vals h₂ tk₂ hPt hT hTup hMid hk₂ => ?_
        obtain ⟨va, vb, hva, hvb, rfl⟩ := hPt
        have F₂ := fr_buts F' hk₂ hnw
        have N₂ := news_buts N' hk₂ offw
        have hn₂ : h₂.Ns C m' := hn'.at' fun o e => hk₂ _ o hCw e
        refine W.go _ _ _ i T _ _ _ hMid fun h₃ hst₃ hk₃ => ?_
        have F₃ := fr_buts F₂ hk₃ hnw
        have N₃ := news_buts N₂ hk₃ offw
        have hn₃ : h₃.Ns C m' := hn₂.at' fun o e => hk₃ _ o hCw e
        have hTw : T ∉ wr := W.apart i T _ hMid
        have hTup₃ : IsTup h₃ T #[va, vb] := by
          obtain ⟨o, ho, hc, n', hd⟩ := hTup
          exact ⟨o, hk₃ _ _ hTw ho, hc, n', hd⟩
        refine assign_Tuple_tuple hh hTup₃ rfl rfl fun h₄ he₄ => ?_
        have k₄ : Kp h₃ h₄ := fun b o e => he₄ b o (Nat.ne_of_lt (Heap.lt_size e)) e
        have hn₄ : h₄.Ns C m' := hn₃.at' fun o e => k₄ _ o e
        refine assign_pair hkind hxa hxb hab hn₄ (frK F₃ k₄) hCL hC₀ fun h₅ tk₅ oC m₅ hoC hma hmb F₅ heC up₅ => ?_
        have hst₅ : St (i + 1) h₅ := W.frame _ _ _ hst₃ fun b hb o e => up₅ b o (fun q => hCf (q ▸ hb)) (k₄ b o e)
        have N₅ : News h₀ L h₅ ((D, lst ys) :: (own ++ news)) := fun p hp => by
          refine ⟨up₅ _ _ ?_ (k₄ _ _ (N₃ p hp).1), (N₃ p hp).2⟩
          rcases List.mem_cons.mp hp with rfl | hp
          · exact hDC
          · exact (off' p hp).2.1
        obtain ⟨fl, hfl, hfl2⟩ := objsOf (hob _ _ hst₅)
        obtain ⟨d, hd⟩ : ∃ d, ds[i]? = some d := ⟨_, List.getElem?_eq_getElem (hds.symm ▸ hlt)⟩
        have N₆ : News h₀ L h₅ ((C, oC) :: (fl ++ ((D, lst ys) :: (own ++ news)))) := fun p hp => by
          rcases List.mem_cons.mp hp with rfl | hp
          · exact ⟨heC, hCL, hC₀⟩
          · rcases List.mem_append.mp hp with hp | hp
            · exact ⟨(hfl p hp).1, hnew _ (hfl p hp).2⟩
            · exact N₅ p hp
        refine wpAny_pure ?_
        rw [if_pos rfl]
        refine wpAny_mono (turn i va vb d C oC m₅ h₅ tk₅ _ _ hva hvb hd hoC hma hmb F₅ N₆ fun p hp => List.mem_append_right _ (.tail _ (List.mem_append_right _ hp))) (fun y s₆ h₆ => ?_) fun _ _ e => e
        obtain ⟨h₆, tk₆, seg, rfl, F₆, N₇, hoff, hr⟩ := h₆
        have zC := N₇ (C, oC) (List.mem_append_right _ (.head _))
        have zD := N₇ (D, lst ys) (List.mem_append_right _ (.tail _ (List.mem_append_right _ (.head _))))
        have hst₆ : St (i + 1) h₆ := W.frame _ _ _ hst₅ fun b hb o e => by
          obtain ⟨o', ho'⟩ := hfl2 b hb
          have eo : o = o' := Option.some.inj (e.symm.trans (hfl _ ho').1)
          rw [eo]
          exact (N₇ (b, o') (List.mem_append_right _ (.tail _ (List.mem_append_left _ ho')))).1
        refine append_at (hsz := by show ys.toArray.size ≤ sizeLine; rw [List.size_toArray]; exact Nat.le_trans (Nat.le_trans hyl hi) hsz) zD.1 fun h₈ hs₈ hD₈ => ?_
        have offs : ∀ p ∈ (seg ++ own) ++ news, p.1 ∉ wr ∧ p.1 ≠ C ∧ p.1 ≠ D := fun p hp => by
          rw [List.append_assoc] at hp
          rcases List.mem_append.mp hp with hp | hp
          · refine ⟨fun hm => ?_, (hoff p hp _ (.head _)).symm, (hoff p hp _ (.tail _ (List.mem_append_right _ (.head _)))).symm⟩
            obtain ⟨o', ho'⟩ := hfl2 _ (W.sub _ hm)
            exact hoff p hp _ (.tail _ (List.mem_append_left _ ho')) rfl
          · exact off' p hp
        refine ⟨n + 1 - (i + 1), by omega, h₈, tk₆, i + 1, ys ++ [y], m₅, seg ++ own, rfl, hlt, rfl, by rw [List.length_append, List.length_singleton]; exact Nat.succ_le_succ hyl, W.frame _ _ _ hst₆ fun b hb o e => hs₈.extBut b o (fun q => hDf (q ▸ hb)) e, F₆.change hs₈ hDL hD₀, ?_, fun p hp => ?_, offs, ?_⟩
        · exact hoC.ns (hs₈.extBut _ _ (Ne.symm hDC) zC.1)
        · rcases List.mem_cons.mp hp with rfl | hp
          · exact ⟨hD₈.trans (congrArg some (lst_snoc ys y)), hDL, hD₀⟩
          · have hp' := hp
            rw [List.append_assoc] at hp'
            have z := N₇ p (by
              rcases List.mem_append.mp hp' with q | q
              · exact List.mem_append_left _ q
              · exact List.mem_append_right _ (.tail _ (List.mem_append_right _ (.tail _ q))))
            exact ⟨hs₈.extBut _ _ (offs p hp).2.2 z.1, z.2⟩
        · rw [List.take_add_one, hd]
          exact hI'.snoc (fun p hp => List.mem_append_right _ hp) fun hh st => hr hh (st.sub fun p hp => List.mem_append_left _ hp)
      · obtain rfl : i = n := Nat.le_antisymm hi (Nat.not_lt.mp hlt)
        refine W.done _ _ _ hst' fun h₂ tk₂ hk₂ => ?_
        rw [← hds, List.take_length] at hI'
        have o1 : ∀ l : List (Addr × Obj), (∀ p ∈ l, p.1 ≠ D) → Off1 D l := fun l => by
          induction l with
          | nil => exact fun _ => trivial
          | cons q l ih => exact fun hq => ⟨hq q (.head _), ih fun p hp => hq p (.tail _ hp)⟩
        exact hRR D C h₂ tk₂ _ ys own (fr_buts F' hk₂ hnw) (news_buts N' hk₂ offw) (o1 _ fun p hp => (off' p hp).2.2) (hn'.at' fun o e => hk₂ _ o hCw e) hC₀ hCL (Ne.symm hDC) (fun p hp => (off' p hp).2.1) hI'
    · rcases List.mem_cons.mp hp with rfl | hp
      · exact ⟨hacc, hDL, hD₀⟩
      · exact ⟨old _ _ (N p hp).1, (N p hp).2⟩
  exact codeAny_compStart_list (loop _ rfl) (W.self 0 _ _ _ hst₁ (loop _ rfl))

theorem comp_zip {elt iter : Expr} {xa xb : Str} {pa pb pt : Pos} {kt : Nat} {scope : Scope} {cl : List (Str × Addr)} {pos : Pos} {Q : Value → Shared → Prop} (ds : List PyData) (F₀ : Fr h₀ L s.heap m)
    (hclos : closureFor scope env = pure cl) (hcell : ∀ y ∈ scope.names, y.2 ≠ .cell) (hkind : scope.kind = .function)
    (hnames : ∀ y ∈ scope.names, y.2 = .local → scope.names.lookup y.1 = some .local) (hxa : scope.names.lookup xa = some .local) (hxb : scope.names.lookup xb = some .local) (hab : xa ≠ xb) (hh : A.handled = none)
    (h : wpAny (model prog w) A (eval iter env) (fun xv s₁ => ∃ z TI TO i1 i2 l1 l2 xs zs news, xv = .ref z ∧ ZipApart z TI TO i1 i2 l1 l2 ∧
      (IsZip s₁.heap z TI TO .none ∧ IsPair s₁.heap TI (.ref i1) (.ref i2) ∧ (∃ a b, IsPair s₁.heap TO a b) ∧ s₁.heap.IsListIter i1 l1 0 ∧ s₁.heap.IsListIter i2 l2 0 ∧ s₁.heap.IsList l1 xs ∧ s₁.heap.IsList l2 zs) ∧
      Fr h₀ L s₁.heap m ∧ News h₀ L s₁.heap news ∧ (∃ o, (l1, o) ∈ news) ∧ (∃ o, (l2, o) ∈ news) ∧ (∀ b ∈ [z, TI, TO, i1, i2], (b ≠ L ∧ h₀.get? b = none) ∧ ∀ p ∈ news, p.1 ≠ b) ∧ min xs.size zs.size = ds.length ∧ ds.length ≤ sizeLine ∧
      (∀ (i : Nat) va vb d C oC m₂ h tk (E' : Value → Shared → Prop) nw, xs[i]? = some va → zs[i]? = some vb → ds[i]? = some d → NsObj oC m₂ → m₂ xa = some va → m₂ xb = some vb → Fr h₀ L h m → News h₀ L h ((C, oC) :: nw) → (∀ p ∈ news, p ∈ nw) →
        wpAny (model prog w) A (eval elt (compEnvC scope cl C env)) (ElEnd h₀ L m s₁ ((C, oC) :: nw) d) E' { s₁ with heap := h, toks := tk }) ∧
      (∀ D h tk ys own, Fr h₀ L h m → News h₀ L h ((D, lst ys) :: (own ++ news)) → Off1 D (own ++ news) → ItemsD own ys ds → Q (.ref D) { s₁ with heap := h, toks := tk })) E s)
    (hs : ∀ x, foldedSetIterable iter env x = pure x := by intro _; rfl) :
    wpAny (model prog w) A (eval (.ListComp elt [⟨.Tuple [.Name xa pa, .Name xb pb] kt pt, iter, [], 0⟩] scope pos) env) Q E s := by
  rw [eval_ListComp]
  refine wpAny_comprehension_free (use := none) rfl hs hclos hkind hnames (wpAny_mono h (fun xv s₁ h₁ => ?_) fun _ _ e => e)
  obtain ⟨z, TI, TO, i1, i2, l1, l2, xs, zs, news, rfl, D0, hst, F, N, ⟨o1, hm1⟩, ⟨o2, hm2⟩, hz, hmin, hsz, turn, fin⟩ := h₁
  have W := WalksT.zip2 (prog := prog) (w := w) hh z TI TO i1 i2 l1 l2 D0 xs zs
  refine W.self 0 _ _ _ hst ?_
  have hob : ∀ (i : Nat) (h : Heap), (IsZip h z TI TO .none ∧ IsPair h TI (.ref i1) (.ref i2) ∧ (∃ a b, IsPair h TO a b) ∧ h.IsListIter i1 l1 i ∧ h.IsListIter i2 l2 i ∧ h.IsList l1 xs ∧ h.IsList l2 zs) → ∀ b ∈ [z, TI, TO, i1, i2, l1, l2], ∃ o, h.get? b = some o := by
    rintro i h ⟨a1, a2, ⟨_, _, a3⟩, ⟨q4, a4, _⟩, ⟨q5, a5, _⟩, ⟨q6, a6, _⟩, ⟨q7, a7, _⟩⟩ b hb
    simp only [List.mem_cons, List.not_mem_nil, or_false] at hb
    rcases hb with rfl | rfl | rfl | rfl | rfl | rfl | rfl
    · exact ⟨_, a1⟩
    · exact ⟨_, a2⟩
    · exact ⟨_, a3⟩
    · exact ⟨_, a4⟩
    · exact ⟨_, a5⟩
    · exact ⟨_, a6⟩
    · exact ⟨_, a7⟩
  refine block_T hh W (by rw [hmin]; exact hsz) hmin.symm hob hcell hkind hxa hxb hab hst (fun b hb => ?_) F N (fun b hb => ?_) (fun b hb => ?_) turn ?_
  · obtain ⟨o, e⟩ := hob 0 _ hst b hb
    exact Heap.lt_size e
  · simp only [List.mem_cons, List.not_mem_nil, or_false] at hb
    rcases hb with rfl | rfl | rfl | rfl | rfl | rfl | rfl
    · exact (hz _ (by simp)).1
    · exact (hz _ (by simp)).1
    · exact (hz _ (by simp)).1
    · exact (hz _ (by simp)).1
    · exact (hz _ (by simp)).1
    · exact (N _ hm1).2
    · exact (N _ hm2).2
  · simp only [List.mem_cons, List.not_mem_nil, or_false] at hb
    rcases hb with rfl | rfl | rfl | rfl
    · exact (hz _ (by simp)).2
    · exact (hz _ (by simp)).2
    · exact (hz _ (by simp)).2
    · exact (hz _ (by simp)).2
  · intro D C h tk m' ys own F' N' o1 hn hC₀ hCL hCD offC hI
    refine ⟨m', hn, fun h'' hs'' => fin D h'' tk ys own (F'.change hs'' hCL hC₀) (fun p hp => ?_) o1 hI⟩
    refine ⟨hs''.extBut _ _ ?_ (N' p hp).1, (N' p hp).2⟩
    rcases List.mem_cons.mp hp with rfl | hp
    · exact Ne.symm hCD
    · exact offC p hp
end
section
variable {prog : Program} {w : World} {A : Around} {E : Value → Shared → Prop} {s : Shared} {h₀ : Heap} {L : Addr} {m : Str → Option Value} {env : Env}
theorem comp_dataA {elt iter : Expr} {x y : Str} {px py : Pos} {scope : Scope} {cl : List (Str × Addr)} {pos spos : Pos} {Q : Flow → Shared → Prop} (ds : List PyData) (F₀ : Fr h₀ L s.heap m) (hLe : env.locals = L)
    (hsw : swapsWith (.ListComp elt [⟨.Name x px, iter, [], 0⟩] scope pos) (some (.Name y py)) spos.line env = pure true)
    (hclos : closureFor scope env = pure cl) (hcell : ∀ y ∈ scope.names, y.2 ≠ .cell) (hkind : scope.kind = .function)
    (hnames : ∀ y ∈ scope.names, y.2 = .local → scope.names.lookup y.1 = some .local) (hx : scope.names.lookup x = some .local)
    (hy : env.kindOf y = some .local) (hp : (env.scope.kind == .class || (env.scope.kind == .module && env.locals != env.globals)) = false) (hh : A.handled = none)
    (h : wpAny (model prog w) A (eval iter env) (fun xv s₁ => ∃ ax its news, xv = .ref ax ∧ Fr h₀ L s₁.heap m ∧ News h₀ L s₁.heap news ∧ SrcAt h₀ ax its news ∧ its.size ≤ sizeLine ∧ its.size = ds.length ∧
      (∀ (i : Nat) v d C oC m₂ h tk (E' : Value → Shared → Prop) nw, its[i]? = some v → ds[i]? = some d → NsObj oC m₂ → m₂ x = some v → Fr h₀ L h m → News h₀ L h ((C, oC) :: nw) → (∀ p ∈ news, p ∈ nw) →
        wpAny (model prog w) A (eval elt (compEnvC scope cl C env)) (ElEnd h₀ L m s₁ ((C, oC) :: nw) d) E' { s₁ with heap := h, toks := tk }) ∧
      (∀ D h tk ys own, Fr h₀ L h (fun z => if z = y then some (.ref D) else m z) → News h₀ L h ((D, lst ys) :: (own ++ news)) → Off1 D (own ++ news) → ItemsD own ys ds → Q .next { s₁ with heap := h, toks := tk })) E s)
    (hs : ∀ x, foldedSetIterable iter env x = pure x := by intro _; rfl) :
    wpAny (model prog w) A (exec (.Assign [.Name y py] (.ListComp elt [⟨.Name x px, iter, [], 0⟩] scope pos) spos) env) Q E s := by
  refine Assign_ListComp_U F₀ hLe hsw hclos hcell hkind hnames hx hy hp (wpAny_mono h (fun xv s₁ h₁ => ?_) fun _ _ e => e) hs
  obtain ⟨ax, its, news, rfl, F, N, hsrc, hsz, hlen, turn, fin⟩ := h₁
  refine .inl ⟨ax, its, news, rfl, hh, F, N, hsrc, hsz, ?_⟩
  rintro s₂ ⟨g, rfl⟩
  refine rest_inv (fun i ys nw => ∃ own, nw = own ++ news ∧ ItemsD own ys (ds.take i)) (n := its.size) ?_ ?_ its.size 0 [] news (Nat.zero_add _) ⟨[], rfl, .nil _⟩
  · rintro i ys nw v I oI C oC D m₂ h' tk E' hi ⟨own, rfl, hit⟩ hv hC hm F₁ N₁ off ne
    obtain ⟨d, hd⟩ : ∃ d, ds[i]? = some d := ⟨_, List.getElem?_eq_getElem (hlen ▸ hi)⟩
    have N₂ : News h₀ L h' ((C, oC) :: (I, oI) :: (D, lst ys) :: (own ++ news)) := pull1 N₁
    refine wpAny_mono (turn i v d C oC m₂ h' tk E' _ hv hd hC hm F₁ N₂ fun p hp => .tail _ (.tail _ (List.mem_append_right _ hp))) (fun y s₃ z => ?_) fun _ _ e => e
    obtain ⟨h₃, tk₃, seg, rfl, F₃, N₃, hoff, hr⟩ := z
    refine ⟨h₃, tk₃, (seg ++ own) ++ news, rfl, F₃, fun p hp => N₃ p ?_, .of fun p hp => ?_, ?_, seg ++ own, rfl, ?_⟩
    · rcases List.mem_cons.mp hp with rfl | hp
      · exact List.mem_append_right _ (.tail _ (.head _))
      · rcases List.mem_cons.mp hp with rfl | hp
        · exact List.mem_append_right _ (.head _)
        · rcases List.mem_cons.mp hp with rfl | hp
          · exact List.mem_append_right _ (.tail _ (.tail _ (.head _)))
          · rw [List.append_assoc] at hp
            rcases List.mem_append.mp hp with hp | hp
            · exact List.mem_append_left _ hp
            · exact List.mem_append_right _ (.tail _ (.tail _ (.tail _ hp)))
    · rw [List.append_assoc] at hp
      rcases List.mem_append.mp hp with hp | hp
      · exact ⟨(hoff p hp _ (.tail _ (.head _))).symm, (hoff p hp _ (.head _)).symm, (hoff p hp _ (.tail _ (.tail _ (.head _)))).symm⟩
      · exact off.mem p hp
    · rcases hsrc with e | ⟨o, hm', r⟩
      · exact .inl e
      · exact .inr ⟨o, List.mem_append_right _ hm', r⟩
    · rw [List.take_add_one, hd]
      exact hit.snoc (fun p hp => List.mem_append_right _ hp) fun hh st => hr hh (st.sub fun p hp => List.mem_append_left _ hp)
  · rintro ys nw ⟨own, rfl, hit⟩ D h' tk F₁ N₁ off
    rw [hlen, List.take_length] at hit
    exact fin D h' tk ys own F₁ N₁ off hit
end
noncomputable abbrev envL (L : Addr) : Env := envOf (Str.ofString "law") (fnS (stm 22)) L 273 (Value.ref 272)
/-- what the law's later statements stand on -/
structure LawAt (h₀ h : Heap) (L : Addr) (m : Str → Option Value) (ps : List Tr) (r tr S : Addr) (sv : List Value) (ks : Nat) (tw : Tok) (rest : List (Addr × Obj)) : Prop where
  good : GoodT ps 200 50
  F : Fr h₀ L h m
  N : News h₀ L h ((S, listOf sv.toArray ks) :: rest)
  off : ∀ p ∈ rest, p.1 ≠ S
  drawn : ∀ h, Stand h rest → RdT h (.ref r) (.rm ps)
  tree : ∀ h, Stand h rest → RdT h (.ref tr) (Tr.rm ps).bare
  shown : F2 StrIs sv (Tr.rm ps).bare.texts
  names : ∀ p ∈ [(Str.ofString "remark", Value.str ⟨(Tr.rm ps).wr.toArray⟩ tw), (Str.ofString "shown", Value.ref S), (Str.ofString "tree", Value.ref tr), (Str.ofString "drawn", Value.ref r)], m p.1 = some p.2
theorem ints_get : ∀ {vs : List Value} {ns : List Int}, IntsAre vs ns → ∀ (i : Nat) (v : Value), vs[i]? = some v → ∃ k t, v = Value.int k t
  | _, _, .nil, i, v, h => by simp at h
  | _, _, .cons k t r, 0, v, h => by simp at h; exact ⟨k, t, h.symm⟩
  | _, _, .cons k t r, i + 1, v, h => ints_get r i v (by simpa using h)
theorem law_1 {w : World} {A : Around} {s : Shared} {la L : Addr} {vs : List Value} {ns : List Int} {h₀ : Heap} {Q : Flow → Shared → Prop} {mean : ExcName → Option Value} {mg mb : Str → Option Value} {m : Str → Option Value}
    (X : (KK w.params).In h₀) (T : TopV mean mg mb h₀) (ok : Ok A 79) (hl : h₀.IsList la vs.toArray) (hI : IntsAre vs ns) (hn : ns.length ≤ 63) (F : Fr h₀ L s.heap m) (hm : ∀ p ∈ [(Str.ofString "script", Value.ref la)], m p.1 = some p.2) (N : News h₀ L s.heap [])
    (h : ∀ h' tk m' ps r tr S sv ks tw rest, LawAt h₀ h' L m' ps r tr S sv ks tw rest → wpAny (model pg w) A (execs ((fnB (stm 22)).drop 4) (envL L)) Q (fun _ _ => False) { s with heap := h', toks := tk }) :
    wpAny (model pg w) A (execs (fnB (stm 22)) (envL L)) Q (fun _ _ => False) s := by
  have F₁ : Fr h₀ L s.heap (kstB m [(Str.ofString "script", Value.ref la)]) := by rw [kstB_self hm]; exact F
  clear F
  k_steps
  rename_i D1 ws h1 F1 N1 hI1 hC1 hL1 _
  refine tree_spec (X.keeps F1.keep) (T.keeps F1.keep) (ok.less (by omega)) ⟨_, (N1 _ (.head _)).1, rfl, _, rfl⟩ (fun i v hv => ?_) (by rw [List.size_toArray, IntsAre.length hI1]; omega) fun h2 tk2 r ps seg hk2 hg mk => ?_
  · exact ints_get hI1 i v (by simpa using hv)
  obtain ⟨N2, off2⟩ := made_new F1 N1 hk2 mk.new
  have F2' := frK F1 hk2
  have hdr : ∀ h, Stand h (seg ++ [(D1, listOf ws.toArray 0)]) → RdT h (.ref r) (.rm ps) := fun hh st => mk.reads hh (st.sub fun p hp => List.mem_append_left _ hp)
  clear F1 N1
  generalize seg ++ [(D1, listOf ws.toArray 0)] = rest at N2 hdr
  have gs := hg.size
  have gr := hg.rmc
  have hg' := hg
  obtain ⟨ga, _, _, gm⟩ := hg'
  k_steps
  rename Fr _ _ _ _ => F3
  rename News _ _ _ _ => N3
  refine bare_all w 50 A _ r ps _ _ mean mg mb (X.keeps F3.keep) (T.keeps F3.keep) (ok.less (by omega)) (hdr _ fun p hp => (N3 p hp).1) gr (by omega) gm fun h4 tk4 tr seg4 hk4 hs4 hr4 => ?_
  obtain ⟨N4, off4⟩ := made_new F3 N3 hk4 hs4
  have F4 := frK F3 hk4
  have hdr4 : ∀ h, Stand h (seg4 ++ rest) → RdT h (.ref r) (.rm ps) := fun hh st => hdr hh (st.sub fun p hp => List.mem_append_right _ hp)
  have htr4 : ∀ h, Stand h (seg4 ++ rest) → RdT h (.ref tr) (Tr.rm ps).bare := fun hh st => hr4 hh (st.sub fun p hp => List.mem_append_left _ hp)
  clear F3 N3 off4
  generalize seg4 ++ rest = rest4 at N4 hdr4 htr4
  have sb := size_bare (.rm ps)
  have rb := rmc_bare (.rm ps)
  rw [bare_rm] at sb rb
  k_steps
  rename Fr _ _ _ _ => F5
  rename News _ _ _ _ => N5
  refine texts_all w 50 A _ tr (ps.map Tr.bare) _ _ mean mg mb (X.keeps F5.keep) (T.keeps F5.keep) (ok.less (by omega)) ?_ (by omega) (by omega) fun h6 tk6 S sv ks hk6 hD6 hn6 hsv => ?_
  · rw [← bare_rm]; exact htr4 _ fun p hp => (N5 p hp).1
  have F6 := frK F5 hk6
  have N6 := newsNew F5 (nwK N5 hk6) hD6 hn6
  have off6 := newNe N5 hn6
  rw [← bare_rm] at hsv
  clear F5 N5
  k_steps
  rename Fr _ _ _ _ => F7
  rename News _ _ _ _ => N7
  refine remark_all w 50 A _ r ps _ _ mean mg mb (X.keeps F7.keep) (T.keeps F7.keep) (ok.less (by omega)) (hdr4 _ fun p hp => (N7 p (.tail _ hp)).1) gr (by omega) fun h8 tk8 tw hk8 => ?_
  have F8 := frK F7 hk8
  have N8 := nwK N7 hk8
  clear F7 N7
  walk1
  rename Fr _ _ _ _ => F9
  rename News _ _ _ _ => N9
  exact h _ _ _ ps r tr S sv ks tw rest4 ⟨hg, F9, N9, off6, hdr4, htr4, hsv, by walk_at "names"⟩
noncomputable def lawStmt (i : Nat) : Stmt := (fnB (stm 22)).getD i (.Pass ⟨0,0,0,0⟩)
theorem LawAt.fr {h₀ h : Heap} {L r tr S : Addr} {m : Str → Option Value} {ps : List Tr} {sv : List Value} {ks : Nat} {tw : Tok} {rest : List (Addr × Obj)} (x : LawAt h₀ h L m ps r tr S sv ks tw rest) :
    Fr h₀ L h (kstB m [(Str.ofString "remark", Value.str ⟨(Tr.rm ps).wr.toArray⟩ tw), (Str.ofString "shown", Value.ref S), (Str.ofString "tree", Value.ref tr), (Str.ofString "drawn", Value.ref r)]) := by rw [kstB_self x.names]; exact x.F
theorem LawAt.next {h₀ h h' : Heap} {L r tr S : Addr} {m : Str → Option Value} {ps : List Tr} {sv : List Value} {ks : Nat} {tw : Tok} {rest : List (Addr × Obj)} (x : LawAt h₀ h L m ps r tr S sv ks tw rest) (F : Fr h₀ L h' m)
    (N : News h₀ L h' ((S, listOf sv.toArray ks) :: rest)) : LawAt h₀ h' L m ps r tr S sv ks tw rest := { x with F := F, N := N }
section
variable {w : World} {A : Around} {s : Shared} {L r tr S : Addr} {h₀ : Heap} {Q : Flow → Shared → Prop} {mean : ExcName → Option Value} {mg mb m : Str → Option Value} {ps : List Tr} {sv : List Value} {ks : Nat} {tw : Tok} {rest : List (Addr × Obj)}
theorem law_4 (X : (KK w.params).In h₀) (T : TopV mean mg mb h₀) (ok : Ok A 79) (x : LawAt h₀ s.heap L m ps r tr S sv ks tw rest)
    (h : ∀ h' tk, LawAt h₀ h' L m ps r tr S sv ks tw rest → Q .next { s with heap := h', toks := tk }) :
    wpAny (model pg w) A (exec (lawStmt 4) (envL L)) Q (fun _ _ => False) s := by
  have F := x.fr
  have N := x.N
  have hwl := wr_len (.rm ps)
  have gs := x.good.size
  have gr := x.good.rmc
  have rb := rmc_bare (.rm ps)
  show wpAny (model pg w) A (exec (Stmt.If _ _ _ _) (envL L)) _ _ _
  k_steps
  refine read_remark (X.keeps F.keep) (T.keeps F.keep) (ok.less (by omega)) (by rw [len_mk]; omega) (wr_small _ x.good.small) fun h2 tk2 v seg hk2 mk => ?_
  have rl : rrRun (⟨(Tr.rm ps).wr.toArray⟩ : Str).cps.toList (⟨[], [], []⟩, false) = (⟨[.tx [], (Tr.rm ps).bare], [], []⟩, false) := rr_law x.good.alt
  rw [rl] at mk
  obtain ⟨N2, off2⟩ := made_new F N hk2 mk.new
  have F2' := frK F hk2
  clear F N
  have N3 : News h₀ L h2 ((S, listOf sv.toArray ks) :: (seg ++ rest)) := nsub N2 fun p hp => by
    rcases List.mem_cons.mp hp with rfl | hp
    · exact List.mem_append_right _ (.head _)
    · rcases List.mem_append.mp hp with hp | hp
      · exact List.mem_append_left _ hp
      · exact List.mem_append_right _ (.tail _ hp)
  have hv : ∀ h, Stand h (seg ++ rest) → ∃ as, Reads h v _ as := fun hh st => mk.reads hh (st.sub fun p hp => List.mem_append_left _ hp)
  have htr : ∀ h, Stand h (seg ++ rest) → RdT h (.ref tr) (Tr.rm ps).bare := fun hh st => x.tree hh (st.sub fun p hp => List.mem_append_right _ hp)
  have hsub : ∀ p ∈ rest, p ∈ seg ++ rest := fun p hp => List.mem_append_right _ hp
  have hoff3 : ∀ p ∈ seg ++ rest, p.1 ≠ S := fun p hp => by
    rcases List.mem_append.mp hp with hp | hp
    · exact fun e => off2 p hp _ (.head _) e.symm
    · exact x.off p hp
  clear N2 mk off2
  generalize seg ++ rest = rest3 at N3 hv htr hsub hoff3
  have ed : (PyData.list [(Tr.rm (Z.close ⟨[.tx [], (Tr.rm ps).bare], [], []⟩)).toD, .int ((([] : List (List Tr)).length + 1 : Nat)), .bool false]) = .list [.list [.str ⟨[].toArray⟩, (Tr.rm ps).bare.toD, .str ⟨[].toArray⟩], .int 1, .bool false] := by
    rw [toD_rm]
    simp [Z.close, closeZ, Z.top, toD_tx]
  have e0 : Str.ofString "" = ⟨[].toArray⟩ := by decide +kernel
  k_steps
  rename_i l1 _ _ l2 h4 F4 N4 _
  rw [e0] at N4
  refine ne_same (d := .list [.list [.str ⟨[].toArray⟩, (Tr.rm ps).bare.toD, .str ⟨[].toArray⟩], .int 1, .bool false]) ?_ ?_ ?_ ok ?_
  · rw [← ed]; exact hv _ fun p hp => (N4 p (.tail _ (.tail _ (.tail _ hp)))).1
  · obtain ⟨as, ht⟩ := htr h4 fun p hp => (N4 p (.tail _ (.tail _ (.tail _ hp)))).1
    exact ⟨_, .list (N4 _ (.head _)).1 rfl rfl (.cons (.list (N4 _ (.tail _ (.head _))).1 rfl rfl (.cons (.str _ _) (.cons ht (.cons (.str _ _) .nil)))) (.cons (.int _ _) (.cons (.bool _) .nil)))⟩
  · have z := (shp_tree _ (small_bare x.good.small)).mono (k' := 60) (by omega)
    refine shp_list (k := 63) fun d hd => ?_
    simp only [List.mem_cons, List.mem_nil_iff, or_false] at hd
    rcases hd with rfl | rfl | rfl
    · refine (shp_list (k := 60) fun d hd => ?_).mono (by decide)
      simp only [List.mem_cons, List.mem_nil_iff, or_false] at hd
      rcases hd with rfl | rfl | rfl
      · exact shp_str _ (by simp)
      · exact z
      · exact shp_str _ (by simp)
    · exact shp_int _ _
    · exact shp_bool _ _
  · k_steps
    refine h _ _ (x.next ?_ fun p hp => N4 p (.tail _ (.tail _ ?_)))
    · rw [kstB_self x.names] at F4; exact F4
    · rcases List.mem_cons.mp hp with rfl | hp
      · exact .head _
      · exact .tail _ (hsub p hp)
theorem law_5 (X : (KK w.params).In h₀) (T : TopV mean mg mb h₀) (ok : Ok A 79) (x : LawAt h₀ s.heap L m ps r tr S sv ks tw rest)
    (h : ∀ h' tk, LawAt h₀ h' L m ps r tr S sv ks tw rest → Q .next { s with heap := h', toks := tk }) :
    wpAny (model pg w) A (exec (lawStmt 5) (envL L)) Q (fun _ _ => False) s := by
  have F := x.fr
  have N := x.N
  have hwl := wr_len (.rm ps)
  have gs := x.good.size
  have hsv := x.shown
  have hsl := hsv.length
  have htl := texts_le (Tr.rm ps).bare
  have sb := size_bare (.rm ps)
  have off := x.off
  show wpAny (model pg w) A (exec (Stmt.If _ _ _ _) (envL L)) _ _ _
  iterate 14 walk1
  refine comp_data (cl := []) ((Tr.rm ps).bare.texts.map fun l => PyData.int (need l)) F rfl (by decide) rfl (by decide) rfl ok.handled ?_
  refine ld F rfl ?_
  refine ⟨S, sv.toArray, _, rfl, F, N, .inr ⟨_, .head _, rfl, _, rfl⟩, by rw [List.size_toArray, PySem.sizeLine_eq]; omega, by rw [List.size_toArray, List.length_map]; exact hsl, ?_, ?_⟩
  · intro i v d C oC m₂ h5 tk5 E' nw hv5 hd5 hC hm F5 N5 hsub
    obtain ⟨l, hl, t, rfl⟩ := hsv.get (by simpa using hv5 : sv[i]? = some v)
    rw [List.getElem?_map, hl] at hd5
    cases hd5
    clear F N
    k_steps
    refine elEnd_val (h := h5) F5 N5 fun hh => ⟨[], ?_⟩
    have en : need l = Txt.count ⟨l.toArray⟩ (Str.ofString "(") + Txt.count ⟨l.toArray⟩ (Str.ofString ")") + 2 * Txt.count ⟨l.toArray⟩ (Str.ofString "\\") := by
      rw [s40, s41, s92, count_cnt, count_cnt, count_cnt]
      rfl
    rw [en]
    exact .int _ _
  · intro D h5 tk5 ys own F5 N5 off5 hit5
    clear F N
    have hys : IntsAre ys ((Tr.rm ps).bare.texts.map need) := by
      obtain ⟨as, hr5⟩ := hit5.2 h5 fun p hp => (N5 p (.tail _ (List.mem_append_left _ hp))).1
      refine readsInts (h := h5) (as := as) ?_
      rw [List.map_map]
      exact hr5
    have ec : Txt.count ⟨(Tr.rm ps).wr.toArray⟩ (Str.ofString "\\") = ((Tr.rm ps).bare.texts.map need).sum := by
      rw [s92, count_cnt]
      exact cnt_wr _
    k_steps
    refine LSm.sum_ints F5 N5 ok.handled ⟨_, (N5 _ (.head _)).1, rfl, _, rfl⟩ hys fun h6 tk6 t6 F6 N6 => ?_
    rw [ec]
    clear F5 N5
    k_steps
    · rename _ ≠ _ => hne
      exact absurd rfl hne
    · refine h _ _ (x.next ?_ fun p hp => N6 p (.tail _ (List.mem_append_right _ hp)))
      rw [kstB_self x.names] at F6; exact F6
end
section
variable {w : World} {A : Around} {s : Shared} {L r tr S : Addr} {h₀ : Heap} {Q : Flow → Shared → Prop} {mean : ExcName → Option Value} {mg mb m : Str → Option Value} {ps : List Tr} {sv : List Value} {ks : Nat} {tw : Tok} {rest : List (Addr × Obj)}
theorem off1_mem {D : Addr} : ∀ {l : List (Addr × Obj)}, Off1 D l → ∀ p ∈ l, p.1 ≠ D
  | [], _, _, h => nomatch h
  | _ :: _, x, p, h => by
    rcases List.mem_cons.mp h with rfl | h
    · exact x.1
    · exact off1_mem x.2 p h
theorem escQ_append (a b : List Nat) : escQ (a ++ b) = escQ a ++ escQ b := List.flatMap_append
theorem escQ_flat : ∀ ls : List (List Nat), escQ ls.flatten = (ls.map escQ).flatten
  | [] => rfl
  | l :: ls => by rw [List.flatten_cons, escQ_append, escQ_flat ls]; rfl
theorem law_6 (X : (KK w.params).In h₀) (T : TopV mean mg mb h₀) (ok : Ok A 79) (x : LawAt h₀ s.heap L m ps r tr S sv ks tw rest)
    (h : ∀ h' tk m' qd qv kq rest', LawAt h₀ h' L m' ps r tr S sv ks tw rest' → (qd, listOf qv.toArray kq) ∈ rest' → F2 StrIs qv ((Tr.rm ps).texts.map fun l => quo (shown l)) → m' (Str.ofString "quoted") = some (.ref qd) → Q .next { s with heap := h', toks := tk }) :
    wpAny (model pg w) A (exec (lawStmt 6) (envL L)) Q (fun _ _ => False) s := by
  have F := x.fr
  have N := x.N
  have gs := x.good.size
  have gr := x.good.rmc
  have htl := texts_le (Tr.rm ps)
  have off := x.off
  show wpAny (model pg w) A (exec (Stmt.Assign [Expr.Name _ _] (Expr.ListComp _ _ _ _) _) (envL L)) _ _ _
  refine comp_dataA (cl := []) ((Tr.rm ps).texts.map fun l => PyData.str ⟨(quo (shown l)).toArray⟩) F (by rfl) (by with_unfolding_all rfl) (by rfl) (by decide) (by rfl) (by decide) (by rfl) (by rfl) (by rfl) ok.handled ?_
  k_steps
  refine texts_all w 50 A _ r ps _ _ mean mg mb (X.keeps F.keep) (T.keeps F.keep) (ok.less (by omega)) (x.drawn _ fun p hp => (N p (.tail _ hp)).1) (by omega) (by omega) fun h2 tk2 D2 vs2 k2 hk2 hD2 hn2 hv2 => ?_
  have F2' := frK F hk2
  have N2' := newsNew F (nwK N hk2) hD2 hn2
  have off2 := newNe N hn2
  have hvl := hv2.length
  refine ⟨D2, vs2.toArray, _, rfl, F2', N2', .inr ⟨_, .head _, rfl, _, rfl⟩, by rw [List.size_toArray, PySem.sizeLine_eq]; omega, by rw [List.size_toArray, List.length_map]; exact hvl, ?_, ?_⟩
  · intro i v d C oC m₂ h5 tk5 E' nw hv5 hd5 hC hm F5 N5 hsub
    obtain ⟨l, hl, t, rfl⟩ := hv2.get (by simpa using hv5 : vs2[i]? = some v)
    rw [List.getElem?_map, hl] at hd5
    cases hd5
    have hlm := List.mem_of_getElem? hl
    have hll := text_len hlm
    clear F N F2' N2'
    have hql := quo_len (shown l)
    have hsl := shown_len l
    have hvl' := vis_len l
    have hel := escQ_len (vis l)
    iterate 9 walk1
    refine comp_data (cl := []) ((pcs l).map fun p => PyData.str ⟨(escQ (seen p)).toArray⟩) F5 (by rfl) (by decide) (by rfl) (by decide) (by rfl) ok.handled ?_
    k_steps
    refine pieces_F F5 N5 X T (ok.less (by omega)) (by rw [len_mk]; omega) fun h6 tk6 P n6 vs6 tl6 F6 N6 off6 hF => ?_
    have hF' : F2 (TokIn tl6) vs6 (pcs l) := hF
    have hlen := hF'.length
    have hpl := (pcs_len _ l (Nat.le_refl _)).1
    refine ⟨P, vs6.toArray, _, rfl, F6, N6, .inr ⟨_, .head _, rfl, _, rfl⟩, by rw [List.size_toArray, PySem.sizeLine_eq]; omega, by rw [List.size_toArray, List.length_map]; exact hlen, ?_, ?_⟩
    · intro j v d C7 oC7 m7 h7 tk7 E7 nw7 hv7 hd7 hC7 hm7 F7 N7 hsub7
      obtain ⟨p, hp, htok⟩ := hF'.get (by simpa using hv7 : vs6[j]? = some v)
      rw [List.getElem?_map, hp] at hd7
      cases hd7
      have hpm := List.mem_of_getElem? hp
      have hpo := (pcs_ok _ l (Nat.le_refl _) p hpm).1
      have hpln := piece_len hpm
      have hst : Stand h7 tl6 := fun q hq => (N7 q (.tail _ (hsub7 q (.tail _ (List.mem_append_left _ hq))))).1
      have hsh := shows_pc (X.keeps F7.keep) (T.keeps F7.keep) hst htok hpo (by omega)
      obtain ⟨av, Dv, tv, rfl, hmv⟩ := htok
      clear F5 N5 F6 N6
      k_steps
      refine mqp (X.keeps F7.keep) (T.keeps F7.keep) (ok.less (by omega)) (by rw [len_mk]; have := seen_le p; omega) hsh fun h8 tk8 t8 hk8 => ?_
      exact elEnd_val (h := h8) (frK F7 hk8) (nwK N7 hk8) fun hh => ⟨[], .str _ _⟩
    · intro D h7 tk7 ys own F7 N7 off7 hit7
      have hys : F2 StrIs ys ((pcs l).map fun p => escQ (seen p)) := by
        obtain ⟨as, hr7⟩ := hit7.2 h7 fun p hp => (N7 p (.tail _ (List.mem_append_left _ hp))).1
        refine readsStrs (h := h7) (as := as) ?_
        rw [List.map_map]
        exact hr7
      have efl : ((pcs l).map fun p => escQ (seen p)).flatten = escQ (vis l) := by
        unfold vis
        rw [escQ_flat, List.map_map]
        rfl
      clear F5 N5 F6 N6
      k_steps
      refine join_flat ⟨_, (N7 _ (.head _)).1, rfl, _, rfl⟩ hys (by rw [efl]; omega) fun t8 k8 => ?_
      rw [efl]
      have hl8 : (Str.mk (escQ (vis l)).toArray).length ≤ 10000 := by rw [len_mk]; omega
      k_steps
      have eq : Str.ofString "\"" ++ (⟨(escQ (vis l)).toArray⟩ : Str) ++ Str.ofString "\"" = ⟨(quo (shown l)).toArray⟩ := by
        rw [show Str.ofString "\"" = ⟨[34].toArray⟩ from by decide +kernel, mk_append, mk_append, vis_shown]
        rfl
      rw [eq]
      exact elEnd_val (h := h7) F7 (nsub N7 fun p hp => .tail _ (List.mem_append_right _ (.tail _ (List.mem_append_right _ hp)))) fun hh => ⟨[], .str _ _⟩
  · intro D h5 tk5 ys own F5 N5 off5 hit5
    have hys : F2 StrIs ys ((Tr.rm ps).texts.map fun l => quo (shown l)) := by
      obtain ⟨as, hr5⟩ := hit5.2 h5 fun p hp => (N5 p (.tail _ (List.mem_append_left _ hp))).1
      refine readsStrs (h := h5) (as := as) ?_
      rw [List.map_map]
      exact hr5
    have o1 := off1_mem off5
    refine h _ _ _ D ys ys.length ((D, lst ys) :: rest) ⟨x.good, F5, nsub N5 fun p hp => ?_, fun p hp => ?_, fun hh st => x.drawn hh (st.sub fun p hp => .tail _ hp), fun hh st => x.tree hh (st.sub fun p hp => .tail _ hp), x.shown, by walk_at "names"⟩ (.head _) hys rfl
    · rcases List.mem_cons.mp hp with rfl | hp
      · exact .tail _ (List.mem_append_right _ (.tail _ (.head _)))
      · rcases List.mem_cons.mp hp with rfl | hp
        · exact .head _
        · exact .tail _ (List.mem_append_right _ (.tail _ (.tail _ hp)))
    · rcases List.mem_cons.mp hp with rfl | hp
      · exact fun e => o1 _ (List.mem_append_right _ (.tail _ (.head _))) e.symm
      · exact x.off p hp
end
structure LawQ (h₀ h : Heap) (L : Addr) (m : Str → Option Value) (ps : List Tr) (r tr S : Addr) (sv : List Value) (ks : Nat) (tw : Tok) (rest : List (Addr × Obj)) (qd : Addr) (qv : List Value) (kq : Nat) : Prop extends LawAt h₀ h L m ps r tr S sv ks tw rest where
  qmem : (qd, listOf qv.toArray kq) ∈ rest
  quoted : F2 StrIs qv ((Tr.rm ps).texts.map fun l => quo (Mine.shown l))
  qname : m (Str.ofString "quoted") = some (.ref qd)
section
variable {w : World} {A : Around} {s : Shared} {L r tr S qd : Addr} {h₀ h h' : Heap} {Q : Flow → Shared → Prop} {mean : ExcName → Option Value} {mg mb m : Str → Option Value} {ps : List Tr} {sv qv : List Value} {ks kq : Nat} {tw : Tok} {rest : List (Addr × Obj)}
theorem LawQ.names' (x : LawQ h₀ h L m ps r tr S sv ks tw rest qd qv kq) : ∀ p ∈ [(Str.ofString "quoted", Value.ref qd), (Str.ofString "remark", Value.str ⟨(Tr.rm ps).wr.toArray⟩ tw), (Str.ofString "shown", Value.ref S), (Str.ofString "tree", Value.ref tr), (Str.ofString "drawn", Value.ref r)], m p.1 = some p.2 :=
  List.forall_mem_cons.2 ⟨x.qname, x.names⟩
theorem LawQ.fr' (x : LawQ h₀ h L m ps r tr S sv ks tw rest qd qv kq) : Fr h₀ L h (kstB m [(Str.ofString "quoted", Value.ref qd), (Str.ofString "remark", Value.str ⟨(Tr.rm ps).wr.toArray⟩ tw), (Str.ofString "shown", Value.ref S), (Str.ofString "tree", Value.ref tr), (Str.ofString "drawn", Value.ref r)]) := by
  rw [kstB_self x.names']; exact x.F
theorem LawQ.next' (x : LawQ h₀ h L m ps r tr S sv ks tw rest qd qv kq) (F : Fr h₀ L h' m) (N : News h₀ L h' ((S, listOf sv.toArray ks) :: rest)) : LawQ h₀ h' L m ps r tr S sv ks tw rest qd qv kq := { x with F := F, N := N }
theorem LawQ.small (x : LawQ h₀ h L m ps r tr S sv ks tw rest qd qv kq) {l : List Nat} (hl : l ∈ (Tr.rm ps).texts) : (∀ c ∈ Mine.shown l, c < 55296) ∧ (Mine.shown l).length ≤ 200 ∧ (quo (Mine.shown l)).length ≤ 402 := by
  have h1 := shown_len l
  have h2 := text_len hl
  have h3 := x.good.size
  have h4 := quo_len (Mine.shown l)
  exact ⟨shown_small (x.good.small l hl), by omega, by omega⟩
theorem law_8 (X : (KK w.params).In h₀) (T : TopV mean mg mb h₀) (ok : Ok A 79) (x : LawQ h₀ s.heap L m ps r tr S sv ks tw rest qd qv kq)
    (h : ∀ h' tk, LawQ h₀ h' L m ps r tr S sv ks tw rest qd qv kq → Q .next { s with heap := h', toks := tk }) :
    wpAny (model pg w) A (exec (lawStmt 8) (envL L)) Q (fun _ _ => False) s := by
  have F := x.fr'
  have N := x.N
  have gs := x.good.size
  have htl := texts_le (Tr.rm ps)
  have hq := x.quoted
  have hql := hq.length
  rw [List.length_map] at hql
  have hsv := x.shown
  rw [bare_texts] at hsv
  have hsl := hsv.length
  rw [List.length_map] at hsl
  show wpAny (model pg w) A (exec (Stmt.If _ _ _ _) (envL L)) _ _ _
  iterate 2 walk1
  refine comp_data (cl := []) ((Tr.rm ps).texts.map fun l => PyData.int (cnt 92 (quo (Mine.shown l)))) F (by rfl) (by decide) (by rfl) (by decide) (by rfl) ok.handled ?_
  refine ld F rfl ?_
  refine ⟨qd, qv.toArray, _, rfl, F, N, .inr ⟨_, .tail _ x.qmem, rfl, _, rfl⟩, by rw [List.size_toArray, PySem.sizeLine_eq]; omega, by rw [List.size_toArray, List.length_map]; exact hql, ?_, ?_⟩
  · intro i v d C oC m₂ h5 tk5 E' nw hv5 hd5 hC hm F5 N5 hsub
    obtain ⟨ql, hl, t, rfl⟩ := hq.get (by simpa using hv5 : qv[i]? = some v)
    rw [List.getElem?_map] at hl hd5
    cases hl' : (Tr.rm ps).texts[i]? with
    | none => rw [hl'] at hl; cases hl
    | some l =>
      rw [hl'] at hl hd5
      cases hl
      cases hd5
      clear F N
      k_steps
      refine elEnd_val (h := h5) F5 N5 fun hh => ⟨[], ?_⟩
      rw [s92, count_cnt]
      exact .int _ _
  · intro D h5 tk5 ys own F5 N5 off5 hit5
    clear F N
    refine comp_data (cl := []) ((Tr.rm ps).texts.map fun l => PyData.int (cnt 92 (quo (Mine.shown l)))) F5 (by rfl) (by decide) (by rfl) (by decide) (by rfl) ok.handled ?_
    refine ld F5 rfl ?_
    refine ⟨S, sv.toArray, _, rfl, F5, N5, .inr ⟨_, .tail _ (List.mem_append_right _ (.head _)), rfl, _, rfl⟩, by rw [List.size_toArray, PySem.sizeLine_eq]; omega, by rw [List.size_toArray, List.length_map]; exact hsl, ?_, ?_⟩
    · intro i v d C oC m₂ h6 tk6 E' nw hv6 hd6 hC hm F6 N6 hsub
      obtain ⟨ql, hl, t, rfl⟩ := hsv.get (by simpa using hv6 : sv[i]? = some v)
      rw [List.getElem?_map] at hl hd6
      cases hl' : (Tr.rm ps).texts[i]? with
      | none => rw [hl'] at hl; cases hl
      | some l =>
        rw [hl'] at hl hd6
        cases hl
        cases hd6
        clear F5 N5
        k_steps
        refine elEnd_val (h := h6) F6 N6 fun hh => ⟨[], ?_⟩
        rw [s92, s34, count_cnt, count_cnt, cnt_quo]
        exact .int _ _
    · intro D2 h6 tk6 ys2 own2 F6 N6 off6 hit6
      clear F5 N5
      refine ne_same (d := .list ((Tr.rm ps).texts.map fun l => PyData.int (cnt 92 (quo (Mine.shown l))))) ?_ ?_ ?_ ok ?_
      · exact hit5.list (n := ys.length) (fun p hp => (N6 p (.tail _ (List.mem_append_right _ (.tail _ (List.mem_append_left _ hp))))).1) (N6 _ (.tail _ (List.mem_append_right _ (.head _)))).1
      · exact hit6.list (n := ys2.length) (fun p hp => (N6 p (.tail _ (List.mem_append_left _ hp))).1) (N6 _ (.head _)).1
      · refine (shp_list (k := 0) fun d hd => ?_).mono (by decide)
        obtain ⟨l, _, rfl⟩ := List.mem_map.mp hd
        exact shp_int _ _
      · k_steps
        refine h _ _ (x.next' ?_ fun p hp => N6 p (.tail _ (List.mem_append_right _ (.tail _ (List.mem_append_right _ hp)))))
        rw [kstB_self x.names'] at F6; exact F6
theorem law_9 (X : (KK w.params).In h₀) (T : TopV mean mg mb h₀) (ok : Ok A 79) (x : LawQ h₀ s.heap L m ps r tr S sv ks tw rest qd qv kq)
    (h : ∀ h' tk, Fr h₀ L h' m → Q (.ret (.bool true)) { s with heap := h', toks := tk }) :
    wpAny (model pg w) A (exec (lawStmt 9) (envL L)) Q (fun _ _ => False) s := by
  have F := x.fr'
  have N := x.N
  have gs := x.good.size
  have htl := texts_le (Tr.rm ps)
  have hq := x.quoted
  have hsv := x.shown
  rw [bare_texts] at hsv
  have hsl := hsv.length
  rw [List.length_map] at hsl
  show wpAny (model pg w) A (exec (Stmt.Return _ _) (envL L)) _ _ _
  iterate 3 walk1
  refine comp_data (cl := []) ((Tr.rm ps).texts.map fun l => PyData.str ⟨(quo (Mine.shown l)).toArray⟩) F (by rfl) (by decide) (by rfl) (by decide) (by rfl) ok.handled ?_
  refine ld F rfl ?_
  refine ⟨S, sv.toArray, _, rfl, F, N, .inr ⟨_, .head _, rfl, _, rfl⟩, by rw [List.size_toArray, PySem.sizeLine_eq]; omega, by rw [List.size_toArray, List.length_map]; exact hsl, ?_, ?_⟩
  · intro i v d C oC m₂ h6 tk6 E' nw hv6 hd6 hC hm F6 N6 hsub
    obtain ⟨ql, hl, t, rfl⟩ := hsv.get (by simpa using hv6 : sv[i]? = some v)
    rw [List.getElem?_map] at hl hd6
    cases hl' : (Tr.rm ps).texts[i]? with
    | none => rw [hl'] at hl; cases hl
    | some l =>
      rw [hl'] at hl hd6
      cases hl
      cases hd6
      have hsm := x.small (List.mem_of_getElem? hl')
      clear F N
      k_steps
      refine quote_string (X.keeps F6.keep) (T.keeps F6.keep) (ok.less (by omega)) (by rw [len_mk]; omega) fun h7 tk7 t7 hk7 => ?_
      exact elEnd_val (h := h7) (frK F6 hk7) (nwK N6 hk7) fun hh => ⟨[], .str _ _⟩
  · intro D2 h6 tk6 ys2 own2 F6 N6 off6 hit6
    clear F N
    refine eq_same (d := .list ((Tr.rm ps).texts.map fun l => PyData.str ⟨(quo (Mine.shown l)).toArray⟩)) ?_ ?_ ?_ ok ?_
    · obtain ⟨as, has⟩ := strsReads (h := h6) hq
      rw [List.map_map] at has
      exact ⟨_, .list (N6 _ (.tail _ (List.mem_append_right _ (.tail _ x.qmem)))).1 rfl rfl (by rw [List.toList_toArray]; exact has)⟩
    · exact hit6.list (n := ys2.length) (fun p hp => (N6 p (.tail _ (List.mem_append_left _ hp))).1) (N6 _ (.head _)).1
    · refine (shp_list (k := 0) fun d hd => ?_).mono (by decide)
      obtain ⟨l, hl, rfl⟩ := List.mem_map.mp hd
      exact shp_str _ (quo_small (x.small hl).1)
    · rw [kstB_self x.names'] at F6
      exact h _ _ F6
end
noncomputable def rqD (l : List Nat) : PyData := .list [.str ⟨(Mine.shown l).toArray⟩, .list [.int 0, .int (((quo (Mine.shown l)).length : Int) - 1)], .bool false]
section
variable {w : World} {A : Around} {s : Shared} {L r tr S qd : Addr} {h₀ h h' : Heap} {Q : Flow → Shared → Prop} {mean : ExcName → Option Value} {mg mb m : Str → Option Value} {ps : List Tr} {sv qv : List Value} {ks kq : Nat} {tw : Tok} {rest : List (Addr × Obj)}
theorem new_at {k : Nat} {m : Str → Option Value} (F : Fr h₀ L h m) {news : List (Addr × Obj)} (N : News h₀ L h news) : (h.objs.size + k ≠ L ∧ h₀.get? (h.objs.size + k) = none) ∧ ∀ p ∈ news, p.1 ≠ h.objs.size + k := by
  have hL := F.ns.lt
  refine ⟨⟨Nat.ne_of_gt (Nat.lt_of_lt_of_le hL (Nat.le_add_right _ _)), ?_⟩, fun p hp => Nat.ne_of_lt (Nat.lt_of_lt_of_le (Heap.lt_size (N p hp).1) (Nat.le_add_right _ _))⟩
  cases e : h₀.get? (h.objs.size + k) with
  | none => rfl
  | some o => exact absurd (Heap.lt_size (F.keep _ _ e)) (Nat.not_lt.mpr (Nat.le_add_right _ _))
theorem law_7 (X : (KK w.params).In h₀) (T : TopV mean mg mb h₀) (ok : Ok A 79) (x : LawQ h₀ s.heap L m ps r tr S sv ks tw rest qd qv kq)
    (h : ∀ h' tk, LawQ h₀ h' L m ps r tr S sv ks tw rest qd qv kq → Q .next { s with heap := h', toks := tk }) :
    wpAny (model pg w) A (exec (lawStmt 7) (envL L)) Q (fun _ _ => False) s := by
  have F := x.fr'
  have N := x.N
  have gs := x.good.size
  have htl := texts_le (Tr.rm ps)
  have hq := x.quoted
  have hql := hq.length
  rw [List.length_map] at hql
  have hsv := x.shown
  rw [bare_texts] at hsv
  have hsl := hsv.length
  rw [List.length_map] at hsl
  show wpAny (model pg w) A (exec (Stmt.If _ _ _ _) (envL L)) _ _ _
  iterate 2 walk1
  refine comp_data (cl := []) ((Tr.rm ps).texts.map rqD) F (by rfl) (by decide) (by rfl) (by decide) (by rfl) ok.handled ?_
  refine ld F rfl ?_
  refine ⟨qd, qv.toArray, _, rfl, F, N, .inr ⟨_, .tail _ x.qmem, rfl, _, rfl⟩, by rw [List.size_toArray, PySem.sizeLine_eq]; omega, by rw [List.size_toArray, List.length_map]; exact hql, ?_, ?_⟩
  · intro i v d C oC m₂ h5 tk5 E' nw hv5 hd5 hC hm F5 N5 hsub
    obtain ⟨ql, hl, t, rfl⟩ := hq.get (by simpa using hv5 : qv[i]? = some v)
    rw [List.getElem?_map] at hl hd5
    cases hl' : (Tr.rm ps).texts[i]? with
    | none => rw [hl'] at hl; cases hl
    | some l =>
      rw [hl'] at hl hd5
      cases hl
      cases hd5
      have hsm := x.small (List.mem_of_getElem? hl')
      clear F N
      k_steps
      refine read_quoted (X.keeps F5.keep) (T.keeps F5.keep) (ok.less (by omega)) (by rw [len_mk]; omega) fun h6 tk6 v6 seg hk6 mk => ?_
      have e : rqRun 0 (⟨(quo (Mine.shown l)).toArray⟩ : Str).cps.toList ⟨[], [], false⟩ = ⟨Mine.shown l, [0, ((quo (Mine.shown l)).length : Int) - 1], false⟩ := rq_law _
      rw [e] at mk
      obtain ⟨N6, off6⟩ := made_new F5 N5 hk6 mk.new
      exact ⟨h6, tk6, seg, rfl, frK F5 hk6, N6, off6, mk.reads⟩
  · intro D h5 tk5 ys own F5 N5 off5 hit5
    clear F N
    refine comp_zip (cl := []) ((Tr.rm ps).texts.map rqD) F5 (by rfl) (by decide) (by rfl) (by decide) (by rfl) (by rfl) (by decide) ok.handled ?_
    k_steps
    have mS : (S, listOf sv.toArray ks) ∈ (D, lst ys) :: (own ++ (S, listOf sv.toArray ks) :: rest) := .tail _ (List.mem_append_right _ (.head _))
    have mQ : (qd, listOf qv.toArray kq) ∈ (D, lst ys) :: (own ++ (S, listOf sv.toArray ks) :: rest) := .tail _ (List.mem_append_right _ (.tail _ x.qmem))
    have hlS : h5.IsList S sv.toArray := ⟨_, (N5 _ mS).1, rfl, _, rfl⟩
    have hlQ : h5.IsList qd qv.toArray := ⟨_, (N5 _ mQ).1, rfl, _, rfl⟩
    refine call_zip_2 hlS hlQ fun h6 hz hTI hTO hi1 hi2 hsz hk => ?_
    have k6 : Kp h5 h6 := hk
    refine ⟨_, _, _, _, _, S, qd, sv.toArray, qv.toArray, _, rfl, zipApart_new (Heap.lt_size (N5 _ mS).1) (Heap.lt_size (N5 _ mQ).1), ⟨hz, hTI, ⟨_, _, hTO⟩, hi1, hi2, hlS.at fun o e => hk _ o e, hlQ.at fun o e => hk _ o e⟩, frK F5 k6, nwK N5 k6, ⟨_, mS⟩, ⟨_, mQ⟩, ?_, ?_, ?_, ?_, ?_⟩
    · intro b hb
      simp only [List.mem_cons, List.not_mem_nil, or_false] at hb
      rcases hb with rfl | rfl | rfl | rfl | rfl
      · exact new_at F5 N5
      · exact new_at F5 N5
      · exact new_at F5 N5
      · exact new_at (k := 0) F5 N5
      · exact new_at F5 N5
    · rw [List.size_toArray, List.size_toArray, List.length_map]; omega
    · rw [List.length_map, PySem.sizeLine_eq]; omega
    · intro i va vb d C oC m₂ h7 tk7 E' nw hva hvb hd7 hC hma hmb F7 N7 hsub
      obtain ⟨sl, hl, t, rfl⟩ := hsv.get (by simpa using hva : sv[i]? = some va)
      obtain ⟨ql, hl2, t2, rfl⟩ := hq.get (by simpa using hvb : qv[i]? = some vb)
      rw [List.getElem?_map] at hl hl2 hd7
      cases hl' : (Tr.rm ps).texts[i]? with
      | none => rw [hl'] at hl; cases hl
      | some l =>
        rw [hl'] at hl hl2 hd7
        cases hl
        cases hl2
        cases hd7
        clear F5 N5
        have hsm := x.small (List.mem_of_getElem? hl')
        have hqn : (Str.mk (quo (Mine.shown l)).toArray).length ≤ 1000 := by rw [len_mk]; omega
        k_steps
        rename_i la _ lt1 lb h8 F8 N8 lt2
        have lt1' := kst_ltOf lt1.2
        have lt2' := kst_ltOf lt2.2.2
        refine ⟨h8, _, [(lb, _), (la, _)], rfl, F8, N8, fun p hp q hq => ?_, fun hh st => ?_⟩
        · simp only [List.mem_cons, List.mem_nil_iff, or_false] at hp
          rcases hp with rfl | rfl
          · rcases List.mem_cons.mp hq with rfl | hq
            · exact Nat.ne_of_lt lt2.2.1
            · exact Nat.ne_of_lt (lt2' q hq)
          · rcases List.mem_cons.mp hq with rfl | hq
            · exact Nat.ne_of_lt lt1.1
            · exact Nat.ne_of_lt (lt1' q hq)
        · have e : ((Str.mk (quo (Mine.shown l)).toArray).length : Int) = ((quo (Mine.shown l)).length : Int) := by rw [len_mk]
          rw [e] at st
          exact ⟨_, .list (st _ (.head _)) rfl rfl (.cons (.str _ _) (.cons (.list (st _ (.tail _ (.head _))) rfl rfl (.cons (.int _ _) (.cons (.int _ _) .nil))) (.cons (.bool _) .nil)))⟩
    · intro D2 h7 tk7 ys2 own2 F7 N7 off7 hit7
      clear F5 N5
      refine ne_same (d := .list ((Tr.rm ps).texts.map rqD)) ?_ ?_ ?_ ok ?_
      · exact hit5.list (n := ys.length) (fun p hp => (N7 p (.tail _ (List.mem_append_right _ (.tail _ (List.mem_append_left _ hp))))).1) (N7 _ (.tail _ (List.mem_append_right _ (.head _)))).1
      · exact hit7.list (n := ys2.length) (fun p hp => (N7 p (.tail _ (List.mem_append_left _ hp))).1) (N7 _ (.head _)).1
      · refine (shp_list (k := 2) fun d hd => ?_).mono (by decide)
        obtain ⟨l, hl, rfl⟩ := List.mem_map.mp hd
        refine shp_list (k := 1) fun d hd => ?_
        simp only [List.mem_cons, List.mem_nil_iff, or_false] at hd
        rcases hd with rfl | rfl | rfl
        · exact shp_str _ (x.small hl).1
        · refine shp_list (k := 0) fun d hd => ?_
          simp only [List.mem_cons, List.mem_nil_iff, or_false] at hd
          rcases hd with rfl | rfl
          · exact shp_int _ _
          · exact shp_int _ _
        · exact shp_bool _ _
      · k_steps
        refine h _ _ (x.next' ?_ fun p hp => N7 p (.tail _ (List.mem_append_right _ (.tail _ (List.mem_append_right _ hp)))))
        rw [kstB_self x.names'] at F7; exact F7
end
theorem law_spec {w : World} {A : Around} {s : Shared} {la : Addr} {vs : List Value} {ns : List Int} {Q E : Value → Shared → Prop} {mean : ExcName → Option Value} {mg mb : Str → Option Value}
    (X : (KK w.params).In s.heap) (T : TopV mean mg mb s.heap) (ok : Ok A 80) (hl : s.heap.IsList la vs.toArray) (hI : IntsAre vs ns) (hn : ns.length ≤ 63)
    (h : ∀ h' tk, Kp s.heap h' → Q (.bool true) { s with heap := h', toks := tk }) :
    wpAny (model pg w) A (call (.ref 273) [.ref la]) Q E s := by
  refine call_fn X T (by kernel_rfl : _ = some (obf273 w.params)) rfl (by kernel_rfl) ok.room (binds := [(Str.ofString "script", .ref la)]) rfl (locs rfl) (fun h₁ L F N hk => ?_)
  have ok' : Ok (A.deeper (envL L)) 79 := ok.deeper
  refine law_1 X T ok' hl hI hn F (by walk_at "names") N fun h2 tk2 m2 ps r tr S sv ks tw rest x => ?_
  show wpAny (model pg w) _ (execs [lawStmt 4, lawStmt 5, lawStmt 6, lawStmt 7, lawStmt 8, lawStmt 9] (envL L)) _ _ _
  walk1
  refine law_4 X T ok' x fun h3 tk3 x3 => ?_
  show wpAny _ _ (execs [lawStmt 5, lawStmt 6, lawStmt 7, lawStmt 8, lawStmt 9] (envL L)) _ _ _
  walk1
  refine law_5 X T ok' x3 fun h4 tk4 x4 => ?_
  show wpAny _ _ (execs [lawStmt 6, lawStmt 7, lawStmt 8, lawStmt 9] (envL L)) _ _ _
  walk1
  refine law_6 X T ok' x4 fun h5 tk5 m5 qd qv kq rest5 x5 hqm hqv hqn => ?_
  have x5' : LawQ s.heap h5 L m5 ps r tr S sv ks tw rest5 qd qv kq := { x5 with qmem := hqm, quoted := hqv, qname := hqn }
  show wpAny _ _ (execs [lawStmt 7, lawStmt 8, lawStmt 9] (envL L)) _ _ _
  walk1
  refine law_7 X T ok' x5' fun h6 tk6 x6 => ?_
  show wpAny _ _ (execs [lawStmt 8, lawStmt 9] (envL L)) _ _ _
  walk1
  refine law_8 X T ok' x6 fun h7 tk7 x7 => ?_
  show wpAny _ _ (execs [lawStmt 9] (envL L)) _ _ _
  walk1
  refine law_9 X T ok' x7 fun h8 tk8 F8 => ?_
  exact h _ _ F8.keep
theorem okCaller : Ok callerA 80 := ⟨by decide, by decide, rfl, ⟨_, rfl⟩⟩
end Mine
end

section
set_option maxRecDepth 100000
set_option linter.unusedVariables false
set_option maxHeartbeats 0
set_option Elab.async false
namespace Mine
open PySem PySem.W PySem.Calls PyProof.Rows PySem.Spec PyProof.Rows.LCg
theorem post_true (args : List WData) : PySem.Challenge.rw_lg0008_01.row.claim.post args (.bool true) args = true := by
  simp only [RowW.claim, OpenLaw.row, OpenRow.toRowW, WTm.holds, WTm.value, WShape.has]
  first | rfl | decide | (simp; done) | kernel_rfl
theorem walked : WalkO qv looseV (fun _ _ => True) hkV.says PySem.Challenge.rw_lg0008_01.row.toRowW lawRec [] fun f vs => PySem.call f vs := by
  intro w s₀ s₁ mg mb G Y fa o pm cd doc dV kV ho hd hcd hD hmg hg args vals as hpre hlay hrd hwl hlo
  have KX := kIn_of Y
  refine Ground.open G ?_
  intro T B D TE TW
  wrow_args hpre hlay hrd hwl hlo
  rename_i ns _ _ _ _ _ _ _ la vs _ hL ra _ r0 hI _ hn _
  have hfa : mg (Str.ofString "law") = some (.ref 273) := mg_of KX T.g (by kernel_rfl)
  have e : fa = 273 := by
    have := hmg.symm.trans hfa
    cases this
    rfl
  subst e
  refine law_spec KX T okCaller hL hI (by omega) fun h' tk hk => ?_
  refine GoodW.toG ⟨.inl ⟨_, .bool true, [], rfl, fun cls => ?_, .bool true, ?_, unshared_nil⟩, hk, rfl, hg⟩
  · rfl
  · exact post_true _
end Mine
end
theorem PySem.Challenge.cw_lg0008_01_holds : PySem.Challenge.rw_lg0008_01.Holds :=
  Mine.head Mine.walked
