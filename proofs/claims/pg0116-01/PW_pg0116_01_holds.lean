import PyProof.Rows.All
import Wide.All
import OpenK.AllK
import Wide.FinOn
import KE.KEqDict
import KE.KIntText
import PySem.Challenge.RW_pg0116_01
set_option Elab.async false
set_option maxRecDepth 100000
set_option linter.all false
namespace Mine
open PySem PySem.W PySem.W.X

/-! the simulator: trees by the fast twins, addresses of cells as they come -/
noncomputable def denF : Code → Sem Fin := PySem.W.Fast.tw11892475500146522536 PySem.W.Fast.tw14364793385576792824
theorem denF_eq : denote table = denF := by
  rw [PySem.table_eq_tree, PySem.W.Fast.te11892475500146522536, PySem.W.Fast.te14364793385576792824]; rfl

noncomputable abbrev Cell := Addr × Obj
inductive VT where
  | nil
  | node (c : Option Cell) (l r : VT)
namespace VT
noncomputable def get : VT → Nat → Option Cell
  | .nil, _ => none
  | .node v l r, i => match Nat.beq i 0 with
    | true => v
    | false => match Nat.beq (i % 2) 1 with
      | true => l.get (i / 2)
      | false => r.get (i / 2 - 1)
noncomputable def put : Nat → VT → Nat → Cell → VT
  | 0, t, _, _ => t
  | n + 1, .nil, i, o => match Nat.beq i 0 with
    | true => .node (some o) .nil .nil
    | false => match Nat.beq (i % 2) 1 with
      | true => .node none (put n .nil (i / 2) o) .nil
      | false => .node none .nil (put n .nil (i / 2 - 1) o)
  | n + 1, .node v l r, i, o => match Nat.beq i 0 with
    | true => .node (some o) l r
    | false => match Nat.beq (i % 2) 1 with
      | true => .node v (put n l (i / 2) o) r
      | false => .node v l (put n r (i / 2 - 1) o)
theorem get_node (v : Option Cell) (l r : VT) (i : Nat) : (node v l r).get i = if i = 0 then v else if i % 2 = 1 then l.get (i / 2) else r.get (i / 2 - 1) := by
  show (match Nat.beq i 0 with | true => v | false => match Nat.beq (i % 2) 1 with | true => l.get (i / 2) | false => r.get (i / 2 - 1)) = _
  rw [BT.beq_eq, BT.beq_eq]
  by_cases h : i = 0
  · simp [h]
  · by_cases q : i % 2 = 1 <;> simp [h, q]
theorem put_nil (n i : Nat) (o : Cell) : put (n + 1) .nil i o = if i = 0 then node (some o) .nil .nil else if i % 2 = 1 then .node none (put n .nil (i / 2) o) .nil else .node none .nil (put n .nil (i / 2 - 1) o) := by
  show (match Nat.beq i 0 with | true => _ | false => match Nat.beq (i % 2) 1 with | true => _ | false => _) = _
  rw [BT.beq_eq, BT.beq_eq]
  by_cases h : i = 0
  · simp [h]
  · by_cases q : i % 2 = 1 <;> simp [h, q]
theorem put_node (n : Nat) (v : Option Cell) (l r : VT) (i : Nat) (o : Cell) : put (n + 1) (.node v l r) i o = if i = 0 then node (some o) l r else if i % 2 = 1 then .node v (put n l (i / 2) o) r else .node v l (put n r (i / 2 - 1) o) := by
  show (match Nat.beq i 0 with | true => _ | false => match Nat.beq (i % 2) 1 with | true => _ | false => _) = _
  rw [BT.beq_eq, BT.beq_eq]
  by_cases h : i = 0
  · simp [h]
  · by_cases q : i % 2 = 1 <;> simp [h, q]
theorem get_nil (i : Nat) : VT.nil.get i = none := by simp [get]
/-- off the place put to, nothing turns (whatever the fuel) -/
theorem get_put_ne (o : Cell) : ∀ (n : Nat) (t : VT) (i j : Nat), j ≠ i → (put n t i o).get j = t.get j
  | 0, _, _, _, _ => rfl
  | n + 1, .nil, i, j, h => by
    rw [put_nil, get_nil]
    by_cases hi : i = 0
    · subst hi; rw [if_pos rfl, get_node, if_neg h]; split <;> exact get_nil _
    · rw [if_neg hi]
      by_cases p : i % 2 = 1
      · rw [if_pos p, get_node]
        by_cases hj : j = 0
        · rw [if_pos hj]
        · rw [if_neg hj]
          by_cases q : j % 2 = 1
          · rw [if_pos q, get_put_ne o n .nil (i / 2) (j / 2) (by omega), get_nil]
          · rw [if_neg q, get_nil]
      · rw [if_neg p, get_node]
        by_cases hj : j = 0
        · rw [if_pos hj]
        · rw [if_neg hj]
          by_cases q : j % 2 = 1
          · rw [if_pos q, get_nil]
          · rw [if_neg q, get_put_ne o n .nil (i / 2 - 1) (j / 2 - 1) (by omega), get_nil]
  | n + 1, .node v l r, i, j, h => by
    rw [put_node]
    by_cases hi : i = 0
    · subst hi; rw [if_pos rfl, get_node, get_node, if_neg h, if_neg h]
    · rw [if_neg hi]
      by_cases p : i % 2 = 1
      · rw [if_pos p, get_node, get_node]
        by_cases hj : j = 0
        · rw [if_pos hj, if_pos hj]
        · rw [if_neg hj, if_neg hj]
          by_cases q : j % 2 = 1
          · rw [if_pos q, if_pos q, get_put_ne o n l (i / 2) (j / 2) (by omega)]
          · rw [if_neg q, if_neg q]
      · rw [if_neg p, get_node, get_node]
        by_cases hj : j = 0
        · rw [if_pos hj, if_pos hj]
        · rw [if_neg hj, if_neg hj]
          by_cases q : j % 2 = 1
          · rw [if_pos q, if_pos q]
          · rw [if_neg q, if_neg q, get_put_ne o n r (i / 2 - 1) (j / 2 - 1) (by omega)]
/-- at the place put to: the cell, or (the fuel out) what lay there -/
theorem get_put_eq (o : Cell) : ∀ (n : Nat) (t : VT) (i : Nat), (put n t i o).get i = some o ∨ (put n t i o).get i = t.get i
  | 0, _, _ => .inr rfl
  | n + 1, .nil, i => by
    rw [put_nil]
    by_cases hi : i = 0
    · subst hi; rw [if_pos rfl, get_node, if_pos rfl]; exact .inl rfl
    · rw [if_neg hi]
      by_cases p : i % 2 = 1
      · rw [if_pos p, get_node, if_neg hi, if_pos p, get_nil]
        have := get_put_eq o n .nil (i / 2)
        rw [get_nil] at this; exact this
      · rw [if_neg p, get_node, if_neg hi, if_neg p, get_nil]
        have := get_put_eq o n .nil (i / 2 - 1)
        rw [get_nil] at this; exact this
  | n + 1, .node v l r, i => by
    rw [put_node]
    by_cases hi : i = 0
    · subst hi; rw [if_pos rfl, get_node, if_pos rfl]; exact .inl rfl
    · rw [if_neg hi]
      by_cases p : i % 2 = 1
      · rw [if_pos p, get_node, get_node, if_neg hi, if_pos p, if_neg hi, if_pos p]
        exact get_put_eq o n l (i / 2)
      · rw [if_neg p, get_node, get_node, if_neg hi, if_neg p, if_neg hi, if_neg p]
        exact get_put_eq o n r (i / 2 - 1)
end VT
noncomputable abbrev dep : Nat := 12

structure KF where
  Γ : Ctx
  p : Pos
  k : Result → Sem Fin
/-- a contract at a call: the cells it reads, what it hands back, what it makes of these cells, what it lays anew; all may hang on what it finds (al, tk) -/
structure Orc where
  ctx : Bool := false
  sel : List Nat := []
  r : Code → Nat → Nat → (Nat → Nat) → (Nat → Nat) → Result
  upd : Code → Nat → Nat → (Nat → Nat) → (Nat → Nat) → List (Option Obj) := fun _ _ _ _ _ => []
  news : Code → Nat → Nat → (Nat → Nat) → (Nat → Nat) → List Obj := fun _ _ _ _ _ => []
  shows : Code → Nat → Nat → (Nat → Nat) → (Nat → Nat) → List (Nat × Cell) := fun _ _ _ _ _ => []
  dm : Nat := 0
  di : Nat := 0
inductive SLog where
  | bad (n : Nat)
  | addr (a b : Addr) (l : SLog)
  | tree (t u : Sem Fin) (l : SLog)
  | call (c : Code) (Γ : Ctx) (p : Pos) (T : VT) (m i : Nat) (al tk : Nat → Nat) (o : Orc) (next : (Nat → Nat) → (Nat → Nat) → SLog)
  | ret (r : Result) (T : VT) (m i : Nat) (al tk : Nat → Nat)
  | again (c : Code) (Γ : Ctx) (p : Pos) (T : VT) (m i : Nat) (al tk : Nat → Nat)
  | goto (c : Code) (Γ : Ctx) (p : Pos) (T : VT) (m i : Nat) (al tk : Nat → Nat) (j : Nat) (l : SLog)
/-- the selected cells' objects turned -/
noncomputable def updAll (T : VT) : List Nat → List (Option Obj) → VT := fun js => List.rec (motive := fun _ => List (Option Obj) → VT) (fun _ => T)
  (fun j _ ih us => match us with
    | [] => T
    | u :: us => match u with
      | none => ih us
      | some o' => match VT.get (ih us) j with
        | some c => VT.put dep (ih us) j (c.1, o')
        | none => ih us) js
noncomputable def newAll (al : Nat → Nat) : List Obj → VT → Nat → VT := fun os => List.rec (motive := fun _ => VT → Nat → VT) (fun T _ => T) (fun o _ ih T m => ih (VT.put dep T m (al m, o)) (m + 1)) os
noncomputable def showAll (T : VT) (l : List (Nat × Cell)) : VT := List.rec (motive := fun _ => VT) T (fun x _ ih => VT.put dep ih x.1 x.2) l
structure SV where
  P : Params
  b1 : Bool
  top : KT
noncomputable def rowFn (f : String → Bool) (b1 b2 : Bool) (s : String) : Bool := match Nat.beq (PySem.W.S.codeS s) 10139888712337904147300001983332972444938612 with
  | true => b2
  | false => match Nat.beq (PySem.W.S.codeS s) 2510650655181157320538776789020469319833841985448949215332 with
    | true => b1
    | false => f s
noncomputable def prm (P : Params) (b1 b2 : Bool) : Params := { P with followText := rowFn P.followText b1 b2 }
noncomputable abbrev prog : Program := PySem.Challenge.pw_pg0116_01
noncomputable def SV.set (V : SV) (b2 : Bool) : Setting := ⟨prog, prm V.P V.b1 b2⟩

/-- the built-ins that `again` may go to -/
noncomputable def quietIds : List String := ["tuple_iterator.__next__", "list.__getitem__", "int.__eq__", "int.__add__", "tuple.__getitem__", "list_iterator.__next__", "list.append", "int.__lt__", "type.__call__", "object.__init__", "int.__sub__", "tuple.__iter__", "range_iterator.__next__", "int.__mod__", "max.loop", "min.loop", "list.__setitem__", "str.__eq__", "int.__truediv__", "int.__new__", "int.__gt__", "str.__getitem__", "int.__mul__", "str.__add__", "float.__add__", "int.__hash__", "len", "float.__int__", "list.__len__", "int.__floordiv__", "object.__getattribute__", "str.__len__", "list.__iter__", "tuple.__lt__", "range.__new__", "range.__iter__", "callable_iterator.__next__", "object.__str__", "str.__new__", "int.__repr__", "min", "float.__rmul__", "dict.__contains__", "float.__mul__", "max", "dict.__setitem__", "float.__mod__", "float.__sub__", "float.__truediv__", "str.__contains__", "list.pop", "int.__rshift__", "list.__ne__", "int.__neg__", "range_iterator.__iter__", "sum.loop", "list.__eq__.loop", "str.__ne__", "callable_iterator.__iter__", "list.__eq__", "dict.pop", "int.__ne__", "str_ascii_iterator.__next__", "object.__setattr__", "iter", "function.__get__", "str.join", "list_iterator.__iter__", "str.__iter__", "sum", "str_ascii_iterator.__iter__", "list.__add__", "dict.__eq__", "object.__new__", "dict.__ne__", "str.count", "range.__reversed__", "reversed.__new__"]
noncomputable def quietCodes : List Nat := [9231062798198206674541908477283886571094360729198884469, 128106587276438692081757506308484131437, 455126313168696235093866, 116512096292018843154739050, 32795286342768305172929921614907396159093, 36058839055461744822429329989390181918337346850548333, 122627580202994350266018413, 455126531311803185852266, 7635746451779523968930960996981, 500416912376412337332428835721536368, 116512060628576343961202538, 1954752940192971970453299589641845, 9231062798198206674541908477283886571094360729114862195, 116512097088030077292474218, 8174156937927680622, 8174156937927027310, 128106587276438692082622197436939266669, 455126313168696234964340, 500417070820629625416170301335891818, 116512446855873012371386218, 455126529904428302298986, 500416356548588640944365259017385332, 116512245094328231196454762, 116512096292018843154609524, 7635736742593746904988760698215, 29827115816926449915907108714, 7300717, 7635756132778099520341684546919, 29827143893661030152192420461, 128106770130096871752080967664072486762, 9231040853193453631890587537408822222818040982136382320, 116512280834613399031870836, 7635753672628796759583453637229, 29827172356050333523556529781, 7635759717146493738706625585779, 1954752940192971970453299505619571, 154871534474935724191431299575622858322749446335671712506274404, 1954752958321952417033813716853616, 116512446855873012371256692, 29827162985542091517149409130, 7301742, 1954751102592835611533594145615207, 32795317678217157189674408721764466322021, 7635746494501894959690641599847, 7955054, 128106587276438692082622197436938218085, 7635736794761139145439372668263, 7635734405354379277841151847783, 32795333153300783131274136868348788501863, 128106709680535770272165659069392319860, 8174157772325415533, 1954753560319954401256180983099242, 116512115458775698011089517, 116512151707967833018560362, 9231059767058182983631421655374290114958903811440075379, 8174156937926964852, 150786581052259025172200297655235275373, 455125451010842570225012, 154871483620844820483908825499292026105330360369147596340290148, 116512336171186236184357485, 8174157772324366949, 455125451010842570354538, 39647112825583545393006412691359451730623858335503063133055055220, 8395600027772484101628393163519180982150000, 1936094570, 128106729249270423073818695490870408807, 8028352891401237876, 36058827215071027279810240841305820761558218265881197, 29827162783706237342122734964, 7239284, 39647099806936274043880659327818758682964572328072889394563085684, 29827096650756823847613524589, 116512336171186236183308901, 1954754487589502397125371494097776, 116512115458775698010040933, 2166300787185074533748, 8395581340677150082153677889943242330301043, 128106790098665629096856003110111766131]
theorem quietCodes_eq : quietIds.map PySem.code = quietCodes := by kernel_rfl
theorem quiet_ids : ∀ x ∈ quietIds, x.startsWith "lifetime." = false := by decide +kernel
noncomputable def natIn (n : Nat) (l : List Nat) : Bool := List.rec (motive := fun _ => Bool) false (fun x _ ih => match Nat.beq x n with | true => true | false => ih) l
theorem natIn_mem {n : Nat} : ∀ {l : List Nat}, natIn n l = true → n ∈ l
  | [], h => by cases h
  | x :: l, h => by
    have e : natIn n (x :: l) = (match Nat.beq x n with | true => true | false => natIn n l) := rfl
    rw [e] at h
    cases q : Nat.beq x n with
    | true => rw [Nat.eq_of_beq_eq_true q]; exact .head _
    | false => rw [q] at h; exact .tail _ (natIn_mem h)
noncomputable def quietQ (c : Code) : Bool := match c with
  | .builtin id _ => natIn (PySem.W.S.codeS id) quietCodes
  | _ => true
theorem quietQ_sound {c : Code} (h : quietQ c = true) : c.quiet = true := by
  cases c with
  | builtin id args =>
    have h1 := natIn_mem (show natIn (PySem.W.S.codeS id) quietCodes = true from h)
    rw [← quietCodes_eq, ← PySem.W.S.code_S] at h1
    obtain ⟨x, hx, e⟩ := List.mem_map.mp h1
    have := PySem.code_inj _ _ e
    subst this
    exact Code.quiet_builtin args (quiet_ids x hx)
  | _ => rfl
/-- an iterator that calls till a sentinel comes: its test told by the texts alone -/
noncomputable def nextF : { f : (Value → Value → Sem Bool) → Builtin // ∀ args, PySem.W.Fast.tw3026062990905772714 args = f PySem.W.Fast.tw13926502685295537346 args } := by
  constructor
  · intro args
    unfold PySem.W.Fast.tw3026062990905772714
    generalize PySem.W.Fast.tw13926502685295537346 = g
    exact rfl
noncomputable def eqL (x y : Str) : Bool := match x.cps.toList with
  | [] => match y.cps.toList with
    | [] => true
    | _ :: _ => false
  | _ :: _ => decide (x = y)
noncomputable def tst1 (a b : Value) : Sem Bool := match a with
  | .str x _ => match b with
    | .str y _ => .pure (eqL x y)
    | _ => PySem.W.Fast.tw13926502685295537346 a b
  | _ => PySem.W.Fast.tw13926502685295537346 a b
noncomputable def denG (c : Code) : Sem Fin := match c with
  | .builtin id args => match Nat.beq (PySem.W.S.codeS id) 154871534474935724191431299575622858322749446335671712506274404 with
    | true => nextF.1 tst1 args
    | false => denF c
  | _ => denF c
noncomputable abbrev Cont := List Nat → List Orc → Ctx → Pos → List KF → Sem Fin → VT → Nat → Nat → (Nat → Nat) → (Nat → Nat) → SLog
noncomputable def retS (ih : Cont) (r : Result) (tr : List Nat) (os : List Orc) (ks : List KF) (T : VT) (m i : Nat) (al tk : Nat → Nat) : SLog := match ks with
  | [] => .ret r T m i al tk
  | f :: ks => ih tr os f.Γ f.p ks (f.k r) T m i al tk
noncomputable def skipCode (c : Code) : Code := match c with
  | .compStart e d it acc env => .compLoop e d it acc env
  | c => c
noncomputable def segStep (V : SV) (ih : Cont) : Cont := fun tr os Γ p ks t T m i al tk => match t with
  | .pure fin => match fin with
    | .done f => retS ih (.ok f) tr os ks T m i al tk
    | .again c => match quietQ c with
      | false => .bad 5
      | true => match ks with
        | f :: ks => ih tr os (Γ.goto c) p (f :: ks) (denG c) T m i al tk
        | [] => match tr with
          | [] => ih [] os (Γ.goto c) p [] (denG c) T m i al tk
          | j :: tr => match Nat.beq j 255 with
            | true => .again c Γ p T m i al tk
            | false => ih (j :: tr) os (Γ.goto c) p [] (denG c) T m i al tk
  | .raise e => retS ih (.error e) tr os ks T m i al tk
  | .rule _ k => ih tr os Γ p ks (k ()) T m i al tk
  | .at q k => ih tr os Γ q ks (k ()) T m i al tk
  | .point _ k => ih tr os Γ p ks (k ()) T m i al tk
  | .ask k => .tree (k (V.set true)) (k (V.set false)) (ih tr os Γ p ks (k (V.set false)) T m i al tk)
  | .load a _ k => match tr with
    | [] => .bad 1
    | j :: tr => match Nat.blt j 256 with
      | true => match Nat.beq a j with
        | true => match V.top.get j with
          | some o => ih tr os Γ p ks (k o) T m i al tk
          | none => .bad 2
        | false => .bad 3
      | false => match T.get (j - 256) with
        | some c => .addr a c.1 (ih tr os Γ p ks (k c.2) T m i al tk)
        | none => .bad 4
  | .loadIfAlive a k => match tr with
    | [] => .bad 1
    | j :: tr => match Nat.blt j 256 with
      | true => match Nat.beq a j with
        | true => match V.top.get j with
          | some o => ih tr os Γ p ks (k (some o)) T m i al tk
          | none => .bad 2
        | false => .bad 3
      | false => match T.get (j - 256) with
        | some c => .addr a c.1 (ih tr os Γ p ks (k (some c.2)) T m i al tk)
        | none => .bad 4
  | .alloc o k => match o.isFreed || Nat.ble 1000 m with
    | true => .bad 6
    | false => ih tr os Γ p ks (k (al m)) (VT.put dep T m (al m, o)) (m + 1) i al tk
  | .update a _ f k => match tr with
    | [] => .bad 8
    | j :: tr => match Nat.blt j 1256 with
      | false => .bad 14
      | true => match T.get (j - 256) with
        | some c => match (f c.2).isFreed with
          | true => .bad 9
          | false => .addr a c.1 (ih tr os Γ p ks (k ()) (VT.put dep T (j - 256) (c.1, f c.2)) m i al tk)
        | none => .bad 10
  | .fresh k => ih tr os Γ p ks (k (tk i)) T m (i + 1) al tk
  | .handled own k => match own with
    | false => ih tr os Γ p ks (k Γ.handled) T m i al tk
    | true => .bad 7
  | .stack k => ih tr os Γ p ks (k ((Γ.code, p) :: Γ.below)) T m i al tk
  | .call c hd _ _ k => match tr with
    | [] => .bad 11
    | j :: tr => match Nat.beq j 0 with
      | true => ih tr os (Γ.enter c hd p) p (⟨Γ, p, k⟩ :: ks) (denG c) T m i al tk
      | false => match Nat.beq j 1 with
        | true => match os with
          | [] => .bad 12
          | o :: os => .call c (Γ.enter c hd p) p T m i al tk o (fun al' tk' => ih tr os Γ p ks (k (o.r c m i al' tk')) (showAll (newAll al' (o.news c m i al' tk') (updAll T o.sel (o.upd c m i al' tk')) m) (o.shows c m i al' tk')) (m + o.dm) (i + o.di) al' tk')
        | false => .goto c (Γ.enter c hd p) p T m i al tk (j - 256) (ih tr os ((Γ.enter c hd p).goto (skipCode c)) p (⟨Γ, p, k⟩ :: ks) (denF (skipCode c)) T m i al tk)
  | _ => .bad 30
noncomputable def seg (V : SV) (n : Nat) : Cont := Nat.rec (motive := fun _ => Cont) (fun _ _ _ _ _ _ _ _ _ _ _ => .bad 0) (fun _ ih => segStep V ih) n
/-- what is asked of the addresses (b: as asked for, or as the cells have them) and of the two ways of a row -/
inductive CLog where
  | bad (n : Nat)
  | addr (a : Addr) (l : CLog)
  | tree (t : Sem Fin) (l : CLog)
  | call (next : (Nat → Nat) → (Nat → Nat) → CLog)
  | stop
noncomputable def chk (b : Bool) (l : SLog) : CLog := SLog.rec (motive := fun _ => CLog) (fun n => .bad n)
  (fun x y _ ih => .addr (match b with | true => x | false => y) ih) (fun t u _ ih => .tree (match b with | true => t | false => u) ih)
  (fun _ _ _ _ _ _ _ _ _ _ ih => .call ih) (fun _ _ _ _ _ _ => .stop) (fun _ _ _ _ _ _ _ _ => .stop) (fun _ _ _ _ _ _ _ _ _ _ ih => ih) l
noncomputable def skipInfo (c : Code) : Option Addr := match c with
  | .compStart e d it _ _ => match e with
    | .ListComp _ gs _ _ => match gs with
      | _ :: _ => match d with
        | 0 => match it with
          | .ref a => some a
          | _ => none
        | _ => none
      | _ => none
    | _ => none
  | _ => none
inductive RC where
  | bi (n : Nat) (as : List Value)
  | ty (n : Nat) (as : List Value)
  | fn (a : Addr) (as : List Value)
  | other (c : Code)
noncomputable def rcOf (c : Code) : RC := match c with
  | .call f a => match a with
    | ⟨as, kw⟩ => match kw with
      | [] => match f with
        | .builtin id => .bi (PySem.W.S.codeS id) as
        | .type n => .ty (PySem.W.S.codeS n) as
        | .ref a => .fn a as
        | _ => .other c
      | _ :: _ => .other c
  | c => .other c
/-- the report: the contracts met, with the cells they read; the end, with the cells asked for -/
inductive RLog where
  | bad (n : Nat)
  | call (c : RC) (x : Option (Ctx × Pos)) (m i : Nat) (cells : List (Option Cell)) (o : Orc) (next : (Nat → Nat) → (Nat → Nat) → RLog)
  | ret (r : Result) (cells : List (Option Cell))
  | again (Γ : Ctx) (cells : List (Option Cell))
  | goto (a : Option Addr) (cell : Option Cell) (l : RLog)
noncomputable def rep (fs : List Nat) (l : SLog) : RLog := SLog.rec (motive := fun _ => RLog) (fun n => .bad n)
  (fun _ _ _ ih => ih) (fun _ _ _ ih => ih)
  (fun c Γ p T m i _ _ o _ ih => .call (rcOf c) (match o.ctx with | true => some (Γ, p) | false => none) m i (o.sel.map T.get) o ih) (fun r T _ _ _ _ => .ret r (fs.map T.get)) (fun c Γ _ T _ _ _ _ => .again (Γ.goto c) (fs.map T.get)) (fun c _ _ T _ _ _ _ j _ ih => .goto (skipInfo c) (T.get j) ih) l
end Mine
namespace Mine
open PySem PySem.W PySem.W.X
open Sem (wp finPost)

/-! soundness of the simulator -/
structure Rep (V : SV) (s₀ : Shared) (A₀ : List Addr) (T : VT) (m i : Nat) (al tk : Nat → Nat) (s : Shared) : Prop where
  top : ∀ j o, V.top.get j = some o → s.heap.get? j = some o
  cells : ∀ j a o, T.get j = some (a, o) → s.heap.get? a = some o
  inj : ∀ j j' a o o', j < 1000 → j' < 1000 → T.get j = some (a, o) → T.get j' = some (a, o') → j = j'
  off : ∀ j a o, j < 1000 → T.get j = some (a, o) → V.top.get a = none
  own : ∀ j a o, j < 1000 → T.get j = some (a, o) → a ∈ A₀ ∨ s₀.heap.objs.size ≤ a
  ro : ∀ j a o, 1000 ≤ j → T.get j = some (a, o) → a ∉ A₀ ∧ a < s₀.heap.objs.size
  dom : ∀ j, m ≤ j → j < 1000 → T.get j = none
  size : ∀ k, al (m + k) = s.heap.objs.size + k
  toks : ∀ k, tk (i + k) = s.toks + k
  keep : ∀ a o, s₀.heap.get? a = some o → a ∉ A₀ → s.heap.get? a = some o
  grow : s₀.heap.objs.size ≤ s.heap.objs.size
  older : s₀.toks ≤ s.toks
  gens : s.gens = s₀.gens
  drawn : s.drawn = s₀.drawn
  os : s.os = s₀.os

structure IsM (V : SV) (M : Model) : Prop where
  den : M.den = denF
  alt : ∀ c Γ (Q : Fin → Pos → Shared → Prop) (E : Value → Pos → Shared → Prop) p s, wp M Γ (denG c) Q E p s → wp M Γ (denF c) Q E p s
  prog : M.prog = prog
  row : ∃ b2, M.w.params = prm V.P V.b1 b2

section
variable (V : SV) (M : Model) (s₀ : Shared) (A₀ : List Addr) (R : Result → Shared → Prop)

noncomputable def RK : List KF → Result → Shared → Prop
  | [] => R
  | f :: ks => fun r s => wp M f.Γ (f.k r) (finPost M f.Γ (RK ks)) (fun e _ s' => RK ks (.error e) s') f.p s
noncomputable def Mean (ks : List KF) (Γ : Ctx) (p : Pos) (t : Sem Fin) (s : Shared) : Prop :=
  wp M Γ t (finPost M Γ (RK M R ks)) (fun e _ s' => RK M R ks (.error e) s') p s

noncomputable def Ok : SLog → Prop
  | .bad _ => False
  | .addr a b l => a = b ∧ Ok l
  | .tree t u l => t = u ∧ Ok l
  | .call c Γ p T m i al tk o next => ∀ s, Rep V s₀ A₀ T m i al tk s → ∃ al' tk' s', Returns M Γ p s (o.r c m i al' tk') s' ∧
      Rep V s₀ A₀ (showAll (newAll al' (o.news c m i al' tk') (updAll T o.sel (o.upd c m i al' tk')) m) (o.shows c m i al' tk')) (m + o.dm) (i + o.di) al' tk' s' ∧ Ok (next al' tk')
  | .ret r T m i al tk => ∀ s, Rep V s₀ A₀ T m i al tk s → R r s
  | .again c Γ p T m i al tk => ∀ s, Rep V s₀ A₀ T m i al tk s → wpCode M (Γ.goto c) R p s
  | .goto c Γ p T m i al tk _ l => (∀ s, Rep V s₀ A₀ T m i al tk s → ∀ R', wpCode M (Γ.goto (skipCode c)) R' p s → wpCode M Γ R' p s) ∧ Ok l
end

section
variable {V : SV} {s₀ : Shared} {A₀ : List Addr} {T : VT} {m i : Nat} {al tk : Nat → Nat} {s : Shared}
theorem put_some {T : VT} {j : Nat} {c c' : Cell} {n : Nat} (h : (VT.put n T j c).get j = some c') : c' = c ∨ T.get j = some c' := by
  rcases VT.get_put_eq c n T j with e | e
  · rw [e] at h; exact .inl (Option.some.inj h).symm
  · rw [e] at h; exact .inr h
theorem Rep.alloc (D : Rep V s₀ A₀ T m i al tk s) {o : Obj} (hf : o.isFreed = false) (hm : m < 1000) : Rep V s₀ A₀ (VT.put dep T m (al m, o)) (m + 1) i al tk { s with heap := s.heap.push o } := by
  have sz : al m = s.heap.objs.size := by have := D.size 0; simpa using this
  have new : ∀ j a o', T.get j = some (a, o') → a ≠ al m := fun j a o' e q => by
    have := Heap.lt_size (D.cells j a o' e)
    rw [q, sz] at this; exact Nat.lt_irrefl _ this
  have cs : ∀ j a o', (VT.put dep T m (al m, o)).get j = some (a, o') → (j = m ∧ a = al m ∧ o' = o) ∨ (j ≠ m ∧ T.get j = some (a, o')) := fun j a o' e => by
    by_cases hj : j = m
    · subst hj
      rcases put_some e with q | q
      · cases q; exact .inl ⟨rfl, rfl, rfl⟩
      · rw [D.dom j (Nat.le_refl _) hm] at q; cases q
    · rw [VT.get_put_ne _ _ _ _ _ hj] at e; exact .inr ⟨hj, e⟩
  refine ⟨fun j o' e => Heap.get?_push_of_some _ (D.top j o' e), fun j a o' e => ?_, fun j j' a o' o'' hj hj' e e' => ?_, fun j a o' hj e => ?_, fun j a o' hj e => ?_, fun j a o' hj e => ?_, fun j hj hj' => ?_, fun k => ?_, D.toks, fun a o' e hn => Heap.get?_push_of_some _ (D.keep a o' e hn), ?_, D.older, D.gens, D.drawn, D.os⟩
  · rcases cs j a o' e with ⟨_, rfl, rfl⟩ | ⟨_, q⟩
    · show (s.heap.push o').get? (al m) = some o'
      rw [sz]; exact Heap.get?_push_size _ hf
    · exact Heap.get?_push_of_some _ (D.cells j a o' q)
  · rcases cs j a o' e with ⟨h1, h2, _⟩ | ⟨h1, q⟩ <;> rcases cs j' a o'' e' with ⟨h1', h2', _⟩ | ⟨h1', q'⟩
    · rw [h1, h1']
    · exact absurd h2 (new j' a o'' q')
    · exact absurd h2' (new j a o' q)
    · exact D.inj j j' a o' o'' hj hj' q q'
  · rcases cs j a o' e with ⟨_, rfl, _⟩ | ⟨_, q⟩
    · cases hq : V.top.get (al m) with
      | none => rfl
      | some x => have := Heap.lt_size (D.top _ x hq); rw [sz] at this; exact absurd this (Nat.lt_irrefl _)
    · exact D.off j a o' hj q
  · rcases cs j a o' e with ⟨_, rfl, _⟩ | ⟨_, q⟩
    · exact .inr (by rw [sz]; exact D.grow)
    · exact D.own j a o' hj q
  · rcases cs j a o' e with ⟨h, _, _⟩ | ⟨_, q⟩
    · omega
    · exact D.ro j a o' hj q
  · rw [VT.get_put_ne _ _ _ _ _ (by omega)]; exact D.dom j (by omega) hj'
  · have := D.size (k + 1)
    show al (m + 1 + k) = (s.heap.push o).objs.size + k
    rw [Heap.size_push, show m + 1 + k = m + (k + 1) by omega, this]; omega
  · show s₀.heap.objs.size ≤ (s.heap.push o).objs.size
    rw [Heap.size_push]; have := D.grow; omega

theorem get_put_lt (o : Cell) : ∀ (n : Nat) (t : VT) (i : Nat), i + 1 < 2 ^ n → (VT.put n t i o).get i = some o
  | 0, _, i, h => by simp at h
  | n + 1, .nil, i, h => by
    rw [VT.put_nil]
    by_cases hi : i = 0
    · subst hi; rw [if_pos rfl, VT.get_node, if_pos rfl]
    · rw [if_neg hi]
      rw [Nat.pow_succ] at h
      by_cases p : i % 2 = 1
      · rw [if_pos p, VT.get_node, if_neg hi, if_pos p]; exact get_put_lt o n .nil (i / 2) (by omega)
      · rw [if_neg p, VT.get_node, if_neg hi, if_neg p]; exact get_put_lt o n .nil (i / 2 - 1) (by omega)
  | n + 1, .node v l r, i, h => by
    rw [VT.put_node]
    by_cases hi : i = 0
    · subst hi; rw [if_pos rfl, VT.get_node, if_pos rfl]
    · rw [if_neg hi]
      rw [Nat.pow_succ] at h
      by_cases p : i % 2 = 1
      · rw [if_pos p, VT.get_node, if_neg hi, if_pos p]; exact get_put_lt o n l (i / 2) (by omega)
      · rw [if_neg p, VT.get_node, if_neg hi, if_neg p]; exact get_put_lt o n r (i / 2 - 1) (by omega)

theorem Rep.apart (D : Rep V s₀ A₀ T m i al tk s) {j k : Nat} {a : Addr} {o o' : Obj} (hj : j < 1000) (e : T.get j = some (a, o)) (e' : T.get k = some (a, o')) : k = j := by
  by_cases hk : k < 1000
  · exact D.inj k j a o' o hk hj e' e
  · have := D.ro k a o' (by omega) e'
    rcases D.own j a o hj e with h | h
    · exact absurd h this.1
    · exact absurd this.2 (Nat.not_lt.mpr h)
theorem Rep.update (D : Rep V s₀ A₀ T m i al tk s) {j : Nat} {c : Cell} {f : Obj → Obj} (hj : j < 1000) (e : T.get j = some c) (hf : (f c.2).isFreed = false) :
    Rep V s₀ A₀ (VT.put dep T j (c.1, f c.2)) m i al tk { s with heap := s.heap.update c.1 f } := by
  obtain ⟨b, x⟩ := c
  have hg := get_put_lt (b, f x) dep T j (by show j + 1 < 4096; omega)
  have hx := D.cells j b x e
  have cs : ∀ k a o', (VT.put dep T j (b, f x)).get k = some (a, o') → (k = j ∧ a = b ∧ o' = f x) ∨ (k ≠ j ∧ T.get k = some (a, o')) := fun k a o' q => by
    by_cases hk : k = j
    · subst hk; rw [hg] at q; cases q; exact .inl ⟨rfl, rfl, rfl⟩
    · rw [VT.get_put_ne _ _ _ _ _ hk] at q; exact .inr ⟨hk, q⟩
  have back : ∀ k a o', (VT.put dep T j (b, f x)).get k = some (a, o') → ∃ o'', T.get k = some (a, o'') := fun k a o' q => by
    rcases cs k a o' q with ⟨rfl, rfl, _⟩ | ⟨_, h⟩
    · exact ⟨x, e⟩
    · exact ⟨o', h⟩
  refine ⟨fun k o' q => ?_, fun k a o' q => ?_, fun k k' a o' o'' hk hk' q q' => ?_, fun k a o' hk q => ?_, fun k a o' hk q => ?_, fun k a o' hk q => ?_, fun k hk hk' => ?_, fun k => ?_, D.toks, fun a o' q hn => ?_, ?_, D.older, D.gens, D.drawn, D.os⟩
  · have : k ≠ b := by
      rintro rfl
      have := D.off j k x hj e
      rw [this] at q; cases q
    exact (Heap.get?_update_ne _ _ _ _ this).trans (D.top k o' q)
  · rcases cs k a o' q with ⟨_, rfl, rfl⟩ | ⟨hk, h⟩
    · exact Heap.get?_update_self f hx hf
    · have : a ≠ b := by
        rintro rfl
        exact hk (D.apart hj e h)
      exact (Heap.get?_update_ne _ _ _ _ this).trans (D.cells k a o' h)
  · obtain ⟨y, h⟩ := back k a o' q
    obtain ⟨y', h'⟩ := back k' a o'' q'
    exact D.inj k k' a y y' hk hk' h h'
  · obtain ⟨y, h⟩ := back k a o' q
    exact D.off k a y hk h
  · obtain ⟨y, h⟩ := back k a o' q
    exact D.own k a y hk h
  · obtain ⟨y, h⟩ := back k a o' q
    exact D.ro k a y hk h
  · have h0 := D.dom k hk hk'
    have : k ≠ j := by rintro rfl; rw [h0] at e; cases e
    rw [VT.get_put_ne _ _ _ _ _ this]; exact h0
  · show al (m + k) = (s.heap.update b f).objs.size + k
    rw [Heap.size_update]; exact D.size k
  · have : a ≠ b := by
      rintro rfl
      rcases D.own j a x hj e with h | h
      · exact hn h
      · exact absurd (Heap.lt_size q) (Nat.not_lt.mpr h)
    exact (Heap.get?_update_ne _ _ _ _ this).trans (D.keep a o' q hn)
  · show s₀.heap.objs.size ≤ (s.heap.update b f).objs.size
    rw [Heap.size_update]; exact D.grow
theorem Rep.fresh (D : Rep V s₀ A₀ T m i al tk s) : Rep V s₀ A₀ T m (i + 1) al tk { s with toks := s.toks + 1 } :=
  ⟨D.top, D.cells, D.inj, D.off, D.own, D.ro, D.dom, D.size, fun k => by have := D.toks (k + 1); rw [show i + 1 + k = i + (k + 1) by omega, this]; show s.toks + (k + 1) = s.toks + 1 + k; omega, D.keep, D.grow, by have := D.older; show s₀.toks ≤ s.toks + 1; omega, D.gens, D.drawn, D.os⟩
theorem Rep.tok (D : Rep V s₀ A₀ T m i al tk s) : tk i = s.toks := by have := D.toks 0; simpa using this
theorem Rep.addr (D : Rep V s₀ A₀ T m i al tk s) : al m = s.heap.objs.size := by have := D.size 0; simpa using this
end

theorem retS_sound {V : SV} {M : Model} {s₀ : Shared} {A₀ : List Addr} {R : Result → Shared → Prop} (ih : Cont)
    (IH : ∀ tr os Γ p ks t T m i al tk s, Rep V s₀ A₀ T m i al tk s → Ok V M s₀ A₀ R (ih tr os Γ p ks t T m i al tk) → Mean M R ks Γ p t s)
    {r : Result} {tr os ks T m i al tk s} (D : Rep V s₀ A₀ T m i al tk s) (H : Ok V M s₀ A₀ R (retS ih r tr os ks T m i al tk)) : RK M R ks r s := by
  cases ks with
  | nil => exact H s D
  | cons f ks => exact IH _ _ _ _ _ _ _ _ _ _ _ _ D H

theorem step_sound {V : SV} {M : Model} {s₀ : Shared} {A₀ : List Addr} {R : Result → Shared → Prop} (hM : IsM V M) (ih : Cont)
    (IH : ∀ tr os Γ p ks t T m i al tk s, Rep V s₀ A₀ T m i al tk s → Ok V M s₀ A₀ R (ih tr os Γ p ks t T m i al tk) → Mean M R ks Γ p t s)
    (tr : List Nat) (os : List Orc) (Γ : Ctx) (p : Pos) (ks : List KF) (t : Sem Fin) (T : VT) (m i : Nat) (al tk : Nat → Nat) (s : Shared)
    (D : Rep V s₀ A₀ T m i al tk s) (H : Ok V M s₀ A₀ R (segStep V ih tr os Γ p ks t T m i al tk)) : Mean M R ks Γ p t s := by
  unfold Mean
  cases t with
  | pure fin =>
    cases fin with
    | done f =>
      show RK M R ks (.ok f) s
      exact retS_sound ih IH D H
    | again c =>
      simp only [segStep] at H
      cases q : quietQ c with
      | false => rw [q] at H; exact H.elim
      | true =>
        rw [q] at H
        refine ⟨quietQ_sound q, ?_⟩
        have go : ∀ tr, Ok V M s₀ A₀ R (ih tr os (Γ.goto c) p ks (denG c) T m i al tk) → wpCode M (Γ.goto c) (RK M R ks) p s := fun tr h => by
          rw [wpCode_iff_wp]
          have z := IH _ _ _ _ _ _ _ _ _ _ _ _ D h
          show wp M (Γ.goto c) (M.den c) _ _ p s
          rw [hM.den]; exact hM.alt _ _ _ _ _ _ z
        cases ks with
        | cons f ks => exact go _ H
        | nil =>
          cases tr with
          | nil => exact go _ H
          | cons j tr =>
            dsimp only at H
            cases qj : Nat.beq j 255 with
            | true => rw [qj] at H; exact H s D
            | false => rw [qj] at H; exact go _ H
  | raise e =>
    show RK M R ks (.error e) s
    exact retS_sound ih IH D H
  | rule tag k => rw [Sem.wp_rule]; exact IH _ _ _ _ _ _ _ _ _ _ _ _ D H
  | «at» q k => rw [Sem.wp_at]; exact IH _ _ _ _ _ _ _ _ _ _ _ _ D H
  | point l k => rw [Sem.wp_point]; exact IH _ _ _ _ _ _ _ _ _ _ _ _ D H
  | ask k =>
    rw [Sem.wp_ask]
    obtain ⟨h1, h2⟩ := H
    have z := IH _ _ _ _ _ _ _ _ _ _ _ _ D h2
    obtain ⟨b2, hb⟩ := hM.row
    have e : (⟨M.prog, M.w.params⟩ : Setting) = V.set b2 := by rw [hM.prog, hb]; rfl
    rw [e]
    cases b2 with
    | true => rw [h1]; exact z
    | false => exact z
  | load a q k =>
    cases tr with
    | nil => exact H.elim
    | cons j tr =>
      simp only [segStep] at H
      cases hb : Nat.blt j 256 with
      | true =>
        rw [hb] at H; dsimp only at H
        cases ha : Nat.beq a j with
        | false => rw [ha] at H; exact H.elim
        | true =>
          rw [ha] at H; dsimp only at H
          cases ho : V.top.get j with
          | none => rw [ho] at H; exact H.elim
          | some o =>
            rw [ho] at H; dsimp only at H
            have e := Nat.eq_of_beq_eq_true ha
            subst e
            exact ⟨o, D.top a o ho, IH _ _ _ _ _ _ _ _ _ _ _ _ D H⟩
      | false =>
        rw [hb] at H; dsimp only at H
        cases ho : T.get (j - 256) with
        | none => rw [ho] at H; exact H.elim
        | some c =>
          rw [ho] at H; dsimp only at H
          obtain ⟨e, H⟩ := H
          subst e
          exact ⟨c.2, D.cells _ _ _ ho, IH _ _ _ _ _ _ _ _ _ _ _ _ D H⟩
  | loadIfAlive a k =>
    rw [Sem.wp_loadIfAlive]
    cases tr with
    | nil => exact H.elim
    | cons j tr =>
      simp only [segStep] at H
      cases hb : Nat.blt j 256 with
      | true =>
        rw [hb] at H; dsimp only at H
        cases ha : Nat.beq a j with
        | false => rw [ha] at H; exact H.elim
        | true =>
          rw [ha] at H; dsimp only at H
          cases ho : V.top.get j with
          | none => rw [ho] at H; exact H.elim
          | some o =>
            rw [ho] at H; dsimp only at H
            have e := Nat.eq_of_beq_eq_true ha
            subst e
            rw [D.top a o ho]
            exact IH _ _ _ _ _ _ _ _ _ _ _ _ D H
      | false =>
        rw [hb] at H; dsimp only at H
        cases ho : T.get (j - 256) with
        | none => rw [ho] at H; exact H.elim
        | some c =>
          rw [ho] at H; dsimp only at H
          obtain ⟨e, H⟩ := H
          subst e
          rw [D.cells _ _ _ ho]
          exact IH _ _ _ _ _ _ _ _ _ _ _ _ D H
  | alloc o k =>
    rw [Sem.wp_alloc]
    simp only [segStep] at H
    cases hf' : (o.isFreed || Nat.ble 1000 m) with
    | true => rw [hf'] at H; exact H.elim
    | false =>
      rw [hf'] at H; dsimp only at H
      obtain ⟨hf, hm⟩ := Bool.or_eq_false_iff.mp hf'
      have hm' : m < 1000 := by
        apply Nat.lt_of_not_le
        intro q
        rw [Nat.ble_eq_true_of_le q] at hm; cases hm
      rw [← D.addr]
      exact IH _ _ _ _ _ _ _ _ _ _ _ _ (D.alloc hf hm') H
  | update a q f k =>
    cases tr with
    | nil => exact H.elim
    | cons j tr =>
      simp only [segStep] at H
      cases hb : Nat.blt j 1256 with
      | false => rw [hb] at H; exact H.elim
      | true =>
        rw [hb] at H; dsimp only at H
        cases ho : T.get (j - 256) with
        | none => rw [ho] at H; exact H.elim
        | some c =>
          rw [ho] at H; dsimp only at H
          cases hf : (f c.2).isFreed with
          | true => rw [hf] at H; exact H.elim
          | false =>
            rw [hf] at H; dsimp only at H
            obtain ⟨e, H⟩ := H
            subst e
            have hj : j - 256 < 1000 := by have : j + 1 ≤ 1256 := Nat.le_of_ble_eq_true hb; omega
            exact ⟨by rw [D.cells _ _ _ ho]; rfl, IH _ _ _ _ _ _ _ _ _ _ _ _ (D.update hj ho hf) H⟩
  | fresh k =>
    rw [Sem.wp_fresh]
    have z := IH _ _ _ _ _ _ _ _ _ _ _ _ D.fresh H
    unfold Mean at z
    rw [D.tok] at z
    exact z
  | handled own k =>
    rw [Sem.wp_handled]
    cases own with
    | true => exact H.elim
    | false => exact IH _ _ _ _ _ _ _ _ _ _ _ _ D H
  | stack k => rw [Sem.wp_stack]; exact IH _ _ _ _ _ _ _ _ _ _ _ _ D H
  | call c hd g l k =>
    rw [Sem.wp_call]
    show wpCode M (Γ.enter c hd p) (RK M R (⟨Γ, p, k⟩ :: ks)) p s
    cases tr with
    | nil => exact H.elim
    | cons j tr =>
      simp only [segStep] at H
      cases h0 : Nat.beq j 0 with
      | true =>
        rw [h0] at H; dsimp only at H
        rw [wpCode_iff_wp]
        show wp M (Γ.enter c hd p) (M.den c) _ _ p s
        rw [hM.den]
        exact hM.alt _ _ _ _ _ _ (IH _ _ _ _ _ _ _ _ _ _ _ _ D H)
      | false =>
        rw [h0] at H; dsimp only at H
        cases h1 : Nat.beq j 1 with
        | true =>
          rw [h1] at H; dsimp only at H
          cases os with
          | nil => exact H.elim
          | cons o os =>
            obtain ⟨al', tk', s', hr, D', H'⟩ := H s D
            exact ⟨_, s', hr, IH _ _ _ _ _ _ _ _ _ _ _ _ D' H'⟩
        | false =>
          rw [h1] at H; dsimp only at H
          obtain ⟨hs, H⟩ := H
          refine hs s D _ ?_
          rw [wpCode_iff_wp]
          show wp M ((Γ.enter c hd p).goto (skipCode c)) (M.den (skipCode c)) _ _ p s
          rw [hM.den]
          exact IH _ _ _ _ _ _ _ _ _ _ _ _ D H
  | unsupported => exact H.elim
  | finish => exact H.elim
  | register => exact H.elim
  | choose => exact H.elim
  | os => exact H.elim
  | newGen => exact H.elim
  | genState => exact H.elim
  | resume => exact H.elim
  | yield => exact H.elim
  | fork => exact H.elim
  | thread => exact H.elim
  | await => exact H.elim
theorem seg_sound {V : SV} {M : Model} {s₀ : Shared} {A₀ : List Addr} {R : Result → Shared → Prop} (hM : IsM V M) : ∀ (n : Nat) (tr : List Nat) (os : List Orc) (Γ : Ctx) (p : Pos) (ks : List KF) (t : Sem Fin) (T : VT) (m i : Nat) (al tk : Nat → Nat) (s : Shared),
    Rep V s₀ A₀ T m i al tk s → Ok V M s₀ A₀ R (seg V n tr os Γ p ks t T m i al tk) → Mean M R ks Γ p t s
  | 0 => fun _ _ _ _ _ _ _ _ _ _ _ _ _ H => H.elim
  | n + 1 => step_sound hM (seg V n) (seg_sound hM n)
end Mine
namespace Mine
open PySem PySem.W PySem.W.X
open Sem (wp finPost)

/-! from the report to soundness -/
structure Now (V : SV) (s₀ : Shared) (A₀ : List Addr) (s : Shared) : Prop where
  top : ∀ j o, V.top.get j = some o → s.heap.get? j = some o
  keep : ∀ a o, s₀.heap.get? a = some o → a ∉ A₀ → s.heap.get? a = some o
  grow : s₀.heap.objs.size ≤ s.heap.objs.size
  older : s₀.toks ≤ s.toks
  gens : s.gens = s₀.gens
  drawn : s.drawn = s₀.drawn
  os : s.os = s₀.os
theorem Rep.now {V s₀ A₀ T m i al tk s} (D : Rep V s₀ A₀ T m i al tk s) : Now V s₀ A₀ s := ⟨D.top, D.keep, D.grow, D.older, D.gens, D.drawn, D.os⟩
noncomputable def CellsIn : List (Option Cell) → Shared → Prop
  | [], _ => True
  | none :: l, s => CellsIn l s
  | some c :: l, s => s.heap.get? c.1 = some c.2 ∧ CellsIn l s
theorem Rep.cellsIn {V s₀ A₀ T m i al tk s} (D : Rep V s₀ A₀ T m i al tk s) : ∀ js : List Nat, CellsIn (js.map T.get) s
  | [] => trivial
  | j :: js => by
    show CellsIn (T.get j :: js.map T.get) s
    cases h : T.get j with
    | none => exact D.cellsIn js
    | some c => exact ⟨D.cells j c.1 c.2 h, D.cellsIn js⟩
noncomputable def Upd (s' : Shared) : List (Option Cell) → List (Option Obj) → Prop
  | [], _ => True
  | _ :: _, [] => True
  | none :: l, _ :: us => Upd s' l us
  | some _ :: l, none :: us => Upd s' l us
  | some c :: l, some o :: us => s'.heap.get? c.1 = some o ∧ Upd s' l us
noncomputable def touched : List (Option Cell) → List (Option Obj) → List Addr
  | [], _ => []
  | _ :: _, [] => []
  | none :: l, _ :: us => touched l us
  | some _ :: l, none :: us => touched l us
  | some c :: l, some _ :: us => c.1 :: touched l us
/-- writable cells alone are turned -/
noncomputable def selOk : List Nat → List (Option Obj) → Bool
  | [], _ => true
  | _ :: _, [] => true
  | _ :: js, none :: us => selOk js us
  | j :: js, some _ :: us => Nat.blt j 1000 && selOk js us
structure Did (s₀ : Shared) (A₀ : List Addr) (s s' : Shared) (js : List Nat) (cells : List (Option Cell)) (us : List (Option Obj)) (news : List Obj) (shows : List (Nat × Cell)) (m i dm di : Nat) (al tk : Nat → Nat) : Prop where
  sel : selOk js us = true
  upd : Upd s' cells us
  keep : ∀ a o, s.heap.get? a = some o → a ∉ touched cells us → s'.heap.get? a = some o
  len : news.length = dm
  room : m + dm ≤ 1000
  new : ∀ k o, news[k]? = some o → s'.heap.get? (al (m + k)) = some o
  fresh : ∀ k, k < dm → s.heap.objs.size ≤ al (m + k)
  inj : ∀ k k', k < dm → k' < dm → al (m + k) = al (m + k') → k = k'
  shows : ∀ k a o, (k, (a, o)) ∈ shows → 1000 ≤ k ∧ s'.heap.get? a = some o ∧ a ∉ A₀ ∧ a < s₀.heap.objs.size
  size : ∀ k, al (m + dm + k) = s'.heap.objs.size + k
  toks : ∀ k, tk (i + di + k) = s'.toks + k
  grow : s.heap.objs.size ≤ s'.heap.objs.size
  older : s.toks ≤ s'.toks
  gens : s'.gens = s.gens
  drawn : s'.drawn = s.drawn
  os : s'.os = s.os

theorem updAll_get {T : VT} {s' : Shared} (apart : ∀ j k a o o', j < 1000 → T.get j = some (a, o) → T.get k = some (a, o') → k = j) :
    ∀ (js : List Nat) (us : List (Option Obj)), selOk js us = true → Upd s' (js.map T.get) us →
      (∀ k a o', (updAll T js us).get k = some (a, o') → (∃ o, T.get k = some (a, o)) ∧ (s'.heap.get? a = some o' ∨ (T.get k = some (a, o') ∧ a ∉ touched (js.map T.get) us))) ∧
      (∀ k, T.get k = none → (updAll T js us).get k = none) ∧ (∀ k, (updAll T js us).get k = none → T.get k = none)
  | [], us, _, _ => ⟨fun k a o' e => ⟨⟨o', e⟩, .inr ⟨e, by simp [touched]⟩⟩, fun _ e => e, fun _ e => e⟩
  | j :: js, [], _, _ => ⟨fun k a o' e => ⟨⟨o', e⟩, .inr ⟨e, by simp [touched]⟩⟩, fun _ e => e, fun _ e => e⟩
  | j :: js, u :: us, hs, H => by
    have hmap : (j :: js).map T.get = T.get j :: js.map T.get := rfl
    rw [hmap] at H ⊢
    cases u with
    | none =>
      have hs' : selOk js us = true := hs
      have hT : updAll T (j :: js) (none :: us) = updAll T js us := rfl
      rw [hT]
      have Ht : Upd s' (js.map T.get) us := by
        cases hj' : T.get j with
        | none => rw [hj'] at H; exact H
        | some c => rw [hj'] at H; exact H
      obtain ⟨h1, h2, h3⟩ := updAll_get apart js us hs' Ht
      refine ⟨fun k a o' e => ?_, h2, h3⟩
      obtain ⟨q, r⟩ := h1 k a o' e
      refine ⟨q, r.imp id fun ⟨r1, r2⟩ => ⟨r1, ?_⟩⟩
      cases hj' : T.get j with
      | none => exact r2
      | some c => exact r2
    | some o1 =>
      have hs' : Nat.blt j 1000 = true ∧ selOk js us = true := Bool.and_eq_true_iff.mp hs
      have hj : j < 1000 := Nat.le_of_ble_eq_true hs'.1
      cases hj' : T.get j with
      | none =>
        rw [hj'] at H
        have Ht : Upd s' (js.map T.get) us := H
        obtain ⟨h1, h2, h3⟩ := updAll_get apart js us hs'.2 Ht
        have hT : updAll T (j :: js) (some o1 :: us) = updAll T js us := by
          show (match VT.get (updAll T js us) j with | some c => VT.put dep (updAll T js us) j (c.1, o1) | none => updAll T js us) = _
          rw [h2 j hj']
        rw [hT]
        exact ⟨h1, h2, h3⟩
      | some c =>
        rw [hj'] at H
        obtain ⟨H0, Ht⟩ := H
        obtain ⟨h1, h2, h3⟩ := updAll_get apart js us hs'.2 Ht
        obtain ⟨c', hc'⟩ : ∃ c', (updAll T js us).get j = some c' := by
          cases h : (updAll T js us).get j with
          | none => have := h3 j h; rw [hj'] at this; cases this
          | some c' => exact ⟨c', rfl⟩
        have hT : updAll T (j :: js) (some o1 :: us) = VT.put dep (updAll T js us) j (c'.1, o1) := by
          show (match VT.get (updAll T js us) j with | some c => VT.put dep (updAll T js us) j (c.1, o1) | none => updAll T js us) = _
          rw [hc']
        rw [hT]
        have hcc : c'.1 = c.1 := by
          obtain ⟨⟨o, ho⟩, _⟩ := h1 j c'.1 c'.2 hc'
          rw [hj'] at ho
          cases ho; rfl
        have hg := get_put_lt (c'.1, o1) dep (updAll T js us) j (by show j + 1 < 4096; omega)
        refine ⟨fun k a o' e => ?_, fun k e => ?_, fun k e => ?_⟩
        · by_cases hk : k = j
          · subst hk
            rw [hg] at e
            cases e
            exact ⟨⟨c.2, by rw [hj', hcc]⟩, .inl (by rw [hcc]; exact H0)⟩
          · rw [VT.get_put_ne _ _ _ _ _ hk] at e
            obtain ⟨q, r⟩ := h1 k a o' e
            refine ⟨q, r.imp id fun ⟨r1, r2⟩ => ⟨r1, ?_⟩⟩
            show a ∉ c.1 :: touched (js.map T.get) us
            intro hm
            rcases List.mem_cons.mp hm with h | h
            · subst h; exact hk (apart j k _ _ _ hj hj' r1)
            · exact r2 h
        · by_cases hk : k = j
          · subst hk; rw [hj'] at e; cases e
          · rw [VT.get_put_ne _ _ _ _ _ hk]; exact h2 k e
        · by_cases hk : k = j
          · subst hk; rw [hg] at e; cases e
          · rw [VT.get_put_ne _ _ _ _ _ hk] at e; exact h3 k e
theorem newAll_get {al : Nat → Nat} : ∀ (news : List Obj) (T : VT) (m k : Nat) (a : Addr) (o : Obj), (newAll al news T m).get k = some (a, o) → T.get k = some (a, o) ∨ ∃ q, k = m + q ∧ news[q]? = some o ∧ a = al (m + q)
  | [], T, m, k, a, o, e => .inl e
  | x :: news, T, m, k, a, o, e => by
    have e' : (newAll al news (VT.put dep T m (al m, x)) (m + 1)).get k = some (a, o) := e
    rcases newAll_get news _ (m + 1) k a o e' with h | ⟨q, h1, h2, h3⟩
    · by_cases hk : k = m
      · subst hk
        rcases put_some h with r | r
        · cases r; exact .inr ⟨0, rfl, rfl, rfl⟩
        · exact .inl r
      · rw [VT.get_put_ne _ _ _ _ _ hk] at h; exact .inl h
    · exact .inr ⟨q + 1, by omega, h2, by rw [h3]; congr 1; omega⟩
theorem newAll_old {al : Nat → Nat} : ∀ (news : List Obj) (T : VT) (m k : Nat), k < m → (newAll al news T m).get k = T.get k
  | [], _, _, _, _ => rfl
  | x :: news, T, m, k, h => by
    show (newAll al news (VT.put dep T m (al m, x)) (m + 1)).get k = _
    rw [newAll_old news _ (m + 1) k (by omega), VT.get_put_ne _ _ _ _ _ (by omega)]

theorem showAll_get : ∀ (l : List (Nat × Cell)) (T : VT) (k : Nat) (c : Cell), (showAll T l).get k = some c → T.get k = some c ∨ (k, c) ∈ l
  | [], _, _, _, e => .inl e
  | x :: l, T, k, c, e => by
    have e' : (VT.put dep (showAll T l) x.1 x.2).get k = some c := e
    by_cases hk : k = x.1
    · subst hk
      rcases put_some e' with r | r
      · rw [r]; exact .inr (.head _)
      · exact (showAll_get l T _ c r).imp id (.tail _)
    · rw [VT.get_put_ne _ _ _ _ _ hk] at e'
      exact (showAll_get l T k c e').imp id (.tail _)
theorem Rep.did {V : SV} {s₀ : Shared} {A₀ : List Addr} {T : VT} {m i : Nat} {al tk al' tk' : Nat → Nat} {s s' : Shared} {js : List Nat} {us : List (Option Obj)} {news : List Obj} {shows : List (Nat × Cell)} {dm di : Nat}
    (D : Rep V s₀ A₀ T m i al tk s) (d : Did s₀ A₀ s s' js (js.map T.get) us news shows m i dm di al' tk') : Rep V s₀ A₀ (showAll (newAll al' news (updAll T js us) m) shows) (m + dm) (i + di) al' tk' s' := by
  obtain ⟨h1, h2, h3⟩ := updAll_get (fun j k a o o' hj e e' => D.apart hj e e') js us d.sel d.upd
  have tch : ∀ {js : List Nat} {us : List (Option Obj)} {a : Addr}, selOk js us = true → a ∈ touched (js.map T.get) us → ∃ j o, j < 1000 ∧ T.get j = some (a, o) := by
    intro js
    induction js with
    | nil => intro us a _ h; simp [touched] at h
    | cons j js ih =>
      intro us a hs h
      rw [List.map_cons] at h
      cases us with
      | nil => simp [touched] at h
      | cons u us =>
        cases u with
        | none =>
          cases hj : T.get j with
          | none => rw [hj] at h; exact ih hs h
          | some c => rw [hj] at h; exact ih hs h
        | some o =>
          have hs' : Nat.blt j 1000 = true ∧ selOk js us = true := Bool.and_eq_true_iff.mp hs
          cases hj : T.get j with
          | none => rw [hj] at h; exact ih hs'.2 h
          | some c =>
            rw [hj] at h
            rcases List.mem_cons.mp h with e | e
            · exact ⟨j, c.2, Nat.le_of_ble_eq_true hs'.1, by rw [hj, e]⟩
            · exact ih hs'.2 e
  have old : ∀ k a o, (updAll T js us).get k = some (a, o) → ∃ o', T.get k = some (a, o') := fun k a o e => (h1 k a o e).1
  have cs : ∀ k a o, (showAll (newAll al' news (updAll T js us) m) shows).get k = some (a, o) → (∃ o', T.get k = some (a, o') ∧ (updAll T js us).get k = some (a, o)) ∨ (∃ q, k = m + q ∧ news[q]? = some o ∧ a = al' (m + q) ∧ q < dm) ∨ (k, (a, o)) ∈ shows := fun k a o e => by
    rcases showAll_get shows _ k (a, o) e with e | e
    · rcases newAll_get news _ m k a o e with h | ⟨q, e1, e2, e3⟩
      · obtain ⟨o', ho'⟩ := old k a o h
        exact .inl ⟨o', ho', h⟩
      · refine .inr (.inl ⟨q, e1, e2, e3, ?_⟩)
        have := List.getElem?_eq_some_iff.mp e2
        rw [← d.len]; exact this.1
    · exact .inr (.inr e)
  have lt : ∀ k a o, T.get k = some (a, o) → a < s.heap.objs.size := fun k a o e => Heap.lt_size (D.cells k a o e)
  have room := d.room
  refine ⟨fun j o e => ?_, fun k a o e => ?_, fun k k' a o o' hk hk' e e' => ?_, fun k a o hk e => ?_, fun k a o hk e => ?_, fun k a o hk e => ?_, fun k hk hk' => ?_, d.size, d.toks, fun a o e hn => ?_, Nat.le_trans D.grow d.grow, Nat.le_trans D.older d.older, d.gens.trans D.gens, d.drawn.trans D.drawn, d.os.trans D.os⟩
  · refine d.keep j o (D.top j o e) fun hm => ?_
    obtain ⟨k, x, hk, hx⟩ := tch d.sel hm
    rw [D.off k j x hk hx] at e; cases e
  · rcases cs k a o e with ⟨o', ho', q⟩ | ⟨q, e1, e2, e3, _⟩ | q
    · rcases (h1 k a o q).2 with r | ⟨r1, r2⟩
      · exact r
      · exact d.keep a o (D.cells k a o r1) r2
    · rw [e3]; exact d.new q o e2
    · exact (d.shows k a o q).2.1
  · have ns : ∀ {k a o}, k < 1000 → (k, (a, o)) ∉ shows := fun hk q => by have := (d.shows _ _ _ q).1; omega
    rcases cs k a o e with ⟨x, hx, _⟩ | ⟨q, e1, e2, e3, e4⟩ | q
    · rcases cs k' a o' e' with ⟨x', hx', _⟩ | ⟨q', e1', e2', e3', e4'⟩ | q'
      · exact D.inj k k' a x x' hk hk' hx hx'
      · have h9 := d.fresh q' e4'; rw [← e3'] at h9; exact absurd (lt k a x hx) (Nat.not_lt.mpr h9)
      · exact absurd q' (ns hk')
    · rcases cs k' a o' e' with ⟨x', hx', _⟩ | ⟨q', e1', e2', e3', e4'⟩ | q'
      · have h9 := d.fresh q e4; rw [← e3] at h9; exact absurd (lt k' a x' hx') (Nat.not_lt.mpr h9)
      · rw [e1, e1', d.inj q q' e4 e4' (by rw [← e3, ← e3'])]
      · exact absurd q' (ns hk')
    · exact absurd q (ns hk)
  · rcases cs k a o e with ⟨x, hx, _⟩ | ⟨q, e1, e2, e3, e4⟩ | q
    · exact D.off k a x hk hx
    · cases ht : V.top.get a with
      | none => rfl
      | some x => have h9 := d.fresh q e4; rw [← e3] at h9; exact absurd (Heap.lt_size (D.top a x ht)) (Nat.not_lt.mpr h9)
    · have := (d.shows k a o q).1; omega
  · rcases cs k a o e with ⟨x, hx, _⟩ | ⟨q, e1, e2, e3, e4⟩ | q
    · exact D.own k a x hk hx
    · exact .inr (Nat.le_trans D.grow (by rw [e3]; exact d.fresh q e4))
    · have := (d.shows k a o q).1; omega
  · rcases cs k a o e with ⟨x, hx, _⟩ | ⟨q, e1, e2, e3, e4⟩ | q
    · exact D.ro k a x hk hx
    · omega
    · exact (d.shows k a o q).2.2
  · cases ht : (showAll (newAll al' news (updAll T js us) m) shows).get k with
    | none => rfl
    | some c =>
      rcases cs k c.1 c.2 ht with ⟨x, hx, _⟩ | ⟨q, e1, e2, e3, e4⟩ | q
      · rw [D.dom k (by omega) hk'] at hx; cases hx
      · omega
      · have := (d.shows k _ _ q).1; omega
  · refine d.keep a o (D.keep a o e hn) fun hm => ?_
    obtain ⟨k, x, hk, hx⟩ := tch d.sel hm
    rcases D.own k a x hk hx with h | h
    · exact hn h
    · exact absurd (Heap.lt_size e) (Nat.not_lt.mpr h)

section
variable (V : SV) (M : Model) (s₀ : Shared) (A₀ : List Addr) (R : Result → Shared → Prop)
noncomputable def iterOk (o : Obj) : Bool := match o.cls with
  | .type n => n == "range_iterator" || n == "list_iterator" || n == "str_ascii_iterator"
  | _ => false
noncomputable def Skip : Prop := ∀ (c : Code) (Γ : Ctx) (p : Pos) (s : Shared) (b : Addr) (o : Obj), skipInfo c = some b → Γ.code = c → (∀ j o, V.top.get j = some o → s.heap.get? j = some o) → s.heap.get? b = some o → iterOk o = true →
  ∀ R', wpCode M (Γ.goto (skipCode c)) R' p s → wpCode M Γ R' p s
noncomputable def OkR : RLog → Prop
  | .bad _ => False
  | .call rc x m i cells o next => ∀ c Γ p, rcOf c = rc → Γ.code = c → (∀ y, x = some y → y = (Γ, p)) → ∀ s, Now V s₀ A₀ s → CellsIn cells s →
      ∃ al' tk' s', Returns M Γ p s (o.r c m i al' tk') s' ∧ Did s₀ A₀ s s' o.sel cells (o.upd c m i al' tk') (o.news c m i al' tk') (o.shows c m i al' tk') m i o.dm o.di al' tk' ∧ OkR (next al' tk')
  | .ret r cells => ∀ s, Now V s₀ A₀ s → CellsIn cells s → R r s
  | .again Γ cells => ∀ p s, Now V s₀ A₀ s → CellsIn cells s → wpCode M Γ R p s
  | .goto a cell l => (∃ b o, a = some b ∧ cell = some (b, o) ∧ iterOk o = true) ∧ OkR l
end
/-- the contexts of the calls in a log are those of their codes -/
noncomputable def Wf : SLog → Prop
  | .bad _ => True
  | .addr _ _ l => Wf l
  | .tree _ _ l => Wf l
  | .call c Γ _ _ _ _ _ _ _ next => Γ.code = c ∧ ∀ al tk, Wf (next al tk)
  | .ret .. => True
  | .again .. => True
  | .goto c Γ _ _ _ _ _ _ _ l => Γ.code = c ∧ Wf l
theorem wf_ret {ih : Cont} (IH : ∀ tr os Γ p ks t T m i al tk, Wf (ih tr os Γ p ks t T m i al tk)) (r : Result) (tr os ks T m i al tk) : Wf (retS ih r tr os ks T m i al tk) := by
  cases ks with
  | nil => trivial
  | cons f ks => exact IH _ _ _ _ _ _ _ _ _ _ _
theorem wf_step {V : SV} {ih : Cont} (IH : ∀ tr os Γ p ks t T m i al tk, Wf (ih tr os Γ p ks t T m i al tk)) (tr os Γ p ks t T m i al tk) : Wf (segStep V ih tr os Γ p ks t T m i al tk) := by
  cases t with
  | pure fin =>
    cases fin with
    | done f => exact wf_ret IH _ _ _ _ _ _ _ _ _
    | again c =>
      simp only [segStep]
      cases quietQ c with
      | false => trivial
      | true =>
        cases ks with
        | cons f ks => exact IH _ _ _ _ _ _ _ _ _ _ _
        | nil =>
          cases tr with
          | nil => exact IH _ _ _ _ _ _ _ _ _ _ _
          | cons j tr =>
            dsimp only
            cases Nat.beq j 255 with
            | true => trivial
            | false => exact IH _ _ _ _ _ _ _ _ _ _ _
  | raise e => exact wf_ret IH _ _ _ _ _ _ _ _ _
  | rule tag k => exact IH _ _ _ _ _ _ _ _ _ _ _
  | «at» q k => exact IH _ _ _ _ _ _ _ _ _ _ _
  | point l k => exact IH _ _ _ _ _ _ _ _ _ _ _
  | ask k => exact IH _ _ _ _ _ _ _ _ _ _ _
  | load a q k =>
    cases tr with
    | nil => trivial
    | cons j tr =>
      simp only [segStep]
      cases Nat.blt j 256 with
      | true =>
        dsimp only
        cases Nat.beq a j with
        | false => trivial
        | true =>
          dsimp only
          cases V.top.get j with
          | none => trivial
          | some o => exact IH _ _ _ _ _ _ _ _ _ _ _
      | false =>
        dsimp only
        cases T.get (j - 256) with
        | none => trivial
        | some c => exact IH _ _ _ _ _ _ _ _ _ _ _
  | loadIfAlive a k =>
    cases tr with
    | nil => trivial
    | cons j tr =>
      simp only [segStep]
      cases Nat.blt j 256 with
      | true =>
        dsimp only
        cases Nat.beq a j with
        | false => trivial
        | true =>
          dsimp only
          cases V.top.get j with
          | none => trivial
          | some o => exact IH _ _ _ _ _ _ _ _ _ _ _
      | false =>
        dsimp only
        cases T.get (j - 256) with
        | none => trivial
        | some c => exact IH _ _ _ _ _ _ _ _ _ _ _
  | alloc o k =>
    simp only [segStep]
    cases (o.isFreed || Nat.ble 1000 m) with
    | true => trivial
    | false => exact IH _ _ _ _ _ _ _ _ _ _ _
  | update a q f k =>
    cases tr with
    | nil => trivial
    | cons j tr =>
      simp only [segStep]
      cases Nat.blt j 1256 with
      | false => trivial
      | true =>
        dsimp only
        cases T.get (j - 256) with
        | none => trivial
        | some c =>
          dsimp only
          cases (f c.2).isFreed with
          | true => trivial
          | false => exact IH _ _ _ _ _ _ _ _ _ _ _
  | fresh k => exact IH _ _ _ _ _ _ _ _ _ _ _
  | handled own k =>
    cases own with
    | true => trivial
    | false => exact IH _ _ _ _ _ _ _ _ _ _ _
  | stack k => exact IH _ _ _ _ _ _ _ _ _ _ _
  | call c hd g l k =>
    cases tr with
    | nil => trivial
    | cons j tr =>
      simp only [segStep]
      cases Nat.beq j 0 with
      | true => exact IH _ _ _ _ _ _ _ _ _ _ _
      | false =>
        dsimp only
        cases Nat.beq j 1 with
        | true =>
          dsimp only
          cases os with
          | nil => trivial
          | cons o os => exact ⟨rfl, fun _ _ => IH _ _ _ _ _ _ _ _ _ _ _⟩
        | false => exact ⟨rfl, IH _ _ _ _ _ _ _ _ _ _ _⟩
  | unsupported => trivial
  | finish => trivial
  | register => trivial
  | choose => trivial
  | os => trivial
  | newGen => trivial
  | genState => trivial
  | resume => trivial
  | yield => trivial
  | fork => trivial
  | thread => trivial
  | await => trivial
theorem wf_seg {V : SV} : ∀ (n : Nat) (tr os Γ p ks t T m i al tk), Wf (seg V n tr os Γ p ks t T m i al tk)
  | 0, _, _, _, _, _, _, _, _, _, _, _ => trivial
  | n + 1, tr, os, Γ, p, ks, t, T, m, i, al, tk => wf_step (wf_seg n) tr os Γ p ks t T m i al tk
theorem ok_of_rep {V : SV} {M : Model} {s₀ : Shared} {A₀ : List Addr} {R : Result → Shared → Prop} (hS : Skip V M) (fs : List Nat) : ∀ L : SLog, Wf L → chk true L = chk false L → OkR V M s₀ A₀ R (rep fs L) → Ok V M s₀ A₀ R L
  | .bad _, _, _, h => h
  | .addr a b l, w, e, h => by
    have e' : CLog.addr a (chk true l) = CLog.addr b (chk false l) := e
    injection e' with e1 e2
    exact ⟨e1, ok_of_rep hS fs l w e2 h⟩
  | .tree t u l, w, e, h => by
    have e' : CLog.tree t (chk true l) = CLog.tree u (chk false l) := e
    injection e' with e1 e2
    exact ⟨e1, ok_of_rep hS fs l w e2 h⟩
  | .call c Γ p T m i al tk o next, w, e, h => by
    have e' : CLog.call (fun al tk => chk true (next al tk)) = CLog.call (fun al tk => chk false (next al tk)) := e
    injection e' with e1
    have h' : ∀ c' Γ' p', rcOf c' = rcOf c → Γ'.code = c' → (∀ y, (match o.ctx with | true => some (Γ, p) | false => none) = some y → y = (Γ', p')) → ∀ s, Now V s₀ A₀ s → CellsIn (o.sel.map T.get) s →
      ∃ al' tk' s', Returns M Γ' p' s (o.r c' m i al' tk') s' ∧ Did s₀ A₀ s s' o.sel (o.sel.map T.get) (o.upd c' m i al' tk') (o.news c' m i al' tk') (o.shows c' m i al' tk') m i o.dm o.di al' tk' ∧ OkR V M s₀ A₀ R (rep fs (next al' tk')) := h
    intro s D
    obtain ⟨al', tk', s', hr, d, ok⟩ := h' c Γ p rfl w.1 (fun y hy => by
      cases hx : o.ctx with
      | true => rw [hx] at hy; exact (Option.some.inj hy).symm
      | false => rw [hx] at hy; cases hy) s D.now (D.cellsIn _)
    exact ⟨al', tk', s', hr, D.did d, ok_of_rep hS fs (next al' tk') (w.2 al' tk') (congrFun (congrFun e1 al') tk') ok⟩
  | .ret r T m i al tk, _, _, h => fun s D => h s D.now (D.cellsIn fs)
  | .again c Γ p T m i al tk, _, _, h => fun s D => h p s D.now (D.cellsIn fs)
  | .goto c Γ p T m i al tk j l, w, e, h => by
    obtain ⟨⟨b, o, h1, h2, h3⟩, h4⟩ := h
    exact ⟨fun s D R' hw => hS c Γ p s b o h1 w.1 D.top (D.cells j b o h2) h3 R' hw, ok_of_rep hS fs l w.2 e h4⟩

theorem run_sound {V : SV} {M : Model} {s₀ : Shared} {A₀ : List Addr} {R : Result → Shared → Prop} (hM : IsM V M) (hS : Skip V M) {n : Nat} {tr : List Nat} {os : List Orc} {Γ : Ctx} {p : Pos} {T : VT} {m i : Nat} {al tk : Nat → Nat} {s : Shared} {fs : List Nat} {E : RLog}
    (D : Rep V s₀ A₀ T m i al tk s)
    (h : (chk true (seg V n tr os Γ p [] (denF Γ.code) T m i al tk), rep fs (seg V n tr os Γ p [] (denF Γ.code) T m i al tk)) = (chk false (seg V n tr os Γ p [] (denF Γ.code) T m i al tk), E))
    (ok : OkR V M s₀ A₀ R E) : wpCode M Γ R p s := by
  obtain ⟨h1, h2⟩ := Prod.mk.inj h
  rw [wpCode_iff_wp, hM.den]
  exact seg_sound hM n tr os Γ p [] (denF Γ.code) T m i al tk s D (ok_of_rep hS fs _ (wf_seg ..) h1 (h2 ▸ ok))

/-! addresses and report in one go -/
inductive XLog where
  | bad (n : Nat)
  | off
  | addr (a : Addr) (l : XLog)
  | tree (t : Sem Fin) (l : XLog)
  | call (c : RC) (x : Option (Ctx × Pos)) (m i : Nat) (cells : List (Option Cell)) (o : Orc) (next : (Nat → Nat) → (Nat → Nat) → XLog)
  | ret (r : Result) (cells : List (Option Cell))
  | again (Γ : Ctx) (cells : List (Option Cell))
  | goto (a : Option Addr) (cell : Option Cell) (l : XLog)
noncomputable def mixA (fs : List Nat) (l : SLog) : XLog := SLog.rec (motive := fun _ => XLog) (fun n => .bad n)
  (fun a _ _ ih => .addr a ih) (fun t _ _ ih => .tree t ih)
  (fun c Γ p T m i _ _ o _ ih => .call (rcOf c) (match o.ctx with | true => some (Γ, p) | false => none) m i (o.sel.map T.get) o ih) (fun r T _ _ _ _ => .ret r (fs.map T.get)) (fun c Γ _ T _ _ _ _ => .again (Γ.goto c) (fs.map T.get)) (fun c _ _ T _ _ _ _ j _ ih => .goto (skipInfo c) (T.get j) ih) l
noncomputable def mixB (l : SLog) : RLog → XLog := SLog.rec (motive := fun _ => RLog → XLog) (fun _ _ => .off)
  (fun _ b _ ih E => .addr b (ih E)) (fun _ u _ ih E => .tree u (ih E))
  (fun _ _ _ _ _ _ _ _ _ _ ih E => match E with | .call c x m i cells o next => .call c x m i cells o (fun al tk => ih al tk (next al tk)) | _ => .off)
  (fun _ _ _ _ _ _ E => match E with | .ret r cells => .ret r cells | _ => .off) (fun _ _ _ _ _ _ _ _ E => match E with | .again Γ cells => .again Γ cells | _ => .off)
  (fun _ _ _ _ _ _ _ _ _ _ ih E => match E with | .goto a cell l => .goto a cell (ih l) | _ => .off) l
theorem mix_of (fs : List Nat) : ∀ (L : SLog) (E : RLog), mixA fs L = mixB L E → chk true L = chk false L ∧ rep fs L = E
  | .bad _, _, h => by cases h
  | .addr a b l, E, h => by
    have h' : XLog.addr a (mixA fs l) = XLog.addr b (mixB l E) := h
    injection h' with h1 h2
    obtain ⟨q1, q2⟩ := mix_of fs l E h2
    refine ⟨?_, q2⟩
    show CLog.addr a (chk true l) = CLog.addr b (chk false l)
    rw [h1, q1]
  | .tree t u l, E, h => by
    have h' : XLog.tree t (mixA fs l) = XLog.tree u (mixB l E) := h
    injection h' with h1 h2
    obtain ⟨q1, q2⟩ := mix_of fs l E h2
    refine ⟨?_, q2⟩
    show CLog.tree t (chk true l) = CLog.tree u (chk false l)
    rw [h1, q1]
  | .call c Γ p T m i al tk o next, E, h => by
    cases E with
    | call rc x m' i' cells o' next' =>
      have h' : XLog.call (rcOf c) (match o.ctx with | true => some (Γ, p) | false => none) m i (o.sel.map T.get) o (fun al tk => mixA fs (next al tk)) = XLog.call rc x m' i' cells o' (fun al tk => mixB (next al tk) (next' al tk)) := h
      injection h' with h1 h2 h3 h4 h5 h6 h7
      have q := fun al tk => mix_of fs (next al tk) (next' al tk) (congrFun (congrFun h7 al) tk)
      refine ⟨?_, ?_⟩
      · show CLog.call (fun al tk => chk true (next al tk)) = CLog.call (fun al tk => chk false (next al tk))
        congr 1
        funext al tk
        exact (q al tk).1
      · show RLog.call (rcOf c) (match o.ctx with | true => some (Γ, p) | false => none) m i (o.sel.map T.get) o (fun al tk => rep fs (next al tk)) = _
        rw [h1, h2, h3, h4, h5, h6]
        congr 1
        funext al tk
        exact (q al tk).2
    | _ => cases h
  | .ret r T m i al tk, E, h => by
    cases E with
    | ret r' cells =>
      have h' : XLog.ret r (fs.map T.get) = XLog.ret r' cells := h
      injection h' with h1 h2
      exact ⟨rfl, by rw [← h1, ← h2]; rfl⟩
    | _ => cases h
  | .again c Γ p T m i al tk, E, h => by
    cases E with
    | again Γ' cells =>
      have h' : XLog.again (Γ.goto c) (fs.map T.get) = XLog.again Γ' cells := h
      injection h' with h1 h2
      exact ⟨rfl, by rw [← h1, ← h2]; rfl⟩
    | _ => cases h
  | .goto c Γ p T m i al tk j l, E, h => by
    cases E with
    | goto a cell l' =>
      have h' : XLog.goto (skipInfo c) (T.get j) (mixA fs l) = XLog.goto a cell (mixB l l') := h
      injection h' with h1 h2 h3
      obtain ⟨q1, q2⟩ := mix_of fs l l' h3
      exact ⟨q1, by rw [← h1, ← h2, ← q2]; rfl⟩
    | _ => cases h
theorem run_mix {V : SV} {M : Model} {s₀ : Shared} {A₀ : List Addr} {R : Result → Shared → Prop} (hM : IsM V M) (hS : Skip V M) {n : Nat} {tr : List Nat} {os : List Orc} {Γ : Ctx} {p : Pos} {T : VT} {m i : Nat} {al tk : Nat → Nat} {s : Shared} {fs : List Nat} {E : RLog}
    (D : Rep V s₀ A₀ T m i al tk s) (h : mixA fs (seg V n tr os Γ p [] (denF Γ.code) T m i al tk) = mixB (seg V n tr os Γ p [] (denF Γ.code) T m i al tk) E)
    (ok : OkR V M s₀ A₀ R E) : wpCode M Γ R p s := by
  obtain ⟨h1, h2⟩ := mix_of fs _ _ h
  exact run_sound hM hS D (fs := fs) (E := E) (by rw [h1, h2]) ok
end Mine
namespace Mine
open PySem PySem.W PySem.W.X
open Sem (wp finPost)

/-! contracts: how one is laid at a call -/
noncomputable def aboutB (Γ : Ctx) : Around := { handled := Γ.handled, depth := frameCount Γ.below, frames := none, guards := none, units := unitsOf Γ.below }
theorem below_any (Γ : Ctx) : Γ.Below (aboutB Γ) := ⟨rfl, Nat.le_refl _, fun _ h => (nomatch h), fun _ h => (nomatch h), Nat.le_refl _⟩
noncomputable def aboutI (Γ : Ctx) : Around := { handled := Γ.handled, depth := frameCount Γ.below + Γ.code.weight, frames := none, guards := none, units := Γ.units }
theorem in_any (Γ : Ctx) : Γ.In (aboutI Γ) := ⟨rfl, Nat.le_refl _, fun _ h => (nomatch h), fun _ h => (nomatch h), Nat.le_refl _⟩
theorem returns_any {M : Model} {Γ : Ctx} {p : Pos} {s : Shared} {R : Result → Shared → Prop} {c : Code} (hc : Γ.code = c) (h : ∀ A, codeAny M A c R s) : ∃ r s', Returns M Γ p s r s' ∧ R r s' :=
  h (aboutB Γ) Γ p hc (below_any Γ)
theorem returns_at {M : Model} {Γ : Ctx} {p : Pos} {s s' : Shared} {r : Result} {c : Code} (hc : Γ.code = c) (h : ∀ A, codeAny M A c (fun r₁ s₁ => r₁ = r ∧ s₁ = s') s) : Returns M Γ p s r s' := by
  obtain ⟨r₁, s₁, h1, rfl, rfl⟩ := returns_any hc h
  exact h1

structure Step (s s' : Shared) (tch : List Addr) : Prop where
  keep : ∀ a o, s.heap.get? a = some o → a ∉ tch → s'.heap.get? a = some o
  grow : s.heap.objs.size ≤ s'.heap.objs.size
  older : s.toks ≤ s'.toks
  gens : s'.gens = s.gens
  drawn : s'.drawn = s.drawn
  os : s'.os = s.os
theorem Step.toks (s : Shared) (n : Nat) : Step s { s with toks := s.toks + n } [] := ⟨fun _ _ e _ => e, Nat.le_refl _, Nat.le_add_right _ _, rfl, rfl, rfl⟩
theorem Step.refl (s : Shared) : Step s s [] := ⟨fun _ _ e _ => e, Nat.le_refl _, Nat.le_refl _, rfl, rfl, rfl⟩
theorem Step.trans {s s' s'' : Shared} {l l' : List Addr} (h : Step s s' l) (h' : Step s' s'' l') : Step s s'' (l ++ l') :=
  ⟨fun a o e hn => h'.keep a o (h.keep a o e fun q => hn (List.mem_append_left _ q)) fun q => hn (List.mem_append_right _ q), Nat.le_trans h.grow h'.grow, Nat.le_trans h.older h'.older, h'.gens.trans h.gens, h'.drawn.trans h.drawn, h'.os.trans h.os⟩
theorem Step.mono {s s' : Shared} {l l' : List Addr} (h : Step s s' l) (hl : ∀ a ∈ l, a ∈ l') : Step s s' l' := ⟨fun a o e hn => h.keep a o e fun q => hn (hl a q), h.grow, h.older, h.gens, h.drawn, h.os⟩

noncomputable def alOf (m : Nat) (bs : List Nat) (n j : Nat) : Nat := if j - m < bs.length then bs.getD (j - m) 0 else n + (j - m - bs.length)
theorem alOf_end (m : Nat) (bs : List Nat) (n k : Nat) : alOf m bs n (m + bs.length + k) = n + k := by
  unfold alOf
  rw [if_neg (by omega)]
  congr 1; omega
theorem alOf_at (m : Nat) (bs : List Nat) (n k : Nat) (h : k < bs.length) : alOf m bs n (m + k) = bs.getD k 0 := by
  unfold alOf
  rw [if_pos (by omega)]
  congr 1; omega

section
variable {V : SV} {M : Model} {s₀ : Shared} {A₀ : List Addr} {R : Result → Shared → Prop}
theorem okr_gen {rc : RC} {x : Option (Ctx × Pos)} {m i : Nat} {cells : List (Option Cell)} {o : Orc} {next : (Nat → Nat) → (Nat → Nat) → RLog}
    (H : ∀ c Γ p, rcOf c = rc → Γ.code = c → (∀ y, x = some y → y = (Γ, p)) → ∀ s, Now V s₀ A₀ s → CellsIn cells s → ∃ s' bs ts, bs.length = o.dm ∧ ts.length = o.di ∧
      ∃ al' tk', al' = alOf m bs s'.heap.objs.size ∧ tk' = alOf i ts s'.toks ∧
      Returns M Γ p s (o.r c m i al' tk') s' ∧ selOk o.sel (o.upd c m i al' tk') = true ∧ Upd s' cells (o.upd c m i al' tk') ∧ Step s s' (touched cells (o.upd c m i al' tk')) ∧
      ((o.news c m i al' tk').length = o.dm ∧ m + o.dm ≤ 1000 ∧ (∀ k ob, (o.news c m i al' tk')[k]? = some ob → s'.heap.get? (bs.getD k 0) = some ob) ∧ (∀ k, k < o.dm → s.heap.objs.size ≤ bs.getD k 0) ∧ (∀ k k', k < o.dm → k' < o.dm → bs.getD k 0 = bs.getD k' 0 → k = k')) ∧
      (∀ k a ob, (k, (a, ob)) ∈ o.shows c m i al' tk' → 1000 ≤ k ∧ s'.heap.get? a = some ob ∧ a ∉ A₀ ∧ a < s₀.heap.objs.size) ∧
      OkR V M s₀ A₀ R (next al' tk')) : OkR V M s₀ A₀ R (.call rc x m i cells o next) := by
  intro c Γ p h1 h2 h3 s hn hc
  obtain ⟨s', bs, ts, hb, ht, al', tk', ea, et, hr, hsel, hu, st, ⟨n1, n2, n3, n4, n5⟩, sh, ok⟩ := H c Γ p h1 h2 h3 s hn hc
  refine ⟨al', tk', s', hr, ⟨hsel, hu, st.keep, n1, n2, fun k ob e => ?_, fun k hk => ?_, fun k k' hk hk' e => ?_, sh, fun k => ?_, fun k => ?_, st.grow, st.older, st.gens, st.drawn, st.os⟩, ok⟩
  · have hk : k < bs.length := by rw [hb, ← n1]; exact (List.getElem?_eq_some_iff.mp e).1
    rw [ea, alOf_at m bs _ k hk]; exact n3 k ob e
  · rw [ea, alOf_at m bs _ k (by omega)]; exact n4 k hk
  · rw [ea, alOf_at m bs _ k (by omega), alOf_at m bs _ k' (by omega)] at e; exact n5 k k' hk hk' e
  · rw [ea, ← hb]; exact alOf_end ..
  · rw [et, ← ht]; exact alOf_end ..

/-- a contract that turns no object: its value may bear one new token -/
noncomputable def orcV (f : Nat → Value) : Orc := { r := fun _ _ i _ tk => .ok (.ret (f (tk i))), di := 1 }
theorem okr_V {rc : RC} {m i : Nat} {f : Nat → Value} {next : (Nat → Nat) → (Nat → Nat) → RLog}
    (H : ∀ c Γ p, rcOf c = rc → Γ.code = c → ∀ s, Now V s₀ A₀ s → ∃ t s', Returns M Γ p s (.ok (.ret (f t))) s' ∧ Step s s' []) (hm : Nat.ble m 1000 = true)
    (ok : ∀ al tk, OkR V M s₀ A₀ R (next al tk)) : OkR V M s₀ A₀ R (.call rc none m i [] (orcV f) next) := by
  refine okr_gen fun c Γ p h1 h2 _ s hn _ => ?_
  obtain ⟨t, s', hr, st⟩ := H c Γ p h1 h2 s hn
  refine ⟨s', [], [t], rfl, rfl, _, _, rfl, rfl, ?_, rfl, trivial, st, ⟨rfl, Nat.le_of_ble_eq_true hm, fun k ob e => (by cases e), fun k hk => (by cases hk), fun k k' hk => (by cases hk)⟩, fun k a ob e => (by cases e), ok _ _⟩
  show Returns M Γ p s (.ok (.ret (f (alOf i [t] s'.toks i)))) s'
  rw [show alOf i [t] s'.toks i = t from alOf_at i [t] _ 0 (by simp)]
  exact hr
/-- one that turns cells of its own -/
noncomputable def orcU (sel : List Nat) (f : Nat → Value) (us : Code → List (Option Obj)) : Orc := { sel, r := fun _ _ i _ tk => .ok (.ret (f (tk i))), upd := fun c _ _ _ _ => us c, di := 1 }
theorem okr_U {rc : RC} {m i : Nat} {sel : List Nat} {cells : List (Option Cell)} {f : Nat → Value} {us : Code → List (Option Obj)} {next : (Nat → Nat) → (Nat → Nat) → RLog}
    (H : ∀ c Γ p, rcOf c = rc → Γ.code = c → ∀ s, Now V s₀ A₀ s → CellsIn cells s → ∃ t s', Returns M Γ p s (.ok (.ret (f t))) s' ∧ selOk sel (us c) = true ∧ Upd s' cells (us c) ∧ Step s s' (touched cells (us c))) (hm : Nat.ble m 1000 = true)
    (ok : ∀ al tk, OkR V M s₀ A₀ R (next al tk)) : OkR V M s₀ A₀ R (.call rc none m i cells (orcU sel f us) next) := by
  refine okr_gen fun c Γ p h1 h2 _ s hn hc => ?_
  obtain ⟨t, s', hr, hs, hu, st⟩ := H c Γ p h1 h2 s hn hc
  refine ⟨s', [], [t], rfl, rfl, _, _, rfl, rfl, ?_, hs, hu, st, ⟨rfl, Nat.le_of_ble_eq_true hm, fun k ob e => (by cases e), fun k hk => (by cases hk), fun k k' hk => (by cases hk)⟩, fun k a ob e => (by cases e), ok _ _⟩
  show Returns M Γ p s (.ok (.ret (f (alOf i [t] s'.toks i)))) s'
  rw [show alOf i [t] s'.toks i = t from alOf_at i [t] _ 0 (by simp)]
  exact hr
end

theorem rc_bi {c : Code} {n : Nat} {as : List Value} (h : rcOf c = .bi n as) (id : String) (e : PySem.code id = n) : c = .call (.builtin id) ⟨as, []⟩ := by
  unfold rcOf at h
  cases c with
  | call f a =>
    obtain ⟨xs, kw⟩ := a
    cases kw with
    | cons => simp at h
    | nil =>
      cases f with
      | builtin id' =>
        simp only [RC.bi.injEq] at h
        obtain ⟨h1, rfl⟩ := h
        rw [← PySem.W.S.code_S] at h1
        rw [PySem.code_inj id' id (h1.trans e.symm)]
      | _ => simp at h
  | _ => simp at h
theorem rc_ty {c : Code} {n : Nat} {as : List Value} (h : rcOf c = .ty n as) (id : String) (e : PySem.code id = n) : c = .call (.type id) ⟨as, []⟩ := by
  unfold rcOf at h
  cases c with
  | call f a =>
    obtain ⟨xs, kw⟩ := a
    cases kw with
    | cons => simp at h
    | nil =>
      cases f with
      | type id' =>
        simp only [RC.ty.injEq] at h
        obtain ⟨h1, rfl⟩ := h
        rw [← PySem.W.S.code_S] at h1
        rw [PySem.code_inj id' id (h1.trans e.symm)]
      | _ => simp at h
  | _ => simp at h
theorem rc_fn {c : Code} {a : Addr} {as : List Value} (h : rcOf c = .fn a as) : c = .call (.ref a) ⟨as, []⟩ := by
  unfold rcOf at h
  cases c with
  | call f x =>
    obtain ⟨xs, kw⟩ := x
    cases kw with
    | cons => simp at h
    | nil =>
      cases f with
      | ref b =>
        simp only [RC.fn.injEq] at h
        obtain ⟨rfl, rfl⟩ := h
        rfl
      | _ => simp at h
  | _ => simp at h
theorem rc_other {c d : Code} (h : rcOf c = .other d) : c = d := by
  unfold rcOf at h
  cases c with
  | call f x =>
    obtain ⟨xs, kw⟩ := x
    cases kw with
    | cons => simpa using h
    | nil => cases f <;> simp at h <;> exact h
  | _ => simpa using h
theorem allC {α : Type} {P : α → Prop} {a : α} {l : List α} (h : P a) (t : ∀ x ∈ l, P x) : ∀ x ∈ a :: l, P x := List.forall_mem_cons.mpr ⟨h, t⟩
theorem allN {α : Type} {P : α → Prop} : ∀ x ∈ ([] : List α), P x := fun _ h => nomatch h
theorem viaG {P : Prop} (h : ∀ G : Prop, (P → G) → G) : P := h P id
end Mine
namespace Mine
open PySem PySem.W PySem.W.X
open Sem (wp finPost)
/-! a comprehension's source is asked for its iterator twice or once: both ways lead to the same loop -/
theorem iter_itself {w : World} {s : Shared} {b : Addr} {o : Obj} (ho : s.heap.get? b = some o) (hi : iterOk o = true) (A : Around) (E : Value → Shared → Prop) :
    wpAny (model prog w) A (pyIter (.ref b)) (fun v s' => v = .ref b ∧ s' = s) E s := by
  unfold iterOk at hi
  cases hc : o.cls with
  | type n =>
    rw [hc] at hi
    simp only [Bool.or_eq_true, beq_iff_eq] at hi
    rcases hi with (rfl | rfl) | rfl
    · have hT : s.TypeIs (.ref b) "range_iterator" := ⟨o, ho, hc⟩
      refine wpAny_pyIter_slot hT F.slot_range_iterator_iter (wpAny_call_entry F.slot_range_iterator_iter hT F.entry_range_iterator_iter ?_ (F.args_range_iterator_iter_1 _))
      show wpAny _ _ (ret (.ref b)) _ _ s
      exact wpAny_pure ⟨_, rfl, "range_iterator", _, hT, F.slot_range_iterator_next.lookup, rfl, rfl⟩
    · have hT : s.TypeIs (.ref b) "list_iterator" := ⟨o, ho, hc⟩
      refine wpAny_pyIter_slot hT slot_listiter_iter (wpAny_call_entry slot_listiter_iter hT entry_listiter_iter ?_ (args_listiter_iter _))
      show wpAny _ _ (ret (.ref b)) _ _ s
      exact wpAny_pure ⟨_, rfl, "list_iterator", _, hT, slot_listiter_next.lookup, rfl, rfl⟩
    · have hT : s.TypeIs (.ref b) "str_ascii_iterator" := ⟨o, ho, hc⟩
      refine wpAny_pyIter_slot hT F.slot_str_ascii_iterator_iter (wpAny_call_entry F.slot_str_ascii_iterator_iter hT F.entry_str_ascii_iterator_iter ?_ (F.args_str_ascii_iterator_iter_1 _))
      show wpAny _ _ (ret (.ref b)) _ _ s
      exact wpAny_pure ⟨_, rfl, "str_ascii_iterator", _, hT, F.slot_str_ascii_iterator_next.lookup, rfl, rfl⟩
  | _ => rw [hc] at hi; cases hi
theorem skip_ok (V : SV) (w : World) : Skip V (model prog w) := by
  intro c Γ p s b o hi hΓ _ ho hio R' h
  unfold skipInfo at hi
  cases c with
  | compStart e d it acc env =>
    cases e with
    | ListComp elt gs sc pos =>
      cases gs with
      | nil => cases hi
      | cons g gs =>
        cases d with
        | succ d => cases hi
        | zero =>
          cases it with
          | ref a =>
            obtain rfl : a = b := Option.some.inj hi
            obtain ⟨target, iter, ifs, asy⟩ := g
            -- the loop's tree stands at a place of its own first
            have hpos : ∀ p', wpCode (model prog w) (Γ.goto (.compLoop (.ListComp elt (⟨target, iter, ifs, asy⟩ :: gs) sc pos) 0 (.ref a) acc env)) R' p' s := by
              intro p'
              rw [wpCode_iff_wp] at h ⊢
              exact h
            have fin : ∀ p', finPost (model prog w) Γ R' (.again (.compLoop (.ListComp elt (⟨target, iter, ifs, asy⟩ :: gs) sc pos) 0 (.ref a) acc env)) p' s := fun p' => ⟨rfl, hpos p'⟩
            rw [wpCode_iff_wp, hΓ]
            show wp (model prog w) Γ ((compStart (.ListComp elt (⟨target, iter, ifs, asy⟩ :: gs) sc pos) 0 (.ref a) acc env).onRaise (fun x => do noteFrame x env; standAt theWindowsPlace)) _ _ p s
            rw [Sem.wp_onRaise]
            unfold compStart
            show wp (model prog w) Γ (if (asy != 0) = true then again _ >>= fun x => pure x else ask >>= fun w' => _) _ _ p s
            split
            · exact fin p
            · rw [Sem.wp_bind']
              show wp (model prog w) Γ (if w.params.followText "comprehension-iter-twice" = true then again _ >>= fun x => pure x else _) _ _ p s
              split
              · exact fin p
              · show wp (model prog w) Γ (pyIter (.ref a) >>= fun it' => again (.compLoop (.ListComp elt (⟨target, iter, ifs, asy⟩ :: gs) sc pos) 0 it' acc env)) _ _ iter.pos s
                rw [Sem.wp_bind']
                refine Sem.wp_mono _ _ _ (fun v p' s' q => ?_) (fun e p' s' q => ?_) _ _ (iter_itself (w := w) ho hio (aboutI Γ) (fun _ _ => False) Γ iter.pos (in_any Γ))
                · obtain ⟨rfl, rfl⟩ := q
                  exact fin p'
                · exact q.elim
          | _ => cases hi
    | _ => cases hi
  | _ => cases hi
end Mine
namespace Mine
open PySem PySem.W PySem.W.X
open Sem (wp finPost)
/-! contracts of the built-ins: ints -/
theorem code_gives {w : World} {A : Around} {s : Shared} {T : String} {name : Str} {id : String} {B : Builtin} {self : Value} {rest : List Value} {mk : Made} {R : Result → Shared → Prop}
    (slot : Slot T name id) (hT : s.TypeIs self T) (entry : entryFor table id = some B) (args : argsOk id ⟨self :: rest, []⟩) (g : Gives (B ⟨self :: rest, []⟩) mk) (h : mk.post (fun v s' => R (.ok (.ret v)) s') s) :
    codeAny (model prog w) A (.call (.builtin id) ⟨self :: rest, []⟩) R s :=
  codeAny_call_builtin slot.plain entry (slot.check _ _ _ _ _ _ _ _ hT args (g prog w A R s h))
section
variable {V : SV} {w : World} {s₀ : Shared} {A₀ : List Addr} {R : Result → Shared → Prop} {m i : Nat} {next : (Nat → Nat) → (Nat → Nat) → RLog}
theorem okr_int {T : String} {name : Str} {id : String} {B : Builtin} {self : Value} {rest : List Value} {n : Nat} {v v' : Int} (slot : Slot T name id) (hT : ∀ s : Shared, s.TypeIs self T) (entry : entryFor table id = some B)
    (args : argsOk id ⟨self :: rest, []⟩) (g : Gives (B ⟨self :: rest, []⟩) (.int v')) (hn : PySem.code id = n) (hv : v' = v) (hm : Nat.ble m 1000 = true) (ok : ∀ al tk, OkR V (model prog w) s₀ A₀ R (next al tk)) :
    OkR V (model prog w) s₀ A₀ R (.call (.bi n (self :: rest)) none m i [] (orcV fun t => .int v t) next) := by
  subst hv
  refine okr_V (fun c Γ p h1 h2 s _ => ⟨s.toks, { s with toks := s.toks + 1 }, ?_, Step.toks s 1⟩) hm ok
  have hc := rc_bi h1 id hn
  subst hc
  exact returns_at h2 fun A => code_gives slot (hT s) entry args g ⟨rfl, rfl⟩
theorem okr_val {T : String} {name : Str} {id : String} {B : Builtin} {self : Value} {rest : List Value} {n : Nat} {v v' : Value} (slot : Slot T name id) (hT : ∀ s : Shared, s.TypeIs self T) (entry : entryFor table id = some B)
    (args : argsOk id ⟨self :: rest, []⟩) (g : Gives (B ⟨self :: rest, []⟩) (.val v')) (hn : PySem.code id = n) (hv : v' = v) (hm : Nat.ble m 1000 = true) (ok : ∀ al tk, OkR V (model prog w) s₀ A₀ R (next al tk)) :
    OkR V (model prog w) s₀ A₀ R (.call (.bi n (self :: rest)) none m i [] (orcV fun _ => v) next) := by
  subst hv
  refine okr_V (fun c Γ p h1 h2 s _ => ⟨0, s, ?_, Step.refl s⟩) hm ok
  have hc := rc_bi h1 id hn
  subst hc
  exact returns_at h2 fun A => code_gives slot (hT s) entry args g ⟨rfl, rfl⟩
theorem okr_str {T : String} {name : Str} {id : String} {B : Builtin} {self : Value} {rest : List Value} {n : Nat} {v v' : Str} (slot : Slot T name id) (hT : ∀ s : Shared, s.TypeIs self T) (entry : entryFor table id = some B)
    (args : argsOk id ⟨self :: rest, []⟩) (g : Gives (B ⟨self :: rest, []⟩) (.str v')) (hn : PySem.code id = n) (hv : v' = v) (hl : v.length ≤ sizeLine) (hm : Nat.ble m 1000 = true) (ok : ∀ al tk, OkR V (model prog w) s₀ A₀ R (next al tk)) :
    OkR V (model prog w) s₀ A₀ R (.call (.bi n (self :: rest)) none m i [] (orcV fun t => .str v t) next) := by
  subst hv
  refine okr_V (fun c Γ p h1 h2 s _ => ⟨s.toks, { s with toks := s.toks + 1 }, ?_, Step.toks s 1⟩) hm ok
  have hc := rc_bi h1 id hn
  subst hc
  exact returns_at h2 fun A => code_gives slot (hT s) entry args g ⟨hl, rfl, rfl⟩
theorem tI (x : Int) (t : Nat) (s : Shared) : s.TypeIs (.int x t) "int" := typeIs_int s x t
theorem okr_eq {x y : Int} {t u : Nat} (b : Bool) (hb : (x == y) = b) (hm : Nat.ble m 1000 = true) (ok : ∀ al tk, OkR V (model prog w) s₀ A₀ R (next al tk)) :
    OkR V (model prog w) s₀ A₀ R (.call (.bi 455126313168696235093866 [.int x t, .int y u]) none m i [] (orcV fun _ => .bool b) next) :=
  okr_val F.slot_int_eq (tI x t) F.entry_int_eq (F.args_int_eq_2 _ _) (AutoIntG7.int___eq___int_int_0 x t y u) (by decide +kernel) (congrArg Value.bool hb) hm ok
theorem okr_ne {x y : Int} {t u : Nat} (b : Bool) (hb : (x != y) = b) (hm : Nat.ble m 1000 = true) (ok : ∀ al tk, OkR V (model prog w) s₀ A₀ R (next al tk)) :
    OkR V (model prog w) s₀ A₀ R (.call (.bi 455125451010842570354538 [.int x t, .int y u]) none m i [] (orcV fun _ => .bool b) next) :=
  okr_val F.slot_int_ne (tI x t) F.entry_int_ne (F.args_int_ne_2 _ _) (AutoIntG6.int___ne___int_int_0 x t y u) (by decide +kernel) (congrArg Value.bool hb) hm ok
theorem okr_lt {x y : Int} {t u : Nat} (b : Bool) (hb : decide (x < y) = b) (hm : Nat.ble m 1000 = true) (ok : ∀ al tk, OkR V (model prog w) s₀ A₀ R (next al tk)) :
    OkR V (model prog w) s₀ A₀ R (.call (.bi 455126531311803185852266 [.int x t, .int y u]) none m i [] (orcV fun _ => .bool b) next) :=
  okr_val F.slot_int_lt (tI x t) F.entry_int_lt (F.args_int_lt_2 _ _) (AutoIntG1.int___lt___int_int_0 x t y u) (by decide +kernel) (congrArg Value.bool hb) hm ok
theorem okr_gt {x y : Int} {t u : Nat} (b : Bool) (hb : decide (x > y) = b) (hm : Nat.ble m 1000 = true) (ok : ∀ al tk, OkR V (model prog w) s₀ A₀ R (next al tk)) :
    OkR V (model prog w) s₀ A₀ R (.call (.bi 455126529904428302298986 [.int x t, .int y u]) none m i [] (orcV fun _ => .bool b) next) :=
  okr_val F.slot_int_gt (tI x t) F.entry_int_gt (F.args_int_gt_2 _ _) (AutoIntG4.int___gt___int_int_0 x t y u) (by decide +kernel) (congrArg Value.bool hb) hm ok
theorem okr_rsh1 {x : Int} {t u : Nat} (v : Int) (hx : 0 ≤ x) (hv : x / 2 = v) (hm : Nat.ble m 1000 = true) (ok : ∀ al tk, OkR V (model prog w) s₀ A₀ R (next al tk)) :
    OkR V (model prog w) s₀ A₀ R (.call (.bi 1954753560319954401256180983099242 [.int x t, .int 1 u]) none m i [] (orcV fun t => .int v t) next) := by
  by_cases h : (1 : Int) ≥ ((Builtin.Int.intBits x : Nat) : Int)
  · refine okr_int F.slot_int_rshift (tI x t) F.entry_int_rshift (F.args_int_rshift_2 _ _) (AutoIntG9.int___rshift___int_int_1 x t 1 u (by decide) h) (by decide +kernel) ?_ hm ok
    rw [if_neg (by omega), ← hv]
    have h2 : Builtin.Int.intBits x ≤ 1 := by omega
    unfold Builtin.Int.intBits at h2
    split at h2
    · rename_i h3; rw [beq_iff_eq.mp h3]; rfl
    · have h4 : x.natAbs.log2 = 0 := by omega
      have h5 : x.natAbs < 2 := by
        by_cases h6 : x.natAbs = 0
        · omega
        · have h7 : x.natAbs < 2 ^ 1 := (Nat.log2_lt h6).mp (by rw [h4]; decide)
          exact h7
      omega
  · refine okr_int F.slot_int_rshift (tI x t) F.entry_int_rshift (F.args_int_rshift_2 _ _) (AutoIntG0.int___rshift___int_int_2 x t 1 u (by decide) h) (by decide +kernel) ?_ hm ok
    rw [← hv]
    show Int.fdiv x (2 ^ 1) = x / 2
    rw [Int.fdiv_eq_ediv_of_nonneg _ (by decide)]; rfl
theorem okr_mul {x y : Int} {t u : Nat} (v : Int) (hx : Builtin.Int.intBits x ≤ 64) (hv : x * y = v) (hm : Nat.ble m 1000 = true) (ok : ∀ al tk, OkR V (model prog w) s₀ A₀ R (next al tk)) :
    OkR V (model prog w) s₀ A₀ R (.call (.bi 116512245094328231196454762 [.int x t, .int y u]) none m i [] (orcV fun t => .int v t) next) :=
  okr_int F.slot_int_mul (tI x t) F.entry_int_mul (F.args_int_mul_2 _ _) (AutoIntG1.int___mul___int_int_0 x t y u (.of_left hx)) (by decide +kernel) hv hm ok
theorem okr_add {x y : Int} {t u : Nat} (v : Int) (hv : x + y = v) (hm : Nat.ble m 1000 = true) (ok : ∀ al tk, OkR V (model prog w) s₀ A₀ R (next al tk)) :
    OkR V (model prog w) s₀ A₀ R (.call (.bi 116512096292018843154739050 [.int x t, .int y u]) none m i [] (orcV fun t => .int v t) next) :=
  okr_int F.slot_int_add (tI x t) F.entry_int_add (F.args_int_add_2 _ _) (AutoIntG4.int___add___int_int_0 x t y u) (by decide +kernel) hv hm ok
theorem okr_sub {x y : Int} {t u : Nat} (v : Int) (hv : x - y = v) (hm : Nat.ble m 1000 = true) (ok : ∀ al tk, OkR V (model prog w) s₀ A₀ R (next al tk)) :
    OkR V (model prog w) s₀ A₀ R (.call (.bi 116512060628576343961202538 [.int x t, .int y u]) none m i [] (orcV fun t => .int v t) next) :=
  okr_int F.slot_int_sub (tI x t) F.entry_int_sub (F.args_int_sub_2 _ _) (AutoIntG9.int___sub___int_int_0 x t y u) (by decide +kernel) hv hm ok
theorem okr_mod {x y : Int} {t u : Nat} (v : Int) (hy : (y == 0) = false) (hv : x.fmod y = v) (hm : Nat.ble m 1000 = true) (ok : ∀ al tk, OkR V (model prog w) s₀ A₀ R (next al tk)) :
    OkR V (model prog w) s₀ A₀ R (.call (.bi 116512097088030077292474218 [.int x t, .int y u]) none m i [] (orcV fun t => .int v t) next) :=
  okr_int F.slot_int_mod (tI x t) F.entry_int_mod (F.args_int_mod_2 _ _) (AutoIntG6.int___mod___int_int_1 x t y u (by rw [hy]; decide)) (by decide +kernel) hv hm ok
theorem okr_fdiv {x y : Int} {t u : Nat} (v : Int) (hy : (y == 0) = false) (hd : ∀ x, Builtin.divisionGoesByPylong x y = false) (hv : x.fdiv y = v) (hm : Nat.ble m 1000 = true) (ok : ∀ al tk, OkR V (model prog w) s₀ A₀ R (next al tk)) :
    OkR V (model prog w) s₀ A₀ R (.call (.bi 128106770130096871752080967664072486762 [.int x t, .int y u]) none m i [] (orcV fun t => .int v t) next) :=
  okr_int F.slot_int_floordiv (tI x t) F.entry_int_floordiv (F.args_int_floordiv_2 _ _) (AutoIntG4.int___floordiv___int_int_1 x t y u (by rw [hy]; decide) (by rw [hd x]; decide)) (by decide +kernel) hv hm ok
theorem okr_neg {x : Int} {t : Nat} (v : Int) (hv : -x = v) (hm : Nat.ble m 1000 = true) (ok : ∀ al tk, OkR V (model prog w) s₀ A₀ R (next al tk)) :
    OkR V (model prog w) s₀ A₀ R (.call (.bi 116512151707967833018560362 [.int x t]) none m i [] (orcV fun t => .int v t) next) :=
  okr_int F.slot_int_neg (tI x t) F.entry_int_neg (F.args_int_neg_1 _) (AutoIntG9.int___neg___int_0 x t) (by decide +kernel) hv hm ok
end
end Mine
namespace Mine
open PySem PySem.W PySem.W.X
open Sem (wp finPost)
/-! contracts of the built-ins: a dict from ints to ints -/
structure Ent where
  k : Int
  t : Nat
  v : Int
  u : Nat
noncomputable def Ent.e (x : Ent) : DictEntry := ⟨hashInt x.k, .int x.k x.t, .int x.v x.u⟩
noncomputable def ents (L : List Ent) : Array DictEntry := (L.map Ent.e).toArray
noncomputable def dO (L : List Ent) (ep : Nat) : Obj := { cls := .type "dict", data := .dict (ents L) ep }
theorem ents_keys (L : List Ent) : IntKeys (ents L) := by
  intro e he
  obtain ⟨x, _, rfl⟩ := List.mem_map.mp (show e ∈ L.map Ent.e from by simpa [ents] using he)
  exact ⟨x.k, x.t, rfl, rfl⟩
theorem ents_size (L : List Ent) : (ents L).size = L.length := by simp [ents]
theorem ents_find (L : List Ent) (k : Int) : ((ents L).findIdx? fun e => Value.isInt k e.key) = L.findIdx? fun x => x.k == k := by
  unfold ents
  rw [List.findIdx?_toArray, List.findIdx?_map]
  rfl
theorem find_none {L : List Ent} {k : Int} (h : ∀ x ∈ L, x.k ≠ k) : (L.findIdx? fun x => x.k == k) = none := by
  rw [List.findIdx?_eq_none_iff]
  intro x hx
  simpa using h x hx
theorem find_mid {L1 L2 : List Ent} {e : Ent} {k : Int} (h : ∀ x ∈ L1, x.k ≠ k) (he : e.k = k) : ((L1 ++ e :: L2).findIdx? fun x => x.k == k) = some L1.length := by
  rw [List.findIdx?_append, find_none h, List.findIdx?_cons]
  simp [he]
section
variable {w : World} {A : Around} {E : Value → Shared → Prop} {s : Shared}
theorem code_meets {T : String} {name : Str} {id : String} {B : Builtin} {self : Value} {rest : List Value} {R : Result → Shared → Prop} (slot : Slot T name id) (hT : s.TypeIs self T) (entry : entryFor table id = some B) (args : argsOk id ⟨self :: rest, []⟩)
    (g : wpAny (model prog w) A.in1 (B ⟨self :: rest, []⟩) (fun fin s' => match fin with | .done f => R (.ok f) s' | .again c' => c'.quiet = true ∧ codeAny (model prog w) A c' R s') (fun e s' => R (.error e) s') s) :
    codeAny (model prog w) A (.call (.builtin id) ⟨self :: rest, []⟩) R s :=
  codeAny_call_builtin slot.plain entry (slot.check _ _ _ _ _ _ _ _ hT args g)
theorem dO_type {d : Addr} {L : List Ent} {ep : Nat} (h : s.heap.get? d = some (dO L ep)) : s.TypeIs (.ref d) "dict" := ⟨_, h, rfl⟩
theorem code_dict_contains {d : Addr} {L : List Ent} {ep : Nat} {k : Int} {t : Nat} (h : s.heap.get? d = some (dO L ep)) :
    codeAny (model prog w) A (.call (.builtin "dict.__contains__") ⟨[.ref d, .int k t], []⟩) (fun r s' => r = .ok (.ret (.bool (L.findIdx? fun x => x.k == k).isSome)) ∧ s' = { s with toks := s.toks + 1 }) s := by
  refine code_meets F.slot_dict_contains (dO_type h) F.entry_dict_contains (F.args_dict_contains_2 _ _) ?_
  show wpAny _ _ (dictGet d (.int k t) >>= _) _ _ s
  refine wpAny_bind ?_
  unfold dictGet
  refine wpAny_holding (wpAny_bind (wpAny_pyHash_int (wpAny_bind (wpAny_dictFind_int (s := { s with toks := s.toks + 1 }) h rfl (ents_keys L) ?_))))
  rw [ents_find]
  cases hf : L.findIdx? (fun x => x.k == k) with
  | some j =>
    refine wpAny_bind (wpAny_dictEntries (s := { s with toks := s.toks + 1 }) h rfl (wpAny_pure ?_))
    obtain ⟨hj, _⟩ := List.findIdx?_eq_some_iff_getElem.mp hf
    have e : ((ents L)[j]?).map (·.val) = some (.int L[j].v L[j].u) := by
      simp [ents, hj, Ent.e]
    rw [e]
    exact wpAny_pure ⟨rfl, rfl⟩
  | none =>
    refine wpAny_pure ?_
    show wpAny _ _ (Builtin.Dict.pendingKey? d (.int k t) >>= _) _ _ _
    exact wpAny_bind (wpAny_pendingKey_int (wpAny_pure ⟨rfl, rfl⟩))
theorem ents_erase (L1 L2 : List Ent) (e : Ent) : (ents (L1 ++ e :: L2)).eraseIdxIfInBounds L1.length = ents (L1 ++ L2) := by
  apply Array.ext'
  simp [ents, Array.eraseIdxIfInBounds, List.eraseIdx_append_of_length_le]
theorem code_dict_pop {d : Addr} {L1 L2 : List Ent} {e : Ent} {ep : Nat} {k : Int} {t : Nat} (h : s.heap.get? d = some (dO (L1 ++ e :: L2) ep)) (hk : e.k = k) (h1 : ∀ x ∈ L1, x.k ≠ k) (hz : (L1 ++ e :: L2).length ≤ 1000) :
    codeAny (model prog w) A (.call (.builtin "dict.pop") ⟨[.ref d, .int k t], []⟩) (fun r s' => r = .ok (.ret (.int e.v e.u)) ∧ s' = { s with heap := s.heap.update d (Obj.mapDictKeys fun es => es.eraseIdxIfInBounds L1.length), toks := s.toks + 1 }) s := by
  refine code_meets F.slot_dict_pop (dO_type h) F.entry_dict_pop (F.args_dict_pop_2 _ _) ?_
  unfold Builtin.«dict.pop»
  refine wpAny_bind ?_
  unfold Builtin.Dict.keyAndDefault
  refine wpAny_bind (wpAny_notOrdered_dict (dO_type h) ?_)
  show wpAny _ _ (pure (d, Value.int k t, none)) _ _ s
  refine wpAny_pure ?_
  simp only [show (keyPart (Value.int k t)).isSome = true from rfl, if_true]
  refine wpAny_bind (wpAny_pure ?_)
  simp only [Bool.false_eq_true, if_false]
  refine wpAny_bind ?_
  unfold Builtin.Dict.takeOut
  refine wpAny_holding (wpAny_bind (wpAny_pyHash_int (wpAny_bind (wpAny_dictFind_int (s := { s with toks := s.toks + 1 }) h rfl (ents_keys _) ?_))))
  rw [ents_find, find_mid h1 hk]
  refine wpAny_bind (wpAny_dictEntries (s := { s with toks := s.toks + 1 }) h rfl ?_)
  have e' : (ents (L1 ++ e :: L2))[L1.length]? = some e.e := by simp [ents]
  rw [e']
  have hz' : (ents (L1 ++ e :: L2)).size ≤ sizeLine := by rw [ents_size, sizeLine_eq]; omega
  refine wpAny_bind (wpAny_updateDictKeysTo (s := { s with toks := s.toks + 1 }) h rfl (wpAny_pure ?_) ?_)
  · simp only [Option.isNone_some, Bool.false_eq_true, if_false]
    exact wpAny_bind (wpAny_letGo (wpAny_pure ⟨rfl, rfl⟩))
  · rw [ents_erase, ents_size, sizeLine_eq]
    simp only [List.length_append, List.length_cons] at hz ⊢
    omega
theorem code_dict_set {d : Addr} {L : List Ent} {ep : Nat} {k v : Int} {t u : Nat} (h : s.heap.get? d = some (dO L ep)) (h1 : ∀ x ∈ L, x.k ≠ k) (hz : L.length ≤ 1000) :
    codeAny (model prog w) A (.call (.builtin "dict.__setitem__") ⟨[.ref d, .int k t, .int v u], []⟩) (fun r s' => r = .ok (.ret .none) ∧ s' = { s with heap := s.heap.update d (Obj.mapDictKeys fun es => es.push ⟨hashInt k, .int k t, .int v u⟩), toks := s.toks + 1 }) s := by
  refine code_meets F.slot_dict_setitem (dO_type h) F.entry_dict_setitem (F.args_dict_setitem_3 _ _ _) ?_
  show wpAny _ _ (Builtin.Dict.notOrdered "__setitem__" ⟨[.ref d, .int k t, .int v u], []⟩ >>= _) _ _ s
  refine wpAny_bind (wpAny_notOrdered_dict (dO_type h) ?_)
  show wpAny _ _ (dictSet d (.int k t) (.int v u) >>= _) _ _ s
  refine wpAny_bind ?_
  unfold dictSet
  refine wpAny_holding (wpAny_bind (wpAny_pyHash_int ?_))
  unfold dictSetHashed
  refine wpAny_holding (wpAny_bind (wpAny_dictFind_int (s := { s with toks := s.toks + 1 }) h rfl (ents_keys L) ?_))
  rw [ents_find, find_none h1]
  have hz' : (ents L).size ≤ sizeLine := by rw [ents_size, sizeLine_eq]; omega
  exact wpAny_bind (wpAny_rule (wpAny_updateDictKeys (hz := hz') (s := { s with toks := s.toks + 1 }) h rfl (wpAny_pure ⟨rfl, rfl⟩)))
theorem ents_push (L : List Ent) (x : Ent) : (ents L).push ⟨hashInt x.k, .int x.k x.t, .int x.v x.u⟩ = ents (L ++ [x]) := by
  apply Array.ext'
  simp [ents, Ent.e]
end
section
variable {V : SV} {w : World} {s₀ : Shared} {A₀ : List Addr} {R : Result → Shared → Prop} {m i : Nat} {next : (Nat → Nat) → (Nat → Nat) → RLog}
theorem step_update {s : Shared} {d : Addr} {f : Obj → Obj} {o : Obj} (n : Nat) (_ : s.heap.get? d = some o) : Step s { s with heap := s.heap.update d f, toks := s.toks + n } [d] :=
  ⟨fun a x e hn => (Heap.get?_update_ne _ _ _ _ (fun q => hn (by rw [q]; exact .head _))).trans e, by show s.heap.objs.size ≤ (s.heap.update d f).objs.size; rw [Heap.size_update]; exact Nat.le_refl _, Nat.le_add_right _ _, rfl, rfl, rfl⟩
/-- `k in d` -/
noncomputable def oIn (j : Nat) (b : Bool) : Orc := orcU [j] (fun _ => .bool b) (fun _ => [])
theorem okr_in {d : Addr} {L : List Ent} {ep : Nat} {k : Int} {t j : Nat} (b : Bool) (hb : (L.findIdx? fun x => x.k == k).isSome = b) (hm : Nat.ble m 1000 = true) (ok : ∀ al tk, OkR V (model prog w) s₀ A₀ R (next al tk)) :
    OkR V (model prog w) s₀ A₀ R (.call (.bi 32795317678217157189674408721764466322021 [.ref d, .int k t]) none m i [some (d, dO L ep)] (oIn j b) next) := by
  refine okr_U (fun c Γ p h1 h2 s _ hc => ⟨0, { s with toks := s.toks + 1 }, ?_, rfl, trivial, Step.toks s 1⟩) hm ok
  have hc' := rc_bi h1 "dict.__contains__" (by decide +kernel)
  subst hc' hb
  exact returns_at h2 fun A => code_dict_contains hc.1
/-- `d.pop(k)`, k there -/
noncomputable def oPop (j : Nat) (L1 L2 : List Ent) (e : Ent) (ep : Nat) : Orc := orcU [j] (fun _ => .int e.v e.u) (fun _ => [some (dO (L1 ++ L2) (ep + 1))])
theorem okr_pop {d : Addr} {L1 L2 : List Ent} {e : Ent} {ep : Nat} {k : Int} {t j : Nat} (hk : e.k = k) (hL : ∀ x ∈ L1, x.k ≠ k) (hz : (L1 ++ e :: L2).length ≤ 1000) (hm : Nat.ble m 1000 = true) (hj : Nat.blt j 1000 = true) (ok : ∀ al tk, OkR V (model prog w) s₀ A₀ R (next al tk)) :
    OkR V (model prog w) s₀ A₀ R (.call (.bi 8174157772324366949 [.ref d, .int k t]) none m i [some (d, dO (L1 ++ e :: L2) ep)] (oPop j L1 L2 e ep) next) := by
  refine okr_U (fun c Γ p h1 h2 s _ hc => ⟨0, { s with heap := s.heap.update d (Obj.mapDictKeys fun es => es.eraseIdxIfInBounds L1.length), toks := s.toks + 1 }, ?_, (by simp [selOk, hj]), ⟨?_, trivial⟩, step_update 1 hc.1⟩) hm ok
  · have hc' := rc_bi h1 "dict.pop" (by decide +kernel)
    subst hc'
    exact returns_at h2 fun A => code_dict_pop hc.1 hk hL hz
  · show (s.heap.update d _).get? d = some (dO (L1 ++ L2) (ep + 1))
    rw [show dO (L1 ++ L2) (ep + 1) = Obj.mapDictKeys (fun es => es.eraseIdxIfInBounds L1.length) (dO (L1 ++ e :: L2) ep) by unfold dO; rw [← ents_erase L1 L2 e]; rfl]
    exact Heap.get?_update_self _ hc.1 rfl
/-- `d[k] = v`, k not there -/
noncomputable def setU (L : List Ent) (ep : Nat) (c : Code) : List (Option Obj) := match c with
  | .call _ a => match a with
    | ⟨as, _⟩ => match as with
      | [_, .int k t, .int v u] => [some (dO (L ++ [⟨k, t, v, u⟩]) (ep + 1))]
      | _ => []
  | _ => []
noncomputable def oSet (j : Nat) (L : List Ent) (ep : Nat) : Orc := orcU [j] (fun _ => .none) (setU L ep)
theorem okr_set {d : Addr} {L : List Ent} {ep : Nat} {k v : Int} {t u j : Nat} (hL : ∀ x ∈ L, x.k ≠ k) (hz : L.length ≤ 1000) (hm : Nat.ble m 1000 = true) (hj : Nat.blt j 1000 = true) (ok : ∀ al tk, OkR V (model prog w) s₀ A₀ R (next al tk)) :
    OkR V (model prog w) s₀ A₀ R (.call (.bi 128106587276438692082622197436938218085 [.ref d, .int k t, .int v u]) none m i [some (d, dO L ep)] (oSet j L ep) next) := by
  refine okr_U (fun c Γ p h1 h2 s _ hc => ?_) hm ok
  have hc' := rc_bi h1 "dict.__setitem__" (by decide +kernel)
  subst hc'
  refine ⟨0, { s with heap := s.heap.update d (Obj.mapDictKeys fun es => es.push ⟨hashInt k, .int k t, .int v u⟩), toks := s.toks + 1 }, returns_at h2 fun A => code_dict_set hc.1 hL hz, (by simp [selOk, setU, hj]), ⟨?_, trivial⟩, step_update 1 hc.1⟩
  show (s.heap.update d _).get? d = some (dO (L ++ [⟨k, t, v, u⟩]) (ep + 1))
  have := ents_push L ⟨k, t, v, u⟩
  rw [show dO (L ++ [⟨k, t, v, u⟩]) (ep + 1) = Obj.mapDictKeys (fun es => es.push ⟨hashInt k, .int k t, .int v u⟩) (dO L ep) by unfold dO; rw [← this]; rfl]
  exact Heap.get?_update_self _ hc.1 rfl
end
end Mine
namespace Mine
open PySem PySem.W PySem.W.X
open Sem (wp finPost)
/-! contracts of the built-ins: tuples of three ints -/
structure Tup where
  p : Int
  o : Int
  c : Int
  tp : Nat
  to : Nat
  tc : Nat
noncomputable def tupO (x : Tup) : Obj := { cls := .type "tuple", data := .seq #[.int x.p x.tp, .int x.o x.to, .int x.c x.tc] 0 }
noncomputable def tupLt (x y : Tup) : Bool := if x.p = y.p then if x.o = y.o then decide (x.c < y.c) else decide (x.o < y.o) else decide (x.p < y.p)
section
variable {w : World} {A : Around} {E : Value → Shared → Prop} {s : Shared}
theorem wp_lt_int {x y : Int} {t u : Nat} {Q : Value → Shared → Prop} (h : Q (.bool (decide (x < y))) s) : wpAny (model prog w) A (richCompare .Lt (.int x t) (.int y u)) Q E s :=
  richCompare_gives (tI x t s) (tI y u s) F.slot_int_lt F.entry_int_lt (F.args_int_lt_2 _ _) (AutoIntG1.int___lt___int_int_0 x t y u) (by first | rfl | decide | exact (fun h => nomatch h) | simp [Made.takes]) h
theorem code_tuple_lt {a b : Addr} {x y : Tup} (ha : s.heap.get? a = some (tupO x)) (hb : s.heap.get? b = some (tupO y)) :
    codeAny (model prog w) A (.call (.builtin "tuple.__lt__") ⟨[.ref a, .ref b], []⟩) (fun r s' => r = .ok (.ret (.bool (tupLt x y))) ∧ s' = s) s := by
  have ta : s.TypeIs (.ref a) "tuple" := ⟨_, ha, rfl⟩
  have tb : s.TypeIs (.ref b) "tuple" := ⟨_, hb, rfl⟩
  refine code_meets F.slot_tuple_lt ta F.entry_tuple_lt (F.args_tuple_lt_2 _ _) ?_
  show wpAny _ _ (isInstance (.ref b) (.type "tuple") >>= _) _ _ s
  refine wpAny_bind (wpAny_isInstance tb isSubtype_tuple_tuple ?_)
  simp only [Bool.not_true, Bool.false_eq_true, if_false]
  refine wpAny_bind (wpAny_tupleItemsOf ha rfl ?_)
  refine wpAny_bind (wpAny_tupleItemsOf hb rfl ?_)
  refine wpAny_bind ?_
  show wpAny _ _ (forIn [(Value.int x.p x.tp, Value.int y.p y.tp), (.int x.o x.to, .int y.o y.to), (.int x.c x.tc, .int y.c y.tc)] _ _) _ _ s
  rw [List.forIn_cons]
  refine wpAny_bind (wpAny_bind (wpAny_eqBool_int ?_))
  unfold tupLt
  by_cases h1 : x.p = y.p
  · rw [if_pos h1, show (x.p == y.p) = true from beq_iff_eq.mpr h1]
    simp only [Bool.not_true, Bool.false_eq_true, if_false]
    refine wpAny_pure ?_
    simp only
    rw [List.forIn_cons]
    refine wpAny_bind (wpAny_bind (wpAny_eqBool_int ?_))
    by_cases h2 : x.o = y.o
    · rw [if_pos h2, show (x.o == y.o) = true from beq_iff_eq.mpr h2]
      simp only [Bool.not_true, Bool.false_eq_true, if_false]
      refine wpAny_pure ?_
      simp only
      rw [List.forIn_cons]
      refine wpAny_bind (wpAny_bind (wpAny_eqBool_int ?_))
      by_cases h3 : x.c = y.c
      · rw [show (x.c == y.c) = true from beq_iff_eq.mpr h3]
        simp only [Bool.not_true, Bool.false_eq_true, if_false]
        refine wpAny_pure ?_
        simp only
        rw [List.forIn_nil]
        refine wpAny_pure ?_
        refine wpAny_pure ?_
        refine ⟨?_, rfl⟩
        rw [decide_eq_false (by omega)]; rfl
      · rw [show (x.c == y.c) = false from by simpa using h3]
        simp only [Bool.not_false, if_true]
        exact wpAny_bind (wpAny_rule (wpAny_bind (wp_lt_int (wpAny_bind (wpAny_pure (wpAny_pure (wpAny_pure (wpAny_pure ⟨rfl, rfl⟩))))))))
    · rw [if_neg h2, show (x.o == y.o) = false from by simpa using h2]
      simp only [Bool.not_false, if_true]
      exact wpAny_bind (wpAny_rule (wpAny_bind (wp_lt_int (wpAny_bind (wpAny_pure (wpAny_pure (wpAny_pure (wpAny_pure ⟨rfl, rfl⟩))))))))
  · rw [if_neg h1, show (x.p == y.p) = false from by simpa using h1]
    simp only [Bool.not_false, if_true]
    exact wpAny_bind (wpAny_rule (wpAny_bind (wp_lt_int (wpAny_bind (wpAny_pure (wpAny_pure (wpAny_pure (wpAny_pure ⟨rfl, rfl⟩))))))))
end
section
variable {V : SV} {w : World} {s₀ : Shared} {A₀ : List Addr} {R : Result → Shared → Prop} {m i : Nat} {next : (Nat → Nat) → (Nat → Nat) → RLog}
theorem okr_tlt {a b : Addr} {x y : Tup} (q : Bool) (hx : s₀.heap.get? a = some (tupO x) ∧ a ∉ A₀) (hy : s₀.heap.get? b = some (tupO y) ∧ b ∉ A₀) (hq : tupLt x y = q) (hm : Nat.ble m 1000 = true) (ok : ∀ al tk, OkR V (model prog w) s₀ A₀ R (next al tk)) :
    OkR V (model prog w) s₀ A₀ R (.call (.bi 29827172356050333523556529781 [.ref a, .ref b]) none m i [] (orcV fun _ => .bool q) next) := by
  refine okr_V (fun c Γ p h1 h2 s hn => ⟨0, s, ?_, Step.refl s⟩) hm ok
  have hc := rc_bi h1 "tuple.__lt__" (by decide +kernel)
  subst hc hq
  exact returns_at h2 fun A => code_tuple_lt (hn.keep a _ hx.1 hx.2) (hn.keep b _ hy.1 hy.2)
end
end Mine
namespace Mine
open PySem PySem.W PySem.W.X
/-! the objects that the top leaves, as far as the law's call reads them; the defs are the row's own -/
noncomputable def st (k : Nat) : Stmt := (prog.main.body[k]?).getD default
noncomputable def ms (k : Nat) : Stmt := match st 9 with
  | .ClassDef _ _ _ b _ _ _ _ _ _ _ => (b[k]?).getD default
  | _ => default
noncomputable def fnO (s : Stmt) (q md : String) (mt cd : Nat) : Obj := match s with
  | .FunctionDef name args body _ _ _ scope _ _ _ => { cls := .type "function", data := .func { name := name, qualname := Str.ofString q, params := args, body := .stmts body, scope := scope, globals := 3, closure := [], defaults := .none, kwdefaults := .none, doc := .none, pyModule := .str (Str.ofString md) mt, annotations := none, code := .ref cd, closureTuple := .none, builtins := 0 } }
  | _ => default
noncomputable def de (P : Params) (x : String) (t : Nat) (v : Value) : DictEntry := ⟨PyData.keyHash P (Str.ofString x), .str (Str.ofString x) t, v⟩
noncomputable def o0 (P : Params) : Obj := PySem.W.boot_o_0 P
noncomputable def o2 (_ : Params) : Obj := { cls := .none, data := .dict #[] 0 }
noncomputable def o3 (P : Params) : Obj := { cls := .type "dict", data := .dict #[de P "__name__" 165 (.str "law_pg0116_01" 320), de P "__doc__" 166 (.none), de P "__package__" 167 (.none), de P "__loader__" 168 (.builtin "__main__.__loader__#opaq\x75e"), de P "__spec__" 169 (.none), de P "__annotations__" 170 (.ref 6), de P "__builtins__" 171 (.ref 4), de P "__file__" 173 (.str "/claim/cut.py" 172), de P "__cached__" 174 (.none), de P "rgb_to_hsv" 206 (.ref 21), de P "heappush" 216 (.ref 28), de P "heappop" 225 (.ref 35), de P "heapify" 234 (.ref 42), de P "_siftdown" 246 (.ref 49), de P "_siftup" 259 (.ref 56), de P "_netrclex" 319 (.ref 94), de P "_law_lexer" 332 (.ref 105), de P "_law_spelled" 338 (.ref 110), de P "_law_put" 344 (.ref 115), de P "_law_as_read" 357 (.ref 122), de P "_law_off_a_heap" 363 (.ref 127), de P "_law_due" 373 (.ref 134), de P "law" 379 (.ref 139)] 23 }
noncomputable def o4 (_ : Params) : Obj := { cls := .type "module", dict := some 0, data := .plain }
noncomputable def o20 (_ : Params) : Obj := { cls := .type "code", data := .fields #[.str "rgb_to_hsv" 189, .str "rgb_to_hsv" 190, .str "/claim/cut.py" 191, .int 2 0, .int 3 0, .int 0 0, .int 0 0, .int 3 0, .ref 15, .bool true, .int 181 0, .ref 16, .none, .ref 17, .ref 18, .ref 19, .int 204 0, .int 2 0, .str "/claim/cut.py" 205] }
noncomputable def o21 (_ : Params) : Obj := fnO (st 1) "rgb_to_hsv" "cpy313.colorsys" 187 20
noncomputable def o27 (_ : Params) : Obj := { cls := .type "code", data := .fields #[.str "heappush" 209, .str "heappush" 210, .str "/claim/cut.py" 211, .int 22 0, .int 2 0, .int 0 0, .int 0 0, .int 3 0, .ref 22, .bool true, .int 181 0, .ref 23, .none, .ref 24, .ref 25, .ref 26, .int 214 0, .int 22 0, .str "/claim/cut.py" 215] }
noncomputable def o28 (_ : Params) : Obj := fnO (st 3) "heappush" "cpy313.heapq" 207 27
noncomputable def o34 (_ : Params) : Obj := { cls := .type "code", data := .fields #[.str "heappop" 217, .str "heappop" 218, .str "/claim/cut.py" 219, .int 25 0, .int 1 0, .int 0 0, .int 0 0, .int 3 0, .ref 29, .bool true, .int 181 0, .ref 30, .none, .ref 31, .ref 32, .ref 33, .int 223 0, .int 25 0, .str "/claim/cut.py" 224] }
noncomputable def o35 (_ : Params) : Obj := fnO (st 4) "heappop" "cpy313.heapq" 207 34
noncomputable def o41 (_ : Params) : Obj := { cls := .type "code", data := .fields #[.str "heapify" 226, .str "heapify" 227, .str "/claim/cut.py" 228, .int 33 0, .int 1 0, .int 0 0, .int 0 0, .int 3 0, .ref 36, .bool true, .int 181 0, .ref 37, .none, .ref 38, .ref 39, .ref 40, .int 232 0, .int 33 0, .str "/claim/cut.py" 233] }
noncomputable def o42 (_ : Params) : Obj := fnO (st 5) "heapify" "cpy313.heapq" 207 41
noncomputable def o48 (_ : Params) : Obj := { cls := .type "code", data := .fields #[.str "_siftdown" 235, .str "_siftdown" 236, .str "/claim/cut.py" 237, .int 37 0, .int 3 0, .int 0 0, .int 0 0, .int 3 0, .ref 43, .bool true, .int 181 0, .ref 44, .none, .ref 45, .ref 46, .ref 47, .int 244 0, .int 37 0, .str "/claim/cut.py" 245] }
noncomputable def o49 (_ : Params) : Obj := fnO (st 6) "_siftdown" "cpy313.heapq" 207 48
noncomputable def o55 (_ : Params) : Obj := { cls := .type "code", data := .fields #[.str "_siftup" 247, .str "_siftup" 248, .str "/claim/cut.py" 249, .int 48 0, .int 2 0, .int 0 0, .int 0 0, .int 3 0, .ref 50, .bool true, .int 181 0, .ref 51, .none, .ref 52, .ref 53, .ref 54, .int 257 0, .int 48 0, .str "/claim/cut.py" 258] }
noncomputable def o56 (_ : Params) : Obj := fnO (st 7) "_siftup" "cpy313.heapq" 207 55
noncomputable def o69 (_ : Params) : Obj := { cls := .type "code", data := .fields #[.str "__init__" 274, .str "_netrclex.__init__" 275, .str "/claim/cut.py" 276, .int 65 0, .int 2 0, .int 0 0, .int 0 0, .int 3 0, .ref 64, .bool true, .int 181 0, .ref 65, .none, .ref 66, .ref 67, .ref 68, .int 279 0, .int 65 0, .str "/claim/cut.py" 280] }
noncomputable def o70 (_ : Params) : Obj := fnO (ms 0) "_netrclex.__init__" "cpy313.netrc" 260 69
noncomputable def o76 (_ : Params) : Obj := { cls := .type "code", data := .fields #[.str "_read_char" 282, .str "_netrclex._read_char" 283, .str "/claim/cut.py" 284, .int 71 0, .int 1 0, .int 0 0, .int 0 0, .int 3 0, .ref 71, .bool true, .int 181 0, .ref 72, .none, .ref 73, .ref 74, .ref 75, .int 287 0, .int 71 0, .str "/claim/cut.py" 288] }
noncomputable def o77 (_ : Params) : Obj := fnO (ms 1) "_netrclex._read_char" "cpy313.netrc" 260 76
noncomputable def o83 (_ : Params) : Obj := { cls := .type "code", data := .fields #[.str "get_token" 290, .str "_netrclex.get_token" 291, .str "/claim/cut.py" 292, .int 77 0, .int 1 0, .int 0 0, .int 0 0, .int 3 0, .ref 78, .bool true, .int 181 0, .ref 79, .none, .ref 80, .ref 81, .ref 82, .int 297 0, .int 77 0, .str "/claim/cut.py" 298] }
noncomputable def o84 (_ : Params) : Obj := fnO (ms 2) "_netrclex.get_token" "cpy313.netrc" 260 83
noncomputable def o90 (_ : Params) : Obj := { cls := .type "code", data := .fields #[.str "push_token" 300, .str "_netrclex.push_token" 301, .str "/claim/cut.py" 302, .int 104 0, .int 2 0, .int 0 0, .int 0 0, .int 3 0, .ref 85, .bool true, .int 181 0, .ref 86, .none, .ref 87, .ref 88, .ref 89, .int 305 0, .int 104 0, .str "/claim/cut.py" 306] }
noncomputable def o91 (_ : Params) : Obj := fnO (ms 3) "_netrclex.push_token" "cpy313.netrc" 260 90
noncomputable def o93 (P : Params) : Obj := { cls := .type "dict", data := .dict #[de P "__module__" 269 (.str "cpy313.netrc" 260), de P "__firstlineno__" 273 (.int 63 272), de P "__init__" 281 (.ref 70), de P "_read_char" 289 (.ref 77), de P "get_token" 299 (.ref 84), de P "push_token" 307 (.ref 91), de P "__static_attributes__" 312 (.ref 92), de P "__dict__" 314 (.ref 95), de P "__weakref__" 316 (.ref 96), de P "__doc__" 317 (.none)] 4 }
noncomputable def o94 (_ : Params) : Obj := { cls := .type "type", slots := #[none, none, some (.str "_netrclex" 262), some (.str "_netrclex" 270), some (.builtin "object.__new__"), some (.bool true)], data := .cls { name := "_netrclex", bases := [.type "object"], mro := [.ref 94, .type "object"], ns := 93, qualname := "_netrclex", hasDict := true, slotNames := [], subclasses := [], abstract := false, collection := none, hasDel := false } }
noncomputable def o104 (_ : Params) : Obj := { cls := .type "code", data := .fields #[.str "_law_lexer" 322, .str "_law_lexer" 323, .str "/claim/cut.py" 324, .int 107 0, .int 1 0, .int 0 0, .int 0 0, .int 3 0, .ref 99, .bool true, .int 181 0, .ref 100, .none, .ref 101, .ref 102, .ref 103, .int 330 0, .int 107 0, .str "/claim/cut.py" 331] }
noncomputable def o105 (_ : Params) : Obj := fnO (st 11) "_law_lexer" "law_pg0116_01" 320 104
noncomputable def o109 (_ : Params) : Obj := { cls := .type "code", data := .fields #[.str "_law_spelled" 333, .str "_law_spelled" 334, .str "/claim/cut.py" 335, .int 117 0, .int 2 0, .int 0 0, .int 0 0, .int 3 0, .ref 106, .bool true, .int 181 0, .ref 107, .none, .none, .none, .ref 108, .int 336 0, .int 117 0, .str "/claim/cut.py" 337] }
noncomputable def o110 (_ : Params) : Obj := fnO (st 12) "_law_spelled" "law_pg0116_01" 320 109
noncomputable def o114 (_ : Params) : Obj := { cls := .type "code", data := .fields #[.str "_law_put" 339, .str "_law_put" 340, .str "/claim/cut.py" 341, .int 123 0, .int 3 0, .int 0 0, .int 0 0, .int 3 0, .ref 111, .bool true, .int 181 0, .ref 112, .none, .none, .none, .ref 113, .int 342 0, .int 123 0, .str "/claim/cut.py" 343] }
noncomputable def o115 (_ : Params) : Obj := fnO (st 13) "_law_put" "law_pg0116_01" 320 114
noncomputable def o121 (_ : Params) : Obj := { cls := .type "code", data := .fields #[.str "_law_as_read" 345, .str "_law_as_read" 346, .str "/claim/cut.py" 347, .int 144 0, .int 1 0, .int 0 0, .int 0 0, .int 3 0, .ref 116, .bool true, .int 181 0, .ref 117, .none, .ref 118, .ref 119, .ref 120, .int 355 0, .int 144 0, .str "/claim/cut.py" 356] }
noncomputable def o122 (_ : Params) : Obj := fnO (st 14) "_law_as_read" "law_pg0116_01" 320 121
noncomputable def o126 (_ : Params) : Obj := { cls := .type "code", data := .fields #[.str "_law_off_a_heap" 358, .str "_law_off_a_heap" 359, .str "/claim/cut.py" 360, .int 157 0, .int 1 0, .int 0 0, .int 0 0, .int 3 0, .ref 123, .bool true, .int 181 0, .ref 124, .none, .none, .none, .ref 125, .int 361 0, .int 157 0, .str "/claim/cut.py" 362] }
noncomputable def o127 (_ : Params) : Obj := fnO (st 15) "_law_off_a_heap" "law_pg0116_01" 320 126
noncomputable def o133 (_ : Params) : Obj := { cls := .type "code", data := .fields #[.str "_law_due" 364, .str "_law_due" 365, .str "/claim/cut.py" 366, .int 167 0, .int 2 0, .int 0 0, .int 0 0, .int 3 0, .ref 128, .bool true, .int 181 0, .ref 129, .none, .ref 130, .ref 131, .ref 132, .int 371 0, .int 167 0, .str "/claim/cut.py" 372] }
noncomputable def o134 (_ : Params) : Obj := fnO (st 16) "_law_due" "law_pg0116_01" 320 133
noncomputable def o138 (_ : Params) : Obj := { cls := .type "code", data := .fields #[.str "law" 374, .str "law" 375, .str "/claim/cut.py" 376, .int 181 0, .int 1 0, .int 0 0, .int 0 0, .int 3 0, .ref 135, .bool true, .int 181 0, .ref 136, .none, .none, .none, .ref 137, .int 377 0, .int 181 0, .str "/claim/cut.py" 378] }
noncomputable def o139 (_ : Params) : Obj := fnO (st 17) "law" "law_pg0116_01" 320 138
noncomputable def topKT (P : Params) : KT := .node (some (o0 P)) (.node (none) (.node (some (o3 P)) (.node (none) (.node (none) (.node (none) (.node (none) (.node (some (o127 P)) (.nil) (.nil)) (.nil)) (.nil)) (.nil)) (.node (none) (.nil) (.node (some (o55 P)) (.nil) (.nil)))) (.node (none) (.node (none) (.node (some (o35 P)) (.nil) (.nil)) (.node (none) (.node (some (o83 P)) (.nil) (.nil)) (.node (some (o115 P)) (.nil) (.nil)))) (.node (some (o27 P)) (.node (none) (.node (none) (.node (some (o139 P)) (.nil) (.nil)) (.nil)) (.nil)) (.node (none) (.node (some (o91 P)) (.nil) (.nil)) (.nil))))) (.node (none) (.node (none) (.node (none) (.nil) (.node (some (o49 P)) (.nil) (.nil))) (.node (none) (.node (some (o41 P)) (.nil) (.node (some (o105 P)) (.nil) (.nil))) (.node (none) (.nil) (.node (some (o121 P)) (.nil) (.nil))))) (.node (none) (.node (some (o21 P)) (.node (none) (.node (some (o69 P)) (.node (some (o133 P)) (.nil) (.nil)) (.nil)) (.nil)) (.nil)) (.node (none) (.node (none) (.node (some (o77 P)) (.nil) (.nil)) (.node (some (o109 P)) (.nil) (.nil))) (.node (none) (.node (some (o93 P)) (.nil) (.nil)) (.nil)))))) (.node (some (o2 P)) (.node (some (o4 P)) (.node (none) (.node (none) (.nil) (.node (some (o48 P)) (.nil) (.nil))) (.node (none) (.node (none) (.nil) (.node (some (o104 P)) (.nil) (.nil))) (.node (some (o56 P)) (.nil) (.nil)))) (.node (none) (.node (some (o20 P)) (.nil) (.node (none) (.node (some (o84 P)) (.nil) (.nil)) (.nil))) (.node (some (o28 P)) (.node (none) (.node (some (o76 P)) (.nil) (.nil)) (.nil)) (.nil)))) (.node (none) (.node (none) (.node (none) (.node (some (o34 P)) (.nil) (.nil)) (.node (none) (.nil) (.node (some (o114 P)) (.nil) (.nil)))) (.node (none) (.node (some (o42 P)) (.node (none) (.node (some (o138 P)) (.nil) (.nil)) (.nil)) (.nil)) (.node (none) (.node (some (o90 P)) (.nil) (.nil)) (.node (some (o122 P)) (.nil) (.nil))))) (.node (none) (.node (none) (.node (none) (.node (some (o70 P)) (.node (some (o134 P)) (.nil) (.nil)) (.nil)) (.nil)) (.nil)) (.node (none) (.node (none) (.nil) (.node (some (o110 P)) (.nil) (.nil))) (.node (none) (.node (some (o94 P)) (.nil) (.nil)) (.node (some (o126 P)) (.nil) (.nil)))))))
noncomputable def topFrag (P : Params) : List (Nat × Obj) := [(0, o0 P), (2, o2 P), (3, o3 P), (4, o4 P), (20, o20 P), (21, o21 P), (27, o27 P), (28, o28 P), (34, o34 P), (35, o35 P), (41, o41 P), (42, o42 P), (48, o48 P), (49, o49 P), (55, o55 P), (56, o56 P), (69, o69 P), (70, o70 P), (76, o76 P), (77, o77 P), (83, o83 P), (84, o84 P), (90, o90 P), (91, o91 P), (93, o93 P), (94, o94 P), (104, o104 P), (105, o105 P), (109, o109 P), (110, o110 P), (114, o114 P), (115, o115 P), (121, o121 P), (122, o122 P), (126, o126 P), (127, o127 P), (133, o133 P), (134, o134 P), (138, o138 P), (139, o139 P)]
end Mine
namespace Mine
open PySem PySem.W PySem.W.X
open Sem (wp finPost)
/-! how a run starts -/
noncomputable def putL : Nat → List Cell → VT → VT
  | _, [], T => T
  | n, c :: cs, T => putL (n + 1) cs (VT.put dep T n c)
noncomputable def mkT (cs rs : List Cell) : VT := putL 1000 rs (putL 0 cs .nil)
theorem putL_get : ∀ (cs : List Cell) (n : Nat) (T : VT) (j : Nat) (c : Cell), (putL n cs T).get j = some c → (n ≤ j ∧ cs[j - n]? = some c) ∨ ((j < n ∨ n + cs.length ≤ j ∨ T.get j = some c) ∧ T.get j = some c)
  | [], n, T, j, c, e => .inr ⟨.inr (.inr e), e⟩
  | x :: cs, n, T, j, c, e => by
    rcases putL_get cs (n + 1) _ j c e with ⟨h1, h2⟩ | ⟨_, h2⟩
    · refine .inl ⟨by omega, ?_⟩
      rw [show j - n = (j - (n + 1)) + 1 by omega]
      exact h2
    · by_cases hj : j = n
      · subst hj
        rcases put_some h2 with r | r
        · exact .inl ⟨Nat.le_refl _, by rw [r]; simp⟩
        · exact .inr ⟨.inr (.inr r), r⟩
      · rw [VT.get_put_ne _ _ _ _ _ hj] at h2
        exact .inr ⟨.inr (.inr h2), h2⟩
theorem putL_low : ∀ (cs : List Cell) (n : Nat) (T : VT) (j : Nat), j < n → (putL n cs T).get j = T.get j
  | [], _, _, _, _ => rfl
  | x :: cs, n, T, j, h => by
    show (putL (n + 1) cs (VT.put dep T n x)).get j = _
    rw [putL_low cs (n + 1) _ j (by omega), VT.get_put_ne _ _ _ _ _ (by omega)]
theorem mkT_low {cs rs : List Cell} {j : Nat} {c : Cell} (hj : j < 1000) (e : (mkT cs rs).get j = some c) : cs[j]? = some c := by
  unfold mkT at e
  rw [putL_low _ _ _ _ hj] at e
  rcases putL_get cs 0 .nil j c e with ⟨_, h⟩ | ⟨_, h⟩
  · simpa using h
  · rw [VT.get_nil] at h; cases h
theorem mkT_high {cs rs : List Cell} (hl : cs.length ≤ 1000) {j : Nat} {c : Cell} (hj : 1000 ≤ j) (e : (mkT cs rs).get j = some c) : c ∈ rs := by
  rcases putL_get rs 1000 _ j c e with ⟨_, h⟩ | ⟨_, h⟩
  · exact List.mem_of_getElem? h
  · rcases putL_get cs 0 .nil j c h with ⟨_, h⟩ | ⟨_, h⟩
    · have := (List.getElem?_eq_some_iff.mp h).1; omega
    · rw [VT.get_nil] at h; cases h
theorem getElem?_nodup {cs : List Cell} (h : (cs.map (·.1)).Nodup) {j j' : Nat} {a : Addr} {o o' : Obj} (e : cs[j]? = some (a, o)) (e' : cs[j']? = some (a, o')) : j = j' := by
  have h1 := List.getElem?_eq_some_iff.mp e
  have h2 := List.getElem?_eq_some_iff.mp e'
  obtain ⟨l1, q1⟩ := h1
  obtain ⟨l2, q2⟩ := h2
  have m1 : (cs.map (·.1))[j]'(by simpa using l1) = a := by simp [q1]
  have m2 : (cs.map (·.1))[j']'(by simpa using l2) = a := by simp [q2]
  have pw := List.pairwise_iff_getElem.mp h
  rcases Nat.lt_trichotomy j j' with q | q | q
  · exact absurd (m1.trans m2.symm) (pw j j' _ _ q)
  · exact q
  · exact absurd (m2.trans m1.symm) (pw j' j _ _ q)
theorem rep_start {V : SV} {s : Shared} {cs rs : List Cell} (htop : ∀ j o, V.top.get j = some o → s.heap.get? j = some o) (hcs : ∀ c ∈ cs, s.heap.get? c.1 = some c.2) (hn : (cs.map (·.1)).Nodup) (hoff : ∀ c ∈ cs, V.top.get c.1 = none)
    (hrs : ∀ c ∈ rs, s.heap.get? c.1 = some c.2 ∧ c.1 ∉ cs.map (·.1)) (hl : cs.length ≤ 1000) :
    Rep V s (cs.map (·.1)) (mkT cs rs) cs.length 0 (alOf cs.length [] s.heap.objs.size) (alOf 0 [] s.toks) s := by
  have low : ∀ {j a o}, j < 1000 → (mkT cs rs).get j = some (a, o) → (a, o) ∈ cs := fun hj e => List.mem_of_getElem? (mkT_low hj e)
  refine ⟨htop, fun j a o e => ?_, fun j j' a o o' hj hj' e e' => getElem?_nodup hn (mkT_low hj e) (mkT_low hj' e'), fun j a o hj e => hoff _ (low hj e), fun j a o hj e => .inl (List.mem_map.mpr ⟨_, low hj e, rfl⟩), fun j a o hj e => ?_, fun j hj hj' => ?_, fun k => ?_, fun k => ?_, fun _ _ e _ => e, Nat.le_refl _, Nat.le_refl _, rfl, rfl, rfl⟩
  · by_cases hj : j < 1000
    · exact hcs _ (low hj e)
    · exact (hrs _ (mkT_high hl (by omega) e)).1
  · have := hrs _ (mkT_high hl hj e)
    exact ⟨this.2, Heap.lt_size this.1⟩
  · cases h : (mkT cs rs).get j with
    | none => rfl
    | some c => have := (List.getElem?_eq_some_iff.mp (mkT_low hj' h)).1; omega
  · have := alOf_end cs.length [] s.heap.objs.size k
    simpa using this
  · have := alOf_end 0 [] s.toks k
    simpa using this
theorem Now.step {V : SV} {s₀ s : Shared} {A₀ : List Addr} (h : Now V s₀ A₀ s) : Step s₀ s A₀ := ⟨h.keep, h.grow, h.older, h.gens, h.drawn, h.os⟩

/-- the indices that a tree bears -/
noncomputable def keysOf : KT → Nat → Nat → List Nat
  | .nil, _, _ => []
  | .node v l r, s, b => (match v with | some _ => [b] | none => []) ++ (keysOf l (2 * s) (s + b) ++ keysOf r (2 * s) (2 * s + b))
theorem mem_keysOf : ∀ (t : KT) (s b i : Nat) (o : Obj), t.get i = some o → s * i + b ∈ keysOf t s b
  | .nil, _, _, _, _, e => by cases e
  | .node v l r, s, b, i, o, e => by
    rw [KT.get_node] at e
    unfold keysOf
    by_cases h0 : i = 0
    · subst h0
      rw [if_pos rfl] at e
      subst e
      exact List.mem_append_left _ (by simp)
    · rw [if_neg h0] at e
      by_cases p : i % 2 = 1
      · rw [if_pos p] at e
        have z := mem_keysOf l (2 * s) (s + b) (i / 2) o e
        rw [← KT.arith1 p] at z
        exact List.mem_append_right _ (List.mem_append_left _ z)
      · rw [if_neg p] at e
        have z := mem_keysOf r (2 * s) (2 * s + b) (i / 2 - 1) o e
        rw [← KT.arith2 h0 p] at z
        exact List.mem_append_right _ (List.mem_append_right _ z)
theorem top_keys (P : Params) : keysOf (topKT P) 1 0 = keysOf (topKT P) 1 0 := rfl
theorem top_low {P : Params} {a : Addr} {o : Obj} (e : (topKT P).get a = some o) : a < 140 := by
  have h := mem_keysOf (topKT P) 1 0 a o e
  rw [Nat.one_mul, Nat.add_zero] at h
  have all : (keysOf (topKT P) 1 0).all (fun k => Nat.blt k 140) = true := by kernel_rfl
  have := List.all_eq_true.mp all a h
  exact Nat.le_of_ble_eq_true this
theorem top_off {P : Params} {a : Addr} (h : 140 ≤ a) : (topKT P).get a = none := by
  cases e : (topKT P).get a with
  | none => rfl
  | some o => exact absurd (top_low e) (Nat.not_lt.mpr h)

/-- the model at the law's program, in any world; the rows of the world -/
theorem row_self (P : Params) : prm P (P.followText "comprehension-iter-twice") (P.followText "special-get-raises") = P := by
  obtain ⟨⟩ := P
  unfold prm
  congr 1
  funext s
  unfold rowFn
  cases h : Nat.beq (PySem.W.S.codeS s) 10139888712337904147300001983332972444938612 with
  | true =>
    have e := Nat.eq_of_beq_eq_true h
    rw [← PySem.W.S.code_S] at e
    have : s = "special-get-raises" := PySem.code_inj _ _ (e.trans (by decide +kernel))
    subst this; rfl
  | false =>
    cases h' : Nat.beq (PySem.W.S.codeS s) 2510650655181157320538776789020469319833841985448949215332 with
    | true =>
      have e := Nat.eq_of_beq_eq_true h'
      rw [← PySem.W.S.code_S] at e
      have : s = "comprehension-iter-twice" := PySem.code_inj _ _ (e.trans (by decide +kernel))
      subst this; rfl
    | false => rfl
/-! the sentinel's test by the texts alone is as good -/
noncomputable def tEq (a b : Str) (t u : Nat) : Sem Bool := PySem.W.Fast.tw9423741818375054981 .Eq (.str a t) (.str b u) >>= PySem.W.Fast.tw3387353159717490800
noncomputable def unAsk (q : Setting) (t : Sem Bool) : Sem Bool := match t with
  | .ask k => k q
  | t => t
noncomputable def unK (r : Result) (t : Sem Bool) : Sem Bool := match t with
  | .call _ _ _ _ k => k r
  | t => t
theorem tEq_ask (a b : Str) (t u : Nat) : tEq a b t u = .ask fun q => unAsk q (tEq a b t u) := by kernel_rfl
theorem tEq_call (P : Params) (b1 b2 : Bool) (a b : Str) (t u : Nat) : unAsk ⟨prog, prm P b1 b2⟩ (tEq a b t u) = .call (.call (.builtin "str.__eq__") ⟨[.str a t, .str b u], []⟩) none false [] fun r => unK r (unAsk ⟨prog, prm P b1 b2⟩ (tEq a b t u)) := by
  cases b2
  · kernel_rfl
  · kernel_rfl
theorem tEq_end (P : Params) (b1 b2 : Bool) (a b : Str) (t u : Nat) (z : Bool) : unK (.ok (.ret (.bool z))) (unAsk ⟨prog, prm P b1 b2⟩ (tEq a b t u)) = .pure z := by
  cases b2
  · kernel_rfl
  · kernel_rfl
theorem wp_eqStr {w : World} {Γ : Ctx} {Q : Bool → Pos → Shared → Prop} {E : Value → Pos → Shared → Prop} {p : Pos} {s : Shared} {a b : Str} {t u : Nat} (h : Q (decide (a = b)) p s) :
    wp (model prog w) Γ (PySem.W.Fast.tw13926502685295537346 (.str a t) (.str b u)) Q E p s := by
  rw [← PySem.W.Fast.te13926502685295537346]
  unfold eqBool
  rw [Sem.wp_holding]
  show wp _ _ (if (Value.str a t == Value.str b u) = true then _ else _) Q E p s
  by_cases hab : (Value.str a t == Value.str b u) = true
  · rw [if_pos hab]
    have e : a = b := by have := eq_of_beq hab; injection this
    subst e
    rw [decide_eq_true rfl] at h
    exact h
  · rw [if_neg hab]
    show wp _ _ (richCompare .Eq (.str a t) (.str b u) >>= truthOfDropped) Q E p s
    rw [PySem.W.Fast.te9423741818375054981, PySem.W.Fast.te3387353159717490800]
    show wp _ _ (tEq a b t u) Q E p s
    rw [tEq_ask, Sem.wp_ask]
    show wp _ _ (unAsk ⟨prog, w.params⟩ (tEq a b t u)) Q E p s
    rw [← row_self w.params, tEq_call, Sem.wp_call]
    refine ⟨.ok (.ret (.bool (a.cps.toList == b.cps.toList))), s, returns_at rfl fun A => code_gives F.slot_str_eq (typeIs_str s a t) F.entry_str_eq (F.args_str_eq_2 _ _) (gives_str_eq a b t u) ⟨rfl, rfl⟩, ?_⟩
    show wp _ _ (unK (.ok (.ret (.bool _))) _) Q E p s
    rw [tEq_end]
    have e : (a.cps.toList == b.cps.toList) = decide (a = b) := by
      by_cases hne : a = b
      · subst hne; simp
      · rw [decide_eq_false hne]
        refine beq_eq_false_iff_ne.mpr fun hl => hne ?_
        cases a; cases b
        simp only [Str.mk.injEq]
        exact Array.toList_inj.mp hl
    rw [e]
    exact h
theorem eqL_eq (x y : Str) : eqL x y = decide (x = y) := by
  unfold eqL
  obtain ⟨⟨x⟩⟩ := x
  obtain ⟨⟨y⟩⟩ := y
  cases x with
  | cons a x => rfl
  | nil => cases y with
    | nil => rfl
    | cons b y => simp
theorem wp_tst1 {w : World} {Γ : Ctx} {Q : Bool → Pos → Shared → Prop} {E : Value → Pos → Shared → Prop} {p : Pos} {s : Shared} (a b : Value) (h : wp (model prog w) Γ (tst1 a b) Q E p s) :
    wp (model prog w) Γ (PySem.W.Fast.tw13926502685295537346 a b) Q E p s := by
  unfold tst1 at h
  cases a with
  | str x t => cases b with
    | str y u =>
      have h' : Q (eqL x y) p s := h
      rw [eqL_eq] at h'
      exact wp_eqStr h'
    | _ => exact h
  | _ => exact h
theorem wp_bind_tw {X Y : Type} {M : Model} {Γ : Ctx} (t : Sem X) (f : X → Sem Y) (Q : Y → Pos → Shared → Prop) (E : Value → Pos → Shared → Prop) (p : Pos) (s : Shared) :
    wp M Γ (@bind Sem (@Monad.toBind Sem PySem.W.Fast.tw12456147031677567982) X Y t f) Q E p s = wp M Γ t (fun x p s => wp M Γ (f x) Q E p s) E p s := by
  rw [← PySem.W.Fast.te12456147031677567982]
  exact Sem.wp_bind' ..
theorem wp_bind_of {X Y : Type} {M : Model} {Γ : Ctx} {t : Sem X} {f g : X → Sem Y} {Q : Y → Pos → Shared → Prop} {E : Value → Pos → Shared → Prop} {p : Pos} {s : Shared} (H : ∀ x p s, wp M Γ (f x) Q E p s → wp M Γ (g x) Q E p s)
    (h : wp M Γ (@bind Sem (@Monad.toBind Sem PySem.W.Fast.tw12456147031677567982) X Y t f) Q E p s) : wp M Γ (@bind Sem (@Monad.toBind Sem PySem.W.Fast.tw12456147031677567982) X Y t g) Q E p s := by
  rw [wp_bind_tw] at h ⊢
  exact Sem.wp_mono _ _ _ (fun x p' s' q => H x p' s' q) (fun _ _ _ q => q) _ _ h
theorem wp_hold_tst {Y : Type} {w : World} {Γ : Ctx} {vs : List Value} {a b : Value} {f : Bool → Sem Y} {Q : Y → Pos → Shared → Prop} {E : Value → Pos → Shared → Prop} {p : Pos} {s : Shared}
    (h : wp (model prog w) Γ (@bind Sem (@Monad.toBind Sem PySem.W.Fast.tw12456147031677567982) Bool Y (PySem.W.Fast.tw17359229931016689406 vs (tst1 a b)) f) Q E p s) :
    wp (model prog w) Γ (@bind Sem (@Monad.toBind Sem PySem.W.Fast.tw12456147031677567982) Bool Y (PySem.W.Fast.tw17359229931016689406 vs (PySem.W.Fast.tw13926502685295537346 a b)) f) Q E p s := by
  rw [wp_bind_tw, ← PySem.W.Fast.te17359229931016689406, Sem.wp_holding] at h ⊢
  exact wp_tst1 a b h
theorem nextF_ok {w : World} {Γ : Ctx} {Q : PySem.Fin → Pos → Shared → Prop} {E : Value → Pos → Shared → Prop} {p : Pos} {s : Shared} (args : Args) : wp (model prog w) Γ (nextF.1 tst1 args) Q E p s → wp (model prog w) Γ (PySem.W.Fast.tw3026062990905772714 args) Q E p s := by
  rw [nextF.2]
  unfold nextF
  refine wp_bind_of fun x p s => ?_
  refine wp_bind_of fun x p s => ?_
  dsimp only
  split
  all_goals repeat' (first | with_reducible exact id | exact wp_hold_tst | refine wp_bind_of fun x p s => ?_ | split)
theorem den_next (args : Args) : denF (.builtin "callable_iterator.__next__" args) = PySem.W.Fast.tw3026062990905772714 args := by kernel_rfl
theorem denG_ok (w : World) (c : Code) (Γ : Ctx) (Q : PySem.Fin → Pos → Shared → Prop) (E : Value → Pos → Shared → Prop) (p : Pos) (s : Shared) (h : wp (model prog w) Γ (denG c) Q E p s) : wp (model prog w) Γ (denF c) Q E p s := by
  unfold denG at h
  cases c with
  | builtin id args =>
    dsimp only at h
    cases hb : Nat.beq (PySem.W.S.codeS id) 154871534474935724191431299575622858322749446335671712506274404 with
    | true =>
      rw [hb] at h
      have e := Nat.eq_of_beq_eq_true hb
      rw [← PySem.W.S.code_S] at e
      have : id = "callable_iterator.__next__" := PySem.code_inj _ _ (e.trans (by decide +kernel))
      subst this
      rw [den_next]
      exact nextF_ok args h
    | false => rw [hb] at h; exact h
  | _ => exact h
noncomputable def VV (w : World) : SV := ⟨w.params, w.params.followText "comprehension-iter-twice", topKT w.params⟩
theorem isM (w : World) : IsM (VV w) (model prog w) := ⟨denF_eq, denG_ok w, rfl, ⟨w.params.followText "special-get-raises", (row_self w.params).symm⟩⟩
/-- the top's objects lie in a state -/
noncomputable def TopIn (w : World) (s : Shared) : Prop := ∀ j o, (topKT w.params).get j = some o → s.heap.get? j = some o
theorem TopIn.step {w : World} {s s' : Shared} {l : List Addr} (h : TopIn w s) (st : Step s s' l) (hl : ∀ a ∈ l, 140 ≤ a) : TopIn w s' := fun j o e => st.keep j o (h j o e) fun q => absurd (top_low e) (Nat.not_lt.mpr (hl j q))
end Mine
namespace Mine
open PySem PySem.W PySem.W.X
/-! the defs' bodies, loops and environments -/
noncomputable def fnBody (s : Stmt) : List Stmt := match s with
  | .FunctionDef _ _ body _ _ _ _ _ _ _ => body
  | _ => []
noncomputable def fnScope (s : Stmt) : Scope := match s with
  | .FunctionDef _ _ _ _ _ _ scope _ _ _ => scope
  | _ => default
noncomputable def nthS (l : List Stmt) (k : Nat) : Stmt := (l[k]?).getD default
noncomputable def whT (s : Stmt) : PySem.Expr := match s with
  | .While t _ _ _ => t
  | _ => default
noncomputable def whB (s : Stmt) : List Stmt := match s with
  | .While _ b _ _ => b
  | _ => []
noncomputable def whO (s : Stmt) : List Stmt := match s with
  | .While _ _ o _ => o
  | _ => []
noncomputable def envF (s : Stmt) (q : String) (fa f : Nat) : Env := { scope := fnScope s, locals := f, globals := 3, cells := [], qual := Str.ofString q, func := some fa, code := .ref (fa - 1), frame := some f, builtins := 0 }
noncomputable def whC (s : Stmt) (k : Nat) (q : String) (fa f : Nat) : Code := .whileLoop (whT (nthS (fnBody s) k)) (whB (nthS (fnBody s) k)) (whO (nthS (fnBody s) k)) (envF s q fa f)
noncomputable def frO (w : World) (es : List (String × Nat × Value)) (n : Nat) : Obj := { cls := .type "frame", data := .dict (es.map fun x => de w.params x.1 x.2.1 x.2.2).toArray n }
noncomputable def dueLoop (f : Nat) : Code := whC (st 16) 1 "_law_due.<locals>." 134 f
end Mine
namespace Mine
open PySem PySem.W PySem.W.X
open Sem (wp finPost)
/-! lists told by one number: what a contract hands on unseen -/
noncomputable def encN : List Nat → Nat
  | [] => 0
  | a :: l => 2 ^ a * (2 * encN l + 1)
theorem two_odd : ∀ (a b x y : Nat), 2 ^ a * (2 * x + 1) = 2 ^ b * (2 * y + 1) → a = b ∧ x = y
  | 0, 0, x, y, h => by simp at h; exact ⟨rfl, by omega⟩
  | 0, b + 1, x, y, h => by
    rw [Nat.pow_succ, Nat.mul_comm (2 ^ b) 2, Nat.mul_assoc] at h
    simp only [Nat.pow_zero, Nat.one_mul] at h
    generalize 2 ^ b * (2 * y + 1) = z at h
    omega
  | a + 1, 0, x, y, h => by
    rw [Nat.pow_succ, Nat.mul_comm (2 ^ a) 2, Nat.mul_assoc] at h
    simp only [Nat.pow_zero, Nat.one_mul] at h
    generalize 2 ^ a * (2 * x + 1) = z at h
    omega
  | a + 1, b + 1, x, y, h => by
    rw [Nat.pow_succ, Nat.pow_succ, Nat.mul_comm (2 ^ a) 2, Nat.mul_comm (2 ^ b) 2, Nat.mul_assoc, Nat.mul_assoc] at h
    obtain ⟨h1, h2⟩ := two_odd a b x y (by omega)
    exact ⟨by omega, h2⟩
theorem encN_inj : ∀ (l l' : List Nat), encN l = encN l' → l = l'
  | [], [], _ => rfl
  | [], b :: l', h => by
    have : 0 < 2 ^ b * (2 * encN l' + 1) := Nat.mul_pos (Nat.two_pow_pos b) (by omega)
    simp only [encN] at h; omega
  | a :: l, [], h => by
    have : 0 < 2 ^ a * (2 * encN l + 1) := Nat.mul_pos (Nat.two_pow_pos a) (by omega)
    simp only [encN] at h; omega
  | a :: l, b :: l', h => by
    obtain ⟨h1, h2⟩ := two_odd a b _ _ h
    rw [h1, encN_inj l l' h2]
noncomputable def decBy {α : Type} (d : α) (enc : α → Nat) (n : Nat) : α := open Classical in if h : ∃ x, enc x = n then Classical.choose h else d
theorem decBy_enc {α : Type} {d : α} {enc : α → Nat} (inj : ∀ x y, enc x = enc y → x = y) (x : α) : decBy d enc (enc x) = x := by
  unfold decBy
  rw [dif_pos ⟨x, rfl⟩]
  exact inj _ _ (Classical.choose_spec (p := fun y => enc y = enc x) ⟨x, rfl⟩)
noncomputable def encI : Int → Nat
  | .ofNat n => 2 * n
  | .negSucc n => 2 * n + 1
theorem encI_inj : ∀ (a b : Int), encI a = encI b → a = b
  | .ofNat a, .ofNat b, h => by simp only [encI] at h; congr 1; omega
  | .ofNat a, .negSucc b, h => by simp only [encI] at h; omega
  | .negSucc a, .ofNat b, h => by simp only [encI] at h; omega
  | .negSucc a, .negSucc b, h => by simp only [encI] at h; congr 1; omega
noncomputable def encE : List Ent → List Nat
  | [] => []
  | x :: L => encI x.k :: x.t :: encI x.v :: x.u :: encE L
theorem encE_inj : ∀ (L L' : List Ent), encE L = encE L' → L = L'
  | [], [], _ => rfl
  | [], _ :: _, h => by cases h
  | _ :: _, [], h => by cases h
  | ⟨k, t, v, u⟩ :: L, ⟨k', t', v', u'⟩ :: L', h => by
    simp only [encE, List.cons.injEq] at h
    obtain ⟨h1, h2, h3, h4, h5⟩ := h
    rw [encI_inj _ _ h1, encI_inj _ _ h3, h2, h4, encE_inj L L' h5]
noncomputable def decI : Nat → Int := decBy 0 encI
theorem decI_enc (x : Int) : decI (encI x) = x := decBy_enc encI_inj x
noncomputable def decN : Nat → List Nat := decBy [] encN
theorem decN_enc (x : List Nat) : decN (encN x) = x := decBy_enc encN_inj x
noncomputable def decL : Nat → List Ent := decBy [] fun L => encN (encE L)
theorem decL_enc (L : List Ent) : decL (encN (encE L)) = L := decBy_enc (enc := fun L => encN (encE L)) (fun x y h => encE_inj _ _ (encN_inj _ _ h)) L
noncomputable def encV : List Int → List Nat := List.map encI
theorem encV_inj : ∀ (L L' : List Int), encV L = encV L' → L = L'
  | [], [], _ => rfl
  | [], _ :: _, h => by cases h
  | _ :: _, [], h => by cases h
  | a :: L, b :: L', h => by
    simp only [encV, List.map_cons, List.cons.injEq] at h
    rw [encI_inj _ _ h.1, encV_inj L L' h.2]
end Mine
namespace Mine
open PySem PySem.W PySem.W.X
open Sem (wp finPost)
/-! _law_put: what a run of it shows -/
/-- the context of a call from a while of a def that the law calls -/
structure CxW where
  wt : PySem.Expr
  wb : List Stmt
  wo : List Stmt
  we : Env
  e2 : Env
  e3 : Env
  b2 : List Stmt
  b3 : List Stmt
  p1 : Pos
  p2 : Pos
  p3 : Pos
  p4 : Pos
noncomputable def CxW.ctx (X : CxW) (c : Code) : Ctx := ⟨c, none, none, [(.whileLoop X.wt X.wb X.wo X.we, X.p1), (.func X.b2 X.e2, X.p2), (.func X.b3 X.e3, X.p3), (.builtin "claim.caller" {}, X.p4)], none⟩
noncomputable def putC (d : Addr) (c : Int) (tc : Nat) (pl : Int) (tp : Nat) : Code := .call (.ref 115) ⟨[.ref d, .int c tc, .int pl tp], []⟩
noncomputable def rng3 : Obj := { cls := .type "range_iterator", data := .fields #[.int 0 0, .int 3 0, .int 1 0] }
noncomputable def EN (d tp ep : Nat) (pl : Int) (L : List Ent) (m1 i1 g m2 i2 : Nat) (v : Int) (kv : Nat) (up : Int) (ku : Nat) : RLog :=
  .call (.bi 32795317678217157189674408721764466322021 [.ref d, .int pl tp]) none m1 i1 [some (d, dO L ep)] (oIn 0 false) fun al1 tk1 => .goto (some (al1 g)) (some (al1 g, rng3)) <|
    .call (.bi 128106587276438692082622197436938218085 [.ref d, .int pl tp, .int v (tk1 kv)]) none m2 i2 [some (d, dO L ep)] (oSet 0 L ep) fun _ tk2 => .ret (.ok (.ret (.int up (tk2 ku)))) [some (d, dO (L ++ [⟨pl, tp, v, tk1 kv⟩]) (ep + 1))]
noncomputable def EP (d tp ep : Nat) (pl : Int) (L1 L2 : List Ent) (e : Ent) (m1 i1 m2 i2 g : Nat) (up : Int) (ku : Nat) : RLog :=
  .call (.bi 32795317678217157189674408721764466322021 [.ref d, .int pl tp]) none m1 i1 [some (d, dO (L1 ++ e :: L2) ep)] (oIn 0 true) fun _ _ =>
    .call (.bi 8174157772324366949 [.ref d, .int pl tp]) none m2 i2 [some (d, dO (L1 ++ e :: L2) ep)] (oPop 0 L1 L2 e ep) fun al2 tk2 => .goto (some (al2 g)) (some (al2 g, rng3)) <|
      .ret (.ok (.ret (.int up (tk2 ku)))) [some (d, dO (L1 ++ L2) (ep + 1))]
noncomputable def ES (d tp ep : Nat) (pl : Int) (L1 L2 : List Ent) (e : Ent) (m1 i1 m2 i2 g m3 i3 : Nat) (v : Int) (kv : Nat) (up : Int) (ku : Nat) : RLog :=
  .call (.bi 32795317678217157189674408721764466322021 [.ref d, .int pl tp]) none m1 i1 [some (d, dO (L1 ++ e :: L2) ep)] (oIn 0 true) fun _ _ =>
    .call (.bi 8174157772324366949 [.ref d, .int pl tp]) none m2 i2 [some (d, dO (L1 ++ e :: L2) ep)] (oPop 0 L1 L2 e ep) fun al2 tk2 => .goto (some (al2 g)) (some (al2 g, rng3)) <|
      .call (.bi 128106587276438692082622197436938218085 [.ref d, .int pl tp, .int v (tk2 kv)]) none m3 i3 [some (d, dO (L1 ++ L2) (ep + 1))] (oSet 0 (L1 ++ L2) (ep + 1)) fun _ tk3 =>
        .ret (.ok (.ret (.int up (tk3 ku)))) [some (d, dO ((L1 ++ L2) ++ [⟨pl, tp, v, tk2 kv⟩]) (ep + 1 + 1))]
theorem put_rep {w : World} {s : Shared} {d : Addr} {o : Obj} (htop : TopIn w s) (hd : s.heap.get? d = some o) (h140 : 140 ≤ d) : Rep (VV w) s [d] (mkT [(d, o)] []) 1 0 (alOf 1 [] s.heap.objs.size) (alOf 0 [] s.toks) s :=
  rep_start (V := VV w) (cs := [(d, o)]) (rs := []) htop (fun c hc => by rw [List.mem_singleton.mp hc]; exact hd) (by simp) (fun c hc => by rw [List.mem_singleton.mp hc]; exact top_off h140) (fun c hc => by cases hc) (by simp)
section
variable {w : World} {X : CxW} {s : Shared} {p : Pos} {d : Addr} {tc tp ep : Nat} {c pl v up : Int}
theorem put_N {L : List Ent} {n : Nat} {tr : List Nat} {m1 i1 g m2 i2 kv ku : Nat} (htop : TopIn w s) (hd : s.heap.get? d = some (dO L ep)) (h140 : 140 ≤ d) (hL : ∀ x ∈ L, x.k ≠ pl) (hz : L.length ≤ 1000) (hm1 : Nat.ble m1 1000 = true) (hm2 : Nat.ble m2 1000 = true)
    (h : ∀ al tk, mixA [0] (seg (VV w) n tr [oIn 0 false, oSet 0 L ep] (X.ctx (putC d c tc pl tp)) p [] (denF (X.ctx (putC d c tc pl tp)).code) (mkT [(d, dO L ep)] []) 1 0 al tk) = mixB (seg (VV w) n tr [oIn 0 false, oSet 0 L ep] (X.ctx (putC d c tc pl tp)) p [] (denF (X.ctx (putC d c tc pl tp)).code) (mkT [(d, dO L ep)] []) 1 0 al tk) (EN d tp ep pl L m1 i1 g m2 i2 v kv up ku)) :
    ∃ t u s', Returns (model prog w) (X.ctx (putC d c tc pl tp)) p s (.ok (.ret (.int up t))) s' ∧ s'.heap.get? d = some (dO (L ++ [⟨pl, tp, v, u⟩]) (ep + 1)) ∧ Step s s' [d] := by
  obtain ⟨r, s', hr, t, u, rfl, h1, h2⟩ := run_mix (fs := [0]) (R := fun r s' => ∃ t u, r = .ok (.ret (.int up t)) ∧ s'.heap.get? d = some (dO (L ++ [⟨pl, tp, v, u⟩]) (ep + 1)) ∧ Step s s' [d]) (isM w) (skip_ok _ w) (put_rep htop hd h140) (h _ _)
    (okr_in false (by rw [find_none hL]; rfl) hm1 fun al1 tk1 => ⟨⟨_, _, rfl, rfl, by decide⟩, okr_set hL hz hm2 rfl fun al2 tk2 s' hn hc => ⟨_, _, rfl, hc.1, hn.step⟩⟩)
  exact ⟨t, u, s', hr, h1, h2⟩
theorem put_P {L1 L2 : List Ent} {e : Ent} {n : Nat} {tr : List Nat} {m1 i1 m2 i2 g ku : Nat} (os : List Orc) (htop : TopIn w s) (hd : s.heap.get? d = some (dO (L1 ++ e :: L2) ep)) (h140 : 140 ≤ d) (he : e.k = pl) (hL : ∀ x ∈ L1, x.k ≠ pl) (hz : (L1 ++ e :: L2).length ≤ 1000) (hm1 : Nat.ble m1 1000 = true) (hm2 : Nat.ble m2 1000 = true)
    (h : ∀ al tk, mixA [0] (seg (VV w) n tr os (X.ctx (putC d c tc pl tp)) p [] (denF (X.ctx (putC d c tc pl tp)).code) (mkT [(d, dO (L1 ++ e :: L2) ep)] []) 1 0 al tk) = mixB (seg (VV w) n tr os (X.ctx (putC d c tc pl tp)) p [] (denF (X.ctx (putC d c tc pl tp)).code) (mkT [(d, dO (L1 ++ e :: L2) ep)] []) 1 0 al tk) (EP d tp ep pl L1 L2 e m1 i1 m2 i2 g up ku)) :
    ∃ t s', Returns (model prog w) (X.ctx (putC d c tc pl tp)) p s (.ok (.ret (.int up t))) s' ∧ s'.heap.get? d = some (dO (L1 ++ L2) (ep + 1)) ∧ Step s s' [d] := by
  obtain ⟨r, s', hr, t, rfl, h1, h2⟩ := run_mix (fs := [0]) (R := fun r s' => ∃ t, r = .ok (.ret (.int up t)) ∧ s'.heap.get? d = some (dO (L1 ++ L2) (ep + 1)) ∧ Step s s' [d]) (isM w) (skip_ok _ w) (put_rep htop hd h140) (h _ _)
    (okr_in true (by rw [find_mid hL he]; rfl) hm1 fun al1 tk1 => okr_pop he hL hz hm2 rfl fun al2 tk2 => ⟨⟨_, _, rfl, rfl, by decide⟩, fun s' hn hc => ⟨_, rfl, hc.1, hn.step⟩⟩)
  exact ⟨t, s', hr, h1, h2⟩
theorem put_S {L1 L2 : List Ent} {e : Ent} {n : Nat} {tr : List Nat} {m1 i1 m2 i2 g m3 i3 kv ku : Nat} (os : List Orc) (htop : TopIn w s) (hd : s.heap.get? d = some (dO (L1 ++ e :: L2) ep)) (h140 : 140 ≤ d) (he : e.k = pl) (hL : ∀ x ∈ L1, x.k ≠ pl) (hL2 : ∀ x ∈ L2, x.k ≠ pl) (hz : (L1 ++ e :: L2).length ≤ 1000) (hm1 : Nat.ble m1 1000 = true) (hm2 : Nat.ble m2 1000 = true) (hm3 : Nat.ble m3 1000 = true)
    (h : ∀ al tk, mixA [0] (seg (VV w) n tr os (X.ctx (putC d c tc pl tp)) p [] (denF (X.ctx (putC d c tc pl tp)).code) (mkT [(d, dO (L1 ++ e :: L2) ep)] []) 1 0 al tk) = mixB (seg (VV w) n tr os (X.ctx (putC d c tc pl tp)) p [] (denF (X.ctx (putC d c tc pl tp)).code) (mkT [(d, dO (L1 ++ e :: L2) ep)] []) 1 0 al tk) (ES d tp ep pl L1 L2 e m1 i1 m2 i2 g m3 i3 v kv up ku)) :
    ∃ t u s', Returns (model prog w) (X.ctx (putC d c tc pl tp)) p s (.ok (.ret (.int up t))) s' ∧ s'.heap.get? d = some (dO ((L1 ++ L2) ++ [⟨pl, tp, v, u⟩]) (ep + 1 + 1)) ∧ Step s s' [d] := by
  have hz' : (L1 ++ L2).length ≤ 1000 := by simp only [List.length_append, List.length_cons] at hz ⊢; omega
  obtain ⟨r, s', hr, t, u, rfl, h1, h2⟩ := run_mix (fs := [0]) (R := fun r s' => ∃ t u, r = .ok (.ret (.int up t)) ∧ s'.heap.get? d = some (dO ((L1 ++ L2) ++ [⟨pl, tp, v, u⟩]) (ep + 1 + 1)) ∧ Step s s' [d]) (isM w) (skip_ok _ w) (put_rep htop hd h140) (h _ _)
    (okr_in true (by rw [find_mid hL he]; rfl) hm1 fun al1 tk1 => okr_pop he hL hz hm2 rfl fun al2 tk2 => ⟨⟨_, _, rfl, rfl, by decide⟩, okr_set (fun x hx => (List.mem_append.mp hx).elim (hL x) (hL2 x)) hz' hm3 rfl fun al3 tk3 s' hn hc => ⟨_, _, rfl, hc.1, hn.step⟩⟩)
  exact ⟨t, u, s', hr, h1, h2⟩
end
end Mine
namespace Mine
open PySem PySem.W PySem.W.X
/-! the runs of _law_put: for each chip and what lies there (the kernel runs them) -/
noncomputable def tr0n : List Nat := [115, 114, 257, 257, 258, 258, 257, 257, 2, 259, 259, 257, 257, 256, 256, 1, 260, 260, 3, 0, 0, 0, 269, 269, 0, 269, 269, 269, 269, 0, 269, 269, 269, 269, 270, 270, 270, 0, 270, 270, 270, 270, 270, 270, 270, 270, 272, 272, 259, 258, 267, 267, 267, 0, 267, 267, 272, 261, 261, 261, 0, 261, 261, 0, 260, 272, 268, 268, 268, 0, 268, 268, 0, 0, 271, 271, 271, 271, 270, 0, 270, 270, 270, 270, 270, 270, 270, 270, 272, 272, 259, 258, 267, 267, 267, 0, 267, 267, 272, 261, 261, 261, 0, 261, 261, 0, 260, 272, 268, 268, 268, 0, 268, 268, 0, 0, 271, 271, 271, 271, 270, 0, 270, 270, 270, 270, 270, 270, 270, 270, 272, 272, 259, 258, 267, 267, 267, 0, 267, 267, 272, 261, 261, 261, 0, 261, 261, 0, 260, 272, 268, 268, 268, 0, 268, 268, 0, 0, 271, 271, 271, 271, 270, 0, 270, 270, 270, 270, 274, 272, 272, 272, 271, 271, 271, 0, 271, 275, 275, 0, 275, 275, 275, 271, 275, 275, 275, 0, 275, 275, 275, 271, 275, 275, 275, 0, 275, 275, 275, 271, 275, 275, 275, 0, 275, 275, 275, 271, 275, 275, 277, 257, 257, 257, 257, 257, 257, 3, 257, 257, 257, 21, 0, 21, 20, 278, 278, 278, 278, 278, 278, 2, 3, 0, 278, 278, 278, 0, 279, 279, 0, 279, 280, 281, 280, 0, 280, 280, 280, 279, 280, 280, 281, 281, 281, 281, 280, 0, 280, 280, 280, 279, 280, 280, 0, 281, 280, 0, 280, 280, 280, 279, 280, 280, 0, 281, 280, 0, 280, 280, 280, 279, 280, 280, 283, 281, 281, 281, 278, 278, 3, 0, 278, 278, 278, 0, 284, 284, 0, 284, 285, 286, 285, 0, 285, 285, 285, 284, 285, 285, 286, 286, 286, 286, 285, 0, 285, 285, 285, 284, 285, 285, 0, 286, 286, 286, 286, 285, 0, 285, 285, 285, 284, 285, 285, 0, 286, 285, 0, 285, 285, 285, 284, 285, 285, 288, 286, 286, 286, 278, 278, 278, 278, 0, 278, 278, 278, 278, 278, 278, 278, 0, 278, 278, 0, 278, 278, 278, 278, 0, 278, 0, 278, 278, 278, 278, 0, 278, 0, 278, 278, 278, 278, 0, 278, 0, 278, 278, 278, 278, 0, 278, 278, 0, 278, 278, 278, 0, 0, 278, 278, 278, 278, 278, 289, 289, 289, 0, 289, 290, 290, 0, 290, 290, 290, 289, 290, 290, 290, 0, 290, 290, 290, 289, 290, 290, 290, 0, 290, 290, 290, 289, 290, 290, 290, 0, 290, 290, 290, 289, 290, 290, 292, 257, 257, 257, 257, 257, 257, 3, 0, 257, 0, 0, 0, 0, 0, 0, 0, 257, 257, 3, 0, 257, 257, 0, 0, 0, 0, 0, 0, 257, 257, 257, 0, 257, 0, 0, 257, 0, 257, 257, 257, 0, 257, 0, 0, 257, 257, 257, 256, 256, 1]
noncomputable def tr00 : List Nat := [115, 114, 257, 257, 258, 258, 257, 257, 2, 259, 259, 257, 257, 256, 256, 1, 259, 257, 256, 256, 256, 256, 257, 1, 267, 267, 267, 0, 267, 267, 260, 260, 3, 0, 0, 0, 268, 268, 0, 268, 268, 268, 268, 0, 268, 268, 268, 268, 269, 269, 269, 0, 269, 269, 269, 269, 269, 269, 269, 269, 271, 271, 259, 258, 267, 267, 267, 0, 267, 267, 271, 261, 261, 261, 0, 261, 261, 0, 260, 271, 261, 261, 261, 0, 261, 261, 0, 0, 270, 270, 270, 270, 269, 0, 269, 269, 269, 269, 269, 269, 269, 269, 271, 271, 259, 258, 267, 267, 267, 0, 267, 267, 271, 261, 261, 261, 0, 261, 261, 0, 260, 271, 261, 261, 261, 0, 261, 261, 0, 0, 270, 270, 270, 270, 269, 0, 269, 269, 269, 269, 269, 269, 269, 269, 271, 271, 259, 258, 267, 267, 267, 0, 267, 267, 271, 261, 261, 261, 0, 261, 261, 0, 260, 271, 261, 261, 261, 0, 261, 261, 0, 0, 270, 270, 270, 270, 269, 0, 269, 269, 269, 269, 273, 271, 271, 271, 270, 270, 270, 0, 270, 274, 274, 0, 274, 274, 274, 270, 274, 274, 274, 0, 274, 274, 274, 270, 274, 274, 274, 0, 274, 274, 274, 270, 274, 274, 274, 0, 274, 274, 274, 270, 274, 274, 276, 257, 257, 257, 257, 257, 257, 3, 257, 257, 257, 21, 0, 21, 20, 277, 277, 277, 277, 277, 277, 2, 3, 0, 277, 277, 277, 0, 278, 278, 0, 278, 279, 280, 279, 0, 279, 279, 279, 278, 279, 279, 280, 280, 280, 280, 279, 0, 279, 279, 279, 278, 279, 279, 0, 280, 279, 0, 279, 279, 279, 278, 279, 279, 0, 280, 279, 0, 279, 279, 279, 278, 279, 279, 282, 280, 280, 280, 277, 277, 3, 0, 277, 277, 277, 0, 283, 283, 0, 283, 284, 285, 284, 0, 284, 284, 284, 283, 284, 284, 285, 285, 285, 285, 284, 0, 284, 284, 284, 283, 284, 284, 0, 285, 285, 285, 285, 284, 0, 284, 284, 284, 283, 284, 284, 0, 285, 284, 0, 284, 284, 284, 283, 284, 284, 287, 285, 285, 285, 277, 277, 277, 277, 0, 277, 277, 277, 277, 277, 277, 277, 0, 277, 277, 0, 277, 277, 277, 277, 0, 277, 0, 277, 277, 277, 277, 0, 277, 0, 277, 277, 277, 277, 0, 277, 0, 277, 277, 277, 277, 0, 277, 277, 0, 277, 277, 277, 0, 0, 277, 277, 277, 277, 277, 288, 288, 288, 0, 288, 289, 289, 0, 289, 289, 289, 288, 289, 289, 289, 0, 289, 289, 289, 288, 289, 289, 289, 0, 289, 289, 289, 288, 289, 289, 289, 0, 289, 289, 289, 288, 289, 289, 291, 257, 257, 257, 257, 257, 257, 3, 0, 257, 0, 0, 0, 0, 0, 0, 0, 257, 257, 3, 0, 257, 257, 0, 0, 0, 0, 0, 0, 257, 257, 257, 0, 257, 0, 0, 257, 0, 257, 257, 257, 0, 257, 0, 257, 0, 0]
noncomputable def tr02 : List Nat := [115, 114, 257, 257, 258, 258, 257, 257, 2, 259, 259, 257, 257, 256, 256, 1, 259, 257, 256, 256, 256, 256, 257, 1, 267, 267, 267, 0, 267, 267, 260, 260, 3, 0, 0, 0, 268, 268, 0, 268, 268, 268, 268, 0, 268, 268, 268, 268, 269, 269, 269, 0, 269, 269, 269, 269, 269, 269, 269, 269, 271, 271, 259, 258, 267, 267, 267, 0, 267, 267, 271, 261, 261, 261, 0, 261, 261, 0, 260, 271, 263, 263, 263, 0, 263, 263, 0, 0, 270, 270, 270, 270, 269, 0, 269, 269, 269, 269, 269, 269, 269, 269, 271, 271, 259, 258, 267, 267, 267, 0, 267, 267, 271, 261, 261, 261, 0, 261, 261, 0, 260, 271, 263, 263, 263, 0, 263, 263, 0, 0, 270, 270, 270, 270, 269, 0, 269, 269, 269, 269, 269, 269, 269, 269, 271, 271, 259, 258, 267, 267, 267, 0, 267, 267, 271, 261, 261, 261, 0, 261, 261, 0, 260, 271, 263, 263, 263, 0, 263, 263, 0, 0, 270, 270, 270, 270, 269, 0, 269, 269, 269, 269, 273, 271, 271, 271, 270, 270, 270, 0, 270, 274, 274, 0, 274, 274, 274, 270, 274, 274, 274, 0, 274, 274, 274, 270, 274, 274, 274, 0, 274, 274, 274, 270, 274, 274, 274, 0, 274, 274, 274, 270, 274, 274, 276, 257, 257, 257, 257, 257, 257, 3, 257, 257, 257, 21, 0, 21, 20, 277, 277, 277, 277, 277, 277, 2, 3, 0, 277, 277, 277, 0, 278, 278, 0, 278, 279, 280, 279, 0, 279, 279, 279, 278, 279, 279, 280, 280, 280, 280, 279, 0, 279, 279, 279, 278, 279, 279, 0, 280, 279, 0, 279, 279, 279, 278, 279, 279, 0, 280, 279, 0, 279, 279, 279, 278, 279, 279, 282, 280, 280, 280, 277, 277, 3, 0, 277, 277, 277, 0, 283, 283, 0, 283, 284, 285, 284, 0, 284, 284, 284, 283, 284, 284, 285, 285, 285, 285, 284, 0, 284, 284, 284, 283, 284, 284, 0, 285, 284, 0, 284, 284, 284, 283, 284, 284, 0, 285, 285, 285, 285, 284, 0, 284, 284, 284, 283, 284, 284, 287, 285, 285, 285, 277, 277, 277, 277, 0, 277, 277, 277, 277, 277, 277, 277, 0, 277, 277, 0, 277, 277, 277, 277, 0, 277, 0, 277, 277, 277, 277, 0, 277, 0, 277, 277, 277, 277, 0, 277, 0, 277, 277, 277, 277, 0, 277, 277, 0, 277, 277, 277, 0, 0, 277, 277, 277, 277, 277, 288, 288, 288, 0, 288, 289, 289, 0, 289, 289, 289, 288, 289, 289, 289, 0, 289, 289, 289, 288, 289, 289, 289, 0, 289, 289, 289, 288, 289, 289, 289, 0, 289, 289, 289, 288, 289, 289, 291, 257, 257, 257, 257, 257, 257, 3, 0, 257, 0, 0, 0, 0, 0, 0, 0, 257, 257, 3, 0, 257, 257, 0, 0, 0, 0, 0, 0, 257, 257, 257, 0, 257, 0, 0, 257, 0, 257, 257, 257, 0, 257, 0, 0, 257, 0, 257, 0, 0, 257, 257, 256, 256, 1, 257, 0, 0]
noncomputable def tr04 : List Nat := [115, 114, 257, 257, 258, 258, 257, 257, 2, 259, 259, 257, 257, 256, 256, 1, 259, 257, 256, 256, 256, 256, 257, 1, 267, 267, 267, 0, 267, 267, 260, 260, 3, 0, 0, 0, 268, 268, 0, 268, 268, 268, 268, 0, 268, 268, 268, 268, 269, 269, 269, 0, 269, 269, 269, 269, 269, 269, 269, 269, 271, 271, 259, 258, 267, 267, 267, 0, 267, 267, 271, 261, 261, 261, 0, 261, 261, 0, 260, 271, 265, 265, 265, 0, 265, 265, 0, 0, 270, 270, 270, 270, 269, 0, 269, 269, 269, 269, 269, 269, 269, 269, 271, 271, 259, 258, 267, 267, 267, 0, 267, 267, 271, 261, 261, 261, 0, 261, 261, 0, 260, 271, 265, 265, 265, 0, 265, 265, 0, 0, 270, 270, 270, 270, 269, 0, 269, 269, 269, 269, 269, 269, 269, 269, 271, 271, 259, 258, 267, 267, 267, 0, 267, 267, 271, 261, 261, 261, 0, 261, 261, 0, 260, 271, 265, 265, 265, 0, 265, 265, 0, 0, 270, 270, 270, 270, 269, 0, 269, 269, 269, 269, 273, 271, 271, 271, 270, 270, 270, 0, 270, 274, 274, 0, 274, 274, 274, 270, 274, 274, 274, 0, 274, 274, 274, 270, 274, 274, 274, 0, 274, 274, 274, 270, 274, 274, 274, 0, 274, 274, 274, 270, 274, 274, 276, 257, 257, 257, 257, 257, 257, 3, 257, 257, 257, 21, 0, 21, 20, 277, 277, 277, 277, 277, 277, 2, 3, 0, 277, 277, 277, 0, 278, 278, 0, 278, 279, 280, 279, 0, 279, 279, 279, 278, 279, 279, 280, 280, 280, 280, 279, 0, 279, 279, 279, 278, 279, 279, 0, 280, 279, 0, 279, 279, 279, 278, 279, 279, 0, 280, 279, 0, 279, 279, 279, 278, 279, 279, 282, 280, 280, 280, 277, 277, 3, 0, 277, 277, 277, 0, 283, 283, 0, 283, 284, 285, 284, 0, 284, 284, 284, 283, 284, 284, 285, 285, 285, 285, 284, 0, 284, 284, 284, 283, 284, 284, 0, 285, 285, 285, 285, 284, 0, 284, 284, 284, 283, 284, 284, 0, 285, 284, 0, 284, 284, 284, 283, 284, 284, 287, 285, 285, 285, 277, 277, 277, 277, 0, 277, 277, 277, 277, 277, 277, 277, 0, 277, 277, 0, 277, 277, 277, 277, 0, 277, 0, 277, 277, 277, 277, 0, 277, 0, 277, 277, 277, 277, 0, 277, 0, 277, 277, 277, 277, 0, 277, 277, 0, 277, 277, 277, 0, 0, 277, 277, 277, 277, 277, 288, 288, 288, 0, 288, 289, 289, 0, 289, 289, 289, 288, 289, 289, 289, 0, 289, 289, 289, 288, 289, 289, 289, 0, 289, 289, 289, 288, 289, 289, 289, 0, 289, 289, 289, 288, 289, 289, 291, 257, 257, 257, 257, 257, 257, 3, 0, 257, 0, 0, 0, 0, 0, 0, 0, 257, 257, 3, 0, 257, 257, 0, 0, 0, 0, 0, 0, 257, 257, 257, 0, 257, 0, 0, 257, 0, 257, 257, 257, 0, 257, 0, 0, 257, 0, 257, 0, 0, 257, 257, 256, 256, 1, 257, 0, 0]
noncomputable def tr1n : List Nat := [115, 114, 257, 257, 258, 258, 257, 257, 2, 259, 259, 257, 257, 256, 256, 1, 260, 260, 3, 0, 0, 0, 269, 269, 0, 269, 269, 269, 269, 0, 269, 269, 269, 269, 270, 270, 270, 0, 270, 270, 270, 270, 270, 270, 270, 270, 272, 272, 259, 258, 267, 267, 267, 0, 267, 267, 272, 262, 262, 262, 0, 262, 262, 0, 260, 272, 268, 268, 268, 0, 268, 268, 0, 0, 271, 271, 271, 271, 270, 0, 270, 270, 270, 270, 270, 270, 270, 270, 272, 272, 259, 258, 267, 267, 267, 0, 267, 267, 272, 262, 262, 262, 0, 262, 262, 0, 260, 272, 268, 268, 268, 0, 268, 268, 0, 0, 271, 271, 271, 271, 270, 0, 270, 270, 270, 270, 270, 270, 270, 270, 272, 272, 259, 258, 267, 267, 267, 0, 267, 267, 272, 262, 262, 262, 0, 262, 262, 0, 260, 272, 268, 268, 268, 0, 268, 268, 0, 0, 271, 271, 271, 271, 270, 0, 270, 270, 270, 270, 274, 272, 272, 272, 271, 271, 271, 0, 271, 275, 275, 0, 275, 275, 275, 271, 275, 275, 275, 0, 275, 275, 275, 271, 275, 275, 275, 0, 275, 275, 275, 271, 275, 275, 275, 0, 275, 275, 275, 271, 275, 275, 277, 257, 257, 257, 257, 257, 257, 3, 257, 257, 257, 21, 0, 21, 20, 278, 278, 278, 278, 278, 278, 2, 3, 0, 278, 278, 278, 0, 279, 279, 0, 279, 280, 281, 280, 0, 280, 280, 280, 279, 280, 280, 281, 281, 281, 281, 280, 0, 280, 280, 280, 279, 280, 280, 0, 281, 280, 0, 280, 280, 280, 279, 280, 280, 0, 281, 280, 0, 280, 280, 280, 279, 280, 280, 283, 281, 281, 281, 278, 278, 3, 0, 278, 278, 278, 0, 284, 284, 0, 284, 285, 286, 285, 0, 285, 285, 285, 284, 285, 285, 286, 286, 286, 286, 285, 0, 285, 285, 285, 284, 285, 285, 0, 286, 285, 0, 285, 285, 285, 284, 285, 285, 0, 286, 286, 286, 286, 285, 0, 285, 285, 285, 284, 285, 285, 288, 286, 286, 286, 278, 278, 278, 278, 0, 278, 278, 278, 278, 278, 278, 278, 0, 278, 278, 0, 278, 278, 278, 278, 0, 278, 0, 278, 278, 278, 278, 0, 278, 0, 278, 278, 278, 278, 0, 278, 0, 278, 278, 278, 278, 0, 278, 278, 0, 278, 278, 278, 0, 0, 278, 278, 278, 278, 278, 289, 289, 289, 0, 289, 290, 290, 0, 290, 290, 290, 289, 290, 290, 290, 0, 290, 290, 290, 289, 290, 290, 290, 0, 290, 290, 290, 289, 290, 290, 290, 0, 290, 290, 290, 289, 290, 290, 292, 257, 257, 257, 257, 257, 257, 3, 0, 257, 0, 0, 0, 0, 0, 0, 0, 257, 257, 3, 0, 257, 257, 0, 0, 0, 0, 0, 0, 257, 257, 257, 0, 257, 0, 0, 257, 0, 257, 257, 257, 0, 257, 0, 0, 257, 0, 257, 0, 0, 257, 257, 256, 256, 1, 257, 0, 0]
noncomputable def tr10 : List Nat := [115, 114, 257, 257, 258, 258, 257, 257, 2, 259, 259, 257, 257, 256, 256, 1, 259, 257, 256, 256, 256, 256, 257, 1, 267, 267, 267, 0, 267, 267, 260, 260, 3, 0, 0, 0, 268, 268, 0, 268, 268, 268, 268, 0, 268, 268, 268, 268, 269, 269, 269, 0, 269, 269, 269, 269, 269, 269, 269, 269, 271, 271, 259, 258, 267, 267, 267, 0, 267, 267, 271, 262, 262, 262, 0, 262, 262, 0, 260, 271, 261, 261, 261, 0, 261, 261, 0, 0, 270, 270, 270, 270, 269, 0, 269, 269, 269, 269, 269, 269, 269, 269, 271, 271, 259, 258, 267, 267, 267, 0, 267, 267, 271, 262, 262, 262, 0, 262, 262, 0, 260, 271, 261, 261, 261, 0, 261, 261, 0, 0, 270, 270, 270, 270, 269, 0, 269, 269, 269, 269, 269, 269, 269, 269, 271, 271, 259, 258, 267, 267, 267, 0, 267, 267, 271, 262, 262, 262, 0, 262, 262, 0, 260, 271, 261, 261, 261, 0, 261, 261, 0, 0, 270, 270, 270, 270, 269, 0, 269, 269, 269, 269, 273, 271, 271, 271, 270, 270, 270, 0, 270, 274, 274, 0, 274, 274, 274, 270, 274, 274, 274, 0, 274, 274, 274, 270, 274, 274, 274, 0, 274, 274, 274, 270, 274, 274, 274, 0, 274, 274, 274, 270, 274, 274, 276, 257, 257, 257, 257, 257, 257, 3, 257, 257, 257, 21, 0, 21, 20, 277, 277, 277, 277, 277, 277, 2, 3, 0, 277, 277, 277, 0, 278, 278, 0, 278, 279, 280, 279, 0, 279, 279, 279, 278, 279, 279, 280, 280, 280, 280, 279, 0, 279, 279, 279, 278, 279, 279, 0, 280, 279, 0, 279, 279, 279, 278, 279, 279, 0, 280, 279, 0, 279, 279, 279, 278, 279, 279, 282, 280, 280, 280, 277, 277, 3, 0, 277, 277, 277, 0, 283, 283, 0, 283, 284, 285, 284, 0, 284, 284, 284, 283, 284, 284, 285, 285, 285, 285, 284, 0, 284, 284, 284, 283, 284, 284, 0, 285, 285, 285, 285, 284, 0, 284, 284, 284, 283, 284, 284, 0, 285, 285, 285, 285, 284, 0, 284, 284, 284, 283, 284, 284, 287, 285, 285, 285, 277, 277, 277, 277, 0, 277, 277, 277, 277, 277, 277, 277, 0, 277, 277, 0, 277, 277, 277, 277, 0, 277, 0, 277, 277, 277, 277, 0, 277, 0, 277, 277, 277, 277, 0, 277, 0, 277, 277, 277, 277, 0, 277, 277, 0, 277, 277, 277, 0, 0, 277, 277, 277, 277, 277, 288, 288, 288, 0, 288, 289, 289, 0, 289, 289, 289, 288, 289, 289, 289, 0, 289, 289, 289, 288, 289, 289, 289, 0, 289, 289, 289, 288, 289, 289, 289, 0, 289, 289, 289, 288, 289, 289, 291, 257, 257, 257, 257, 257, 257, 3, 0, 257, 0, 0, 0, 0, 0, 0, 0, 257, 257, 3, 0, 257, 257, 0, 0, 0, 0, 0, 0, 257, 257, 257, 0, 257, 0, 0, 257, 257, 0, 0, 0, 0, 0, 257, 257, 257, 257, 0, 0, 0, 0, 0, 257, 257, 257, 0, 257, 0, 0, 0, 257, 257, 256, 256, 1, 257, 0, 0]
noncomputable def tr12 : List Nat := [115, 114, 257, 257, 258, 258, 257, 257, 2, 259, 259, 257, 257, 256, 256, 1, 259, 257, 256, 256, 256, 256, 257, 1, 267, 267, 267, 0, 267, 267, 260, 260, 3, 0, 0, 0, 268, 268, 0, 268, 268, 268, 268, 0, 268, 268, 268, 268, 269, 269, 269, 0, 269, 269, 269, 269, 269, 269, 269, 269, 271, 271, 259, 258, 267, 267, 267, 0, 267, 267, 271, 262, 262, 262, 0, 262, 262, 0, 260, 271, 263, 263, 263, 0, 263, 263, 0, 0, 270, 270, 270, 270, 269, 0, 269, 269, 269, 269, 269, 269, 269, 269, 271, 271, 259, 258, 267, 267, 267, 0, 267, 267, 271, 262, 262, 262, 0, 262, 262, 0, 260, 271, 263, 263, 263, 0, 263, 263, 0, 0, 270, 270, 270, 270, 269, 0, 269, 269, 269, 269, 269, 269, 269, 269, 271, 271, 259, 258, 267, 267, 267, 0, 267, 267, 271, 262, 262, 262, 0, 262, 262, 0, 260, 271, 263, 263, 263, 0, 263, 263, 0, 0, 270, 270, 270, 270, 269, 0, 269, 269, 269, 269, 273, 271, 271, 271, 270, 270, 270, 0, 270, 274, 274, 0, 274, 274, 274, 270, 274, 274, 274, 0, 274, 274, 274, 270, 274, 274, 274, 0, 274, 274, 274, 270, 274, 274, 274, 0, 274, 274, 274, 270, 274, 274, 276, 257, 257, 257, 257, 257, 257, 3, 257, 257, 257, 21, 0, 21, 20, 277, 277, 277, 277, 277, 277, 2, 3, 0, 277, 277, 277, 0, 278, 278, 0, 278, 279, 280, 279, 0, 279, 279, 279, 278, 279, 279, 280, 280, 280, 280, 279, 0, 279, 279, 279, 278, 279, 279, 0, 280, 280, 280, 280, 279, 0, 279, 279, 279, 278, 279, 279, 0, 280, 279, 0, 279, 279, 279, 278, 279, 279, 282, 280, 280, 280, 277, 277, 3, 0, 277, 277, 277, 0, 283, 283, 0, 283, 284, 285, 284, 0, 284, 284, 284, 283, 284, 284, 285, 285, 285, 285, 284, 0, 284, 284, 284, 283, 284, 284, 0, 285, 284, 0, 284, 284, 284, 283, 284, 284, 0, 285, 285, 285, 285, 284, 0, 284, 284, 284, 283, 284, 284, 287, 285, 285, 285, 277, 277, 277, 277, 0, 277, 277, 277, 277, 277, 277, 277, 0, 277, 277, 0, 277, 277, 277, 277, 0, 277, 0, 277, 277, 277, 277, 0, 277, 0, 277, 277, 277, 277, 0, 277, 0, 277, 277, 277, 277, 0, 277, 277, 0, 277, 0, 277, 0, 277, 277, 277, 0, 0, 277, 277, 277, 277, 277, 288, 288, 288, 0, 288, 289, 289, 0, 289, 289, 289, 288, 289, 289, 289, 0, 289, 289, 289, 288, 289, 289, 289, 0, 289, 289, 289, 288, 289, 289, 289, 0, 289, 289, 289, 288, 289, 289, 291, 257, 257, 257, 257, 257, 257, 3, 0, 257, 0, 0, 0, 0, 0, 0, 0, 257, 257, 3, 0, 257, 257, 0, 0, 0, 0, 0, 0, 257, 257, 257, 0, 257, 0, 0, 257, 257, 0, 0, 0, 0, 0, 257, 257, 257, 257, 0, 0, 0, 0, 0, 257, 257, 257, 0, 257, 0, 0, 0, 257, 257, 256, 256, 1, 257, 0, 0]
noncomputable def tr14 : List Nat := [115, 114, 257, 257, 258, 258, 257, 257, 2, 259, 259, 257, 257, 256, 256, 1, 259, 257, 256, 256, 256, 256, 257, 1, 267, 267, 267, 0, 267, 267, 260, 260, 3, 0, 0, 0, 268, 268, 0, 268, 268, 268, 268, 0, 268, 268, 268, 268, 269, 269, 269, 0, 269, 269, 269, 269, 269, 269, 269, 269, 271, 271, 259, 258, 267, 267, 267, 0, 267, 267, 271, 262, 262, 262, 0, 262, 262, 0, 260, 271, 265, 265, 265, 0, 265, 265, 0, 0, 270, 270, 270, 270, 269, 0, 269, 269, 269, 269, 269, 269, 269, 269, 271, 271, 259, 258, 267, 267, 267, 0, 267, 267, 271, 262, 262, 262, 0, 262, 262, 0, 260, 271, 265, 265, 265, 0, 265, 265, 0, 0, 270, 270, 270, 270, 269, 0, 269, 269, 269, 269, 269, 269, 269, 269, 271, 271, 259, 258, 267, 267, 267, 0, 267, 267, 271, 262, 262, 262, 0, 262, 262, 0, 260, 271, 265, 265, 265, 0, 265, 265, 0, 0, 270, 270, 270, 270, 269, 0, 269, 269, 269, 269, 273, 271, 271, 271, 270, 270, 270, 0, 270, 274, 274, 0, 274, 274, 274, 270, 274, 274, 274, 0, 274, 274, 274, 270, 274, 274, 274, 0, 274, 274, 274, 270, 274, 274, 274, 0, 274, 274, 274, 270, 274, 274, 276, 257, 257, 257, 257, 257, 257, 3, 257, 257, 257, 21, 0, 21, 20, 277, 277, 277, 277, 277, 277, 2, 3, 0, 277, 277, 277, 0, 278, 278, 0, 278, 279, 280, 279, 0, 279, 279, 279, 278, 279, 279, 280, 280, 280, 280, 279, 0, 279, 279, 279, 278, 279, 279, 0, 280, 279, 0, 279, 279, 279, 278, 279, 279, 0, 280, 279, 0, 279, 279, 279, 278, 279, 279, 282, 280, 280, 280, 277, 277, 3, 0, 277, 277, 277, 0, 283, 283, 0, 283, 284, 285, 284, 0, 284, 284, 284, 283, 284, 284, 285, 285, 285, 285, 284, 0, 284, 284, 284, 283, 284, 284, 0, 285, 284, 0, 284, 284, 284, 283, 284, 284, 0, 285, 284, 0, 284, 284, 284, 283, 284, 284, 287, 285, 285, 285, 277, 277, 277, 277, 0, 277, 277, 277, 277, 277, 277, 277, 0, 277, 288, 288, 288, 0, 288, 289, 289, 0, 289, 289, 289, 288, 289, 289, 289, 0, 289, 289, 289, 288, 289, 289, 289, 0, 289, 289, 289, 288, 289, 289, 289, 0, 289, 289, 289, 288, 289, 289, 291, 257, 257, 257, 257, 257, 257, 3, 0, 257, 0, 0, 0, 0, 0, 0, 0, 257, 257, 3, 0, 257, 257, 0, 0, 0, 0, 0, 0, 257, 257, 257, 0]
noncomputable def tr2n : List Nat := [115, 114, 257, 257, 258, 258, 257, 257, 2, 259, 259, 257, 257, 256, 256, 1, 260, 260, 3, 0, 0, 0, 269, 269, 0, 269, 269, 269, 269, 0, 269, 269, 269, 269, 270, 270, 270, 0, 270, 270, 270, 270, 270, 270, 270, 270, 272, 272, 259, 258, 267, 267, 267, 0, 267, 267, 272, 263, 263, 263, 0, 263, 263, 0, 260, 272, 268, 268, 268, 0, 268, 268, 0, 0, 271, 271, 271, 271, 270, 0, 270, 270, 270, 270, 270, 270, 270, 270, 272, 272, 259, 258, 267, 267, 267, 0, 267, 267, 272, 263, 263, 263, 0, 263, 263, 0, 260, 272, 268, 268, 268, 0, 268, 268, 0, 0, 271, 271, 271, 271, 270, 0, 270, 270, 270, 270, 270, 270, 270, 270, 272, 272, 259, 258, 267, 267, 267, 0, 267, 267, 272, 263, 263, 263, 0, 263, 263, 0, 260, 272, 268, 268, 268, 0, 268, 268, 0, 0, 271, 271, 271, 271, 270, 0, 270, 270, 270, 270, 274, 272, 272, 272, 271, 271, 271, 0, 271, 275, 275, 0, 275, 275, 275, 271, 275, 275, 275, 0, 275, 275, 275, 271, 275, 275, 275, 0, 275, 275, 275, 271, 275, 275, 275, 0, 275, 275, 275, 271, 275, 275, 277, 257, 257, 257, 257, 257, 257, 3, 257, 257, 257, 21, 0, 21, 20, 278, 278, 278, 278, 278, 278, 2, 3, 0, 278, 278, 278, 0, 279, 279, 0, 279, 280, 281, 280, 0, 280, 280, 280, 279, 280, 280, 281, 281, 281, 281, 280, 0, 280, 280, 280, 279, 280, 280, 0, 281, 281, 281, 281, 280, 0, 280, 280, 280, 279, 280, 280, 0, 281, 280, 0, 280, 280, 280, 279, 280, 280, 283, 281, 281, 281, 278, 278, 3, 0, 278, 278, 278, 0, 284, 284, 0, 284, 285, 286, 285, 0, 285, 285, 285, 284, 285, 285, 286, 286, 286, 286, 285, 0, 285, 285, 285, 284, 285, 285, 0, 286, 285, 0, 285, 285, 285, 284, 285, 285, 0, 286, 285, 0, 285, 285, 285, 284, 285, 285, 288, 286, 286, 286, 278, 278, 278, 278, 0, 278, 278, 278, 278, 278, 278, 278, 0, 278, 278, 0, 278, 278, 278, 278, 0, 278, 0, 278, 278, 278, 278, 0, 278, 0, 278, 278, 278, 278, 0, 278, 0, 278, 278, 278, 278, 0, 278, 278, 0, 278, 0, 278, 0, 278, 278, 278, 0, 0, 278, 278, 278, 278, 278, 289, 289, 289, 0, 289, 290, 290, 0, 290, 290, 290, 289, 290, 290, 290, 0, 290, 290, 290, 289, 290, 290, 290, 0, 290, 290, 290, 289, 290, 290, 290, 0, 290, 290, 290, 289, 290, 290, 292, 257, 257, 257, 257, 257, 257, 3, 0, 257, 0, 0, 0, 0, 0, 0, 0, 257, 257, 3, 0, 257, 257, 0, 0, 0, 0, 0, 0, 257, 257, 257, 0, 257, 0, 0, 257, 0, 257, 257, 257, 0, 257, 0, 0, 257, 257, 257, 256, 256, 1]
noncomputable def tr20 : List Nat := [115, 114, 257, 257, 258, 258, 257, 257, 2, 259, 259, 257, 257, 256, 256, 1, 259, 257, 256, 256, 256, 256, 257, 1, 267, 267, 267, 0, 267, 267, 260, 260, 3, 0, 0, 0, 268, 268, 0, 268, 268, 268, 268, 0, 268, 268, 268, 268, 269, 269, 269, 0, 269, 269, 269, 269, 269, 269, 269, 269, 271, 271, 259, 258, 267, 267, 267, 0, 267, 267, 271, 263, 263, 263, 0, 263, 263, 0, 260, 271, 261, 261, 261, 0, 261, 261, 0, 0, 270, 270, 270, 270, 269, 0, 269, 269, 269, 269, 269, 269, 269, 269, 271, 271, 259, 258, 267, 267, 267, 0, 267, 267, 271, 263, 263, 263, 0, 263, 263, 0, 260, 271, 261, 261, 261, 0, 261, 261, 0, 0, 270, 270, 270, 270, 269, 0, 269, 269, 269, 269, 269, 269, 269, 269, 271, 271, 259, 258, 267, 267, 267, 0, 267, 267, 271, 263, 263, 263, 0, 263, 263, 0, 260, 271, 261, 261, 261, 0, 261, 261, 0, 0, 270, 270, 270, 270, 269, 0, 269, 269, 269, 269, 273, 271, 271, 271, 270, 270, 270, 0, 270, 274, 274, 0, 274, 274, 274, 270, 274, 274, 274, 0, 274, 274, 274, 270, 274, 274, 274, 0, 274, 274, 274, 270, 274, 274, 274, 0, 274, 274, 274, 270, 274, 274, 276, 257, 257, 257, 257, 257, 257, 3, 257, 257, 257, 21, 0, 21, 20, 277, 277, 277, 277, 277, 277, 2, 3, 0, 277, 277, 277, 0, 278, 278, 0, 278, 279, 280, 279, 0, 279, 279, 279, 278, 279, 279, 280, 280, 280, 280, 279, 0, 279, 279, 279, 278, 279, 279, 0, 280, 279, 0, 279, 279, 279, 278, 279, 279, 0, 280, 279, 0, 279, 279, 279, 278, 279, 279, 282, 280, 280, 280, 277, 277, 3, 0, 277, 277, 277, 0, 283, 283, 0, 283, 284, 285, 284, 0, 284, 284, 284, 283, 284, 284, 285, 285, 285, 285, 284, 0, 284, 284, 284, 283, 284, 284, 0, 285, 284, 0, 284, 284, 284, 283, 284, 284, 0, 285, 285, 285, 285, 284, 0, 284, 284, 284, 283, 284, 284, 287, 285, 285, 285, 277, 277, 277, 277, 0, 277, 277, 277, 277, 277, 277, 277, 0, 277, 277, 0, 277, 277, 277, 277, 0, 277, 0, 277, 277, 277, 277, 0, 277, 0, 277, 277, 277, 277, 0, 277, 0, 277, 277, 277, 277, 0, 277, 277, 0, 277, 277, 277, 0, 0, 277, 277, 277, 277, 277, 288, 288, 288, 0, 288, 289, 289, 0, 289, 289, 289, 288, 289, 289, 289, 0, 289, 289, 289, 288, 289, 289, 289, 0, 289, 289, 289, 288, 289, 289, 289, 0, 289, 289, 289, 288, 289, 289, 291, 257, 257, 257, 257, 257, 257, 3, 0, 257, 0, 0, 0, 0, 0, 0, 0, 257, 257, 3, 0, 257, 257, 0, 0, 0, 0, 0, 0, 257, 257, 257, 0, 257, 0, 0, 257, 0, 257, 257, 257, 0, 257, 0, 0, 257, 0, 257, 0, 0, 257, 257, 256, 256, 1, 257, 0, 0]
noncomputable def tr22 : List Nat := [115, 114, 257, 257, 258, 258, 257, 257, 2, 259, 259, 257, 257, 256, 256, 1, 259, 257, 256, 256, 256, 256, 257, 1, 267, 267, 267, 0, 267, 267, 260, 260, 3, 0, 0, 0, 268, 268, 0, 268, 268, 268, 268, 0, 268, 268, 268, 268, 269, 269, 269, 0, 269, 269, 269, 269, 269, 269, 269, 269, 271, 271, 259, 258, 267, 267, 267, 0, 267, 267, 271, 263, 263, 263, 0, 263, 263, 0, 260, 271, 263, 263, 263, 0, 263, 263, 0, 0, 270, 270, 270, 270, 269, 0, 269, 269, 269, 269, 269, 269, 269, 269, 271, 271, 259, 258, 267, 267, 267, 0, 267, 267, 271, 263, 263, 263, 0, 263, 263, 0, 260, 271, 263, 263, 263, 0, 263, 263, 0, 0, 270, 270, 270, 270, 269, 0, 269, 269, 269, 269, 269, 269, 269, 269, 271, 271, 259, 258, 267, 267, 267, 0, 267, 267, 271, 263, 263, 263, 0, 263, 263, 0, 260, 271, 263, 263, 263, 0, 263, 263, 0, 0, 270, 270, 270, 270, 269, 0, 269, 269, 269, 269, 273, 271, 271, 271, 270, 270, 270, 0, 270, 274, 274, 0, 274, 274, 274, 270, 274, 274, 274, 0, 274, 274, 274, 270, 274, 274, 274, 0, 274, 274, 274, 270, 274, 274, 274, 0, 274, 274, 274, 270, 274, 274, 276, 257, 257, 257, 257, 257, 257, 3, 257, 257, 257, 21, 0, 21, 20, 277, 277, 277, 277, 277, 277, 2, 3, 0, 277, 277, 277, 0, 278, 278, 0, 278, 279, 280, 279, 0, 279, 279, 279, 278, 279, 279, 280, 280, 280, 280, 279, 0, 279, 279, 279, 278, 279, 279, 0, 280, 280, 280, 280, 279, 0, 279, 279, 279, 278, 279, 279, 0, 280, 279, 0, 279, 279, 279, 278, 279, 279, 282, 280, 280, 280, 277, 277, 3, 0, 277, 277, 277, 0, 283, 283, 0, 283, 284, 285, 284, 0, 284, 284, 284, 283, 284, 284, 285, 285, 285, 285, 284, 0, 284, 284, 284, 283, 284, 284, 0, 285, 284, 0, 284, 284, 284, 283, 284, 284, 0, 285, 284, 0, 284, 284, 284, 283, 284, 284, 287, 285, 285, 285, 277, 277, 277, 277, 0, 277, 277, 277, 277, 277, 277, 277, 0, 277, 277, 0, 277, 277, 277, 277, 0, 277, 0, 277, 277, 277, 277, 0, 277, 0, 277, 277, 277, 277, 0, 277, 0, 277, 277, 277, 277, 0, 277, 277, 0, 277, 0, 277, 0, 277, 277, 277, 0, 0, 277, 277, 277, 277, 277, 288, 288, 288, 0, 288, 289, 289, 0, 289, 289, 289, 288, 289, 289, 289, 0, 289, 289, 289, 288, 289, 289, 289, 0, 289, 289, 289, 288, 289, 289, 289, 0, 289, 289, 289, 288, 289, 289, 291, 257, 257, 257, 257, 257, 257, 3, 0, 257, 0, 0, 0, 0, 0, 0, 0, 257, 257, 3, 0, 257, 257, 0, 0, 0, 0, 0, 0, 257, 257, 257, 0, 257, 0, 0, 257, 0, 257, 257, 257, 0, 257, 0, 257, 0, 0]
noncomputable def tr24 : List Nat := [115, 114, 257, 257, 258, 258, 257, 257, 2, 259, 259, 257, 257, 256, 256, 1, 259, 257, 256, 256, 256, 256, 257, 1, 267, 267, 267, 0, 267, 267, 260, 260, 3, 0, 0, 0, 268, 268, 0, 268, 268, 268, 268, 0, 268, 268, 268, 268, 269, 269, 269, 0, 269, 269, 269, 269, 269, 269, 269, 269, 271, 271, 259, 258, 267, 267, 267, 0, 267, 267, 271, 263, 263, 263, 0, 263, 263, 0, 260, 271, 265, 265, 265, 0, 265, 265, 0, 0, 270, 270, 270, 270, 269, 0, 269, 269, 269, 269, 269, 269, 269, 269, 271, 271, 259, 258, 267, 267, 267, 0, 267, 267, 271, 263, 263, 263, 0, 263, 263, 0, 260, 271, 265, 265, 265, 0, 265, 265, 0, 0, 270, 270, 270, 270, 269, 0, 269, 269, 269, 269, 269, 269, 269, 269, 271, 271, 259, 258, 267, 267, 267, 0, 267, 267, 271, 263, 263, 263, 0, 263, 263, 0, 260, 271, 265, 265, 265, 0, 265, 265, 0, 0, 270, 270, 270, 270, 269, 0, 269, 269, 269, 269, 273, 271, 271, 271, 270, 270, 270, 0, 270, 274, 274, 0, 274, 274, 274, 270, 274, 274, 274, 0, 274, 274, 274, 270, 274, 274, 274, 0, 274, 274, 274, 270, 274, 274, 274, 0, 274, 274, 274, 270, 274, 274, 276, 257, 257, 257, 257, 257, 257, 3, 257, 257, 257, 21, 0, 21, 20, 277, 277, 277, 277, 277, 277, 2, 3, 0, 277, 277, 277, 0, 278, 278, 0, 278, 279, 280, 279, 0, 279, 279, 279, 278, 279, 279, 280, 280, 280, 280, 279, 0, 279, 279, 279, 278, 279, 279, 0, 280, 280, 280, 280, 279, 0, 279, 279, 279, 278, 279, 279, 0, 280, 279, 0, 279, 279, 279, 278, 279, 279, 282, 280, 280, 280, 277, 277, 3, 0, 277, 277, 277, 0, 283, 283, 0, 283, 284, 285, 284, 0, 284, 284, 284, 283, 284, 284, 285, 285, 285, 285, 284, 0, 284, 284, 284, 283, 284, 284, 0, 285, 284, 0, 284, 284, 284, 283, 284, 284, 0, 285, 284, 0, 284, 284, 284, 283, 284, 284, 287, 285, 285, 285, 277, 277, 277, 277, 0, 277, 277, 277, 277, 277, 277, 277, 0, 277, 277, 0, 277, 277, 277, 277, 0, 277, 0, 277, 277, 277, 277, 0, 277, 0, 277, 277, 277, 277, 0, 277, 0, 277, 277, 277, 277, 0, 277, 277, 0, 277, 0, 277, 0, 277, 277, 277, 0, 0, 277, 277, 277, 277, 277, 288, 288, 288, 0, 288, 289, 289, 0, 289, 289, 289, 288, 289, 289, 289, 0, 289, 289, 289, 288, 289, 289, 289, 0, 289, 289, 289, 288, 289, 289, 289, 0, 289, 289, 289, 288, 289, 289, 291, 257, 257, 257, 257, 257, 257, 3, 0, 257, 0, 0, 0, 0, 0, 0, 0, 257, 257, 3, 0, 257, 257, 0, 0, 0, 0, 0, 0, 257, 257, 257, 0, 257, 0, 0, 257, 0, 257, 257, 257, 0, 257, 0, 0, 257, 0, 257, 0, 0, 257, 257, 256, 256, 1, 257, 0, 0]
noncomputable def tr3n : List Nat := [115, 114, 257, 257, 258, 258, 257, 257, 2, 259, 259, 257, 257, 256, 256, 1, 260, 260, 3, 0, 0, 0, 269, 269, 0, 269, 269, 269, 269, 0, 269, 269, 269, 269, 270, 270, 270, 0, 270, 270, 270, 270, 270, 270, 270, 270, 272, 272, 259, 258, 267, 267, 267, 0, 267, 267, 272, 264, 264, 264, 0, 264, 264, 0, 260, 272, 268, 268, 268, 0, 268, 268, 0, 0, 271, 271, 271, 271, 270, 0, 270, 270, 270, 270, 270, 270, 270, 270, 272, 272, 259, 258, 267, 267, 267, 0, 267, 267, 272, 264, 264, 264, 0, 264, 264, 0, 260, 272, 268, 268, 268, 0, 268, 268, 0, 0, 271, 271, 271, 271, 270, 0, 270, 270, 270, 270, 270, 270, 270, 270, 272, 272, 259, 258, 267, 267, 267, 0, 267, 267, 272, 264, 264, 264, 0, 264, 264, 0, 260, 272, 268, 268, 268, 0, 268, 268, 0, 0, 271, 271, 271, 271, 270, 0, 270, 270, 270, 270, 274, 272, 272, 272, 271, 271, 271, 0, 271, 275, 275, 0, 275, 275, 275, 271, 275, 275, 275, 0, 275, 275, 275, 271, 275, 275, 275, 0, 275, 275, 275, 271, 275, 275, 275, 0, 275, 275, 275, 271, 275, 275, 277, 257, 257, 257, 257, 257, 257, 3, 257, 257, 257, 21, 0, 21, 20, 278, 278, 278, 278, 278, 278, 2, 3, 0, 278, 278, 278, 0, 279, 279, 0, 279, 280, 281, 280, 0, 280, 280, 280, 279, 280, 280, 281, 281, 281, 281, 280, 0, 280, 280, 280, 279, 280, 280, 0, 281, 281, 281, 281, 280, 0, 280, 280, 280, 279, 280, 280, 0, 281, 280, 0, 280, 280, 280, 279, 280, 280, 283, 281, 281, 281, 278, 278, 3, 0, 278, 278, 278, 0, 284, 284, 0, 284, 285, 286, 285, 0, 285, 285, 285, 284, 285, 285, 286, 286, 286, 286, 285, 0, 285, 285, 285, 284, 285, 285, 0, 286, 285, 0, 285, 285, 285, 284, 285, 285, 0, 286, 285, 0, 285, 285, 285, 284, 285, 285, 288, 286, 286, 286, 278, 278, 278, 278, 0, 278, 278, 278, 278, 278, 278, 278, 0, 278, 278, 0, 278, 278, 278, 278, 0, 278, 0, 278, 278, 278, 278, 0, 278, 0, 278, 278, 278, 278, 0, 278, 0, 278, 278, 278, 278, 0, 278, 278, 0, 278, 0, 278, 0, 278, 278, 278, 0, 0, 278, 278, 278, 278, 278, 289, 289, 289, 0, 289, 290, 290, 0, 290, 290, 290, 289, 290, 290, 290, 0, 290, 290, 290, 289, 290, 290, 290, 0, 290, 290, 290, 289, 290, 290, 290, 0, 290, 290, 290, 289, 290, 290, 292, 257, 257, 257, 257, 257, 257, 3, 0, 257, 0, 0, 0, 0, 0, 0, 0, 257, 257, 3, 0, 257, 257, 0, 0, 0, 0, 0, 0, 257, 257, 257, 0, 257, 0, 0, 257, 0, 257, 257, 257, 0, 257, 0, 0, 257, 0, 257, 0, 0, 257, 257, 256, 256, 1, 257, 0, 0]
noncomputable def tr30 : List Nat := [115, 114, 257, 257, 258, 258, 257, 257, 2, 259, 259, 257, 257, 256, 256, 1, 259, 257, 256, 256, 256, 256, 257, 1, 267, 267, 267, 0, 267, 267, 260, 260, 3, 0, 0, 0, 268, 268, 0, 268, 268, 268, 268, 0, 268, 268, 268, 268, 269, 269, 269, 0, 269, 269, 269, 269, 269, 269, 269, 269, 271, 271, 259, 258, 267, 267, 267, 0, 267, 267, 271, 264, 264, 264, 0, 264, 264, 0, 260, 271, 261, 261, 261, 0, 261, 261, 0, 0, 270, 270, 270, 270, 269, 0, 269, 269, 269, 269, 269, 269, 269, 269, 271, 271, 259, 258, 267, 267, 267, 0, 267, 267, 271, 264, 264, 264, 0, 264, 264, 0, 260, 271, 261, 261, 261, 0, 261, 261, 0, 0, 270, 270, 270, 270, 269, 0, 269, 269, 269, 269, 269, 269, 269, 269, 271, 271, 259, 258, 267, 267, 267, 0, 267, 267, 271, 264, 264, 264, 0, 264, 264, 0, 260, 271, 261, 261, 261, 0, 261, 261, 0, 0, 270, 270, 270, 270, 269, 0, 269, 269, 269, 269, 273, 271, 271, 271, 270, 270, 270, 0, 270, 274, 274, 0, 274, 274, 274, 270, 274, 274, 274, 0, 274, 274, 274, 270, 274, 274, 274, 0, 274, 274, 274, 270, 274, 274, 274, 0, 274, 274, 274, 270, 274, 274, 276, 257, 257, 257, 257, 257, 257, 3, 257, 257, 257, 21, 0, 21, 20, 277, 277, 277, 277, 277, 277, 2, 3, 0, 277, 277, 277, 0, 278, 278, 0, 278, 279, 280, 279, 0, 279, 279, 279, 278, 279, 279, 280, 280, 280, 280, 279, 0, 279, 279, 279, 278, 279, 279, 0, 280, 279, 0, 279, 279, 279, 278, 279, 279, 0, 280, 279, 0, 279, 279, 279, 278, 279, 279, 282, 280, 280, 280, 277, 277, 3, 0, 277, 277, 277, 0, 283, 283, 0, 283, 284, 285, 284, 0, 284, 284, 284, 283, 284, 284, 285, 285, 285, 285, 284, 0, 284, 284, 284, 283, 284, 284, 0, 285, 284, 0, 284, 284, 284, 283, 284, 284, 0, 285, 284, 0, 284, 284, 284, 283, 284, 284, 287, 285, 285, 285, 277, 277, 277, 277, 0, 277, 277, 277, 277, 277, 277, 277, 0, 277, 288, 288, 288, 0, 288, 289, 289, 0, 289, 289, 289, 288, 289, 289, 289, 0, 289, 289, 289, 288, 289, 289, 289, 0, 289, 289, 289, 288, 289, 289, 289, 0, 289, 289, 289, 288, 289, 289, 291, 257, 257, 257, 257, 257, 257, 3, 0, 257, 0, 0, 0, 0, 0, 0, 0, 257, 257, 3, 0, 257, 257, 0, 0, 0, 0, 0, 0, 257, 257, 257, 0]
noncomputable def tr32 : List Nat := [115, 114, 257, 257, 258, 258, 257, 257, 2, 259, 259, 257, 257, 256, 256, 1, 259, 257, 256, 256, 256, 256, 257, 1, 267, 267, 267, 0, 267, 267, 260, 260, 3, 0, 0, 0, 268, 268, 0, 268, 268, 268, 268, 0, 268, 268, 268, 268, 269, 269, 269, 0, 269, 269, 269, 269, 269, 269, 269, 269, 271, 271, 259, 258, 267, 267, 267, 0, 267, 267, 271, 264, 264, 264, 0, 264, 264, 0, 260, 271, 263, 263, 263, 0, 263, 263, 0, 0, 270, 270, 270, 270, 269, 0, 269, 269, 269, 269, 269, 269, 269, 269, 271, 271, 259, 258, 267, 267, 267, 0, 267, 267, 271, 264, 264, 264, 0, 264, 264, 0, 260, 271, 263, 263, 263, 0, 263, 263, 0, 0, 270, 270, 270, 270, 269, 0, 269, 269, 269, 269, 269, 269, 269, 269, 271, 271, 259, 258, 267, 267, 267, 0, 267, 267, 271, 264, 264, 264, 0, 264, 264, 0, 260, 271, 263, 263, 263, 0, 263, 263, 0, 0, 270, 270, 270, 270, 269, 0, 269, 269, 269, 269, 273, 271, 271, 271, 270, 270, 270, 0, 270, 274, 274, 0, 274, 274, 274, 270, 274, 274, 274, 0, 274, 274, 274, 270, 274, 274, 274, 0, 274, 274, 274, 270, 274, 274, 274, 0, 274, 274, 274, 270, 274, 274, 276, 257, 257, 257, 257, 257, 257, 3, 257, 257, 257, 21, 0, 21, 20, 277, 277, 277, 277, 277, 277, 2, 3, 0, 277, 277, 277, 0, 278, 278, 0, 278, 279, 280, 279, 0, 279, 279, 279, 278, 279, 279, 280, 280, 280, 280, 279, 0, 279, 279, 279, 278, 279, 279, 0, 280, 280, 280, 280, 279, 0, 279, 279, 279, 278, 279, 279, 0, 280, 279, 0, 279, 279, 279, 278, 279, 279, 282, 280, 280, 280, 277, 277, 3, 0, 277, 277, 277, 0, 283, 283, 0, 283, 284, 285, 284, 0, 284, 284, 284, 283, 284, 284, 285, 285, 285, 285, 284, 0, 284, 284, 284, 283, 284, 284, 0, 285, 284, 0, 284, 284, 284, 283, 284, 284, 0, 285, 284, 0, 284, 284, 284, 283, 284, 284, 287, 285, 285, 285, 277, 277, 277, 277, 0, 277, 277, 277, 277, 277, 277, 277, 0, 277, 277, 0, 277, 277, 277, 277, 0, 277, 0, 277, 277, 277, 277, 0, 277, 0, 277, 277, 277, 277, 0, 277, 0, 277, 277, 277, 277, 0, 277, 277, 0, 277, 0, 277, 0, 277, 277, 277, 0, 0, 277, 277, 277, 277, 277, 288, 288, 288, 0, 288, 289, 289, 0, 289, 289, 289, 288, 289, 289, 289, 0, 289, 289, 289, 288, 289, 289, 289, 0, 289, 289, 289, 288, 289, 289, 289, 0, 289, 289, 289, 288, 289, 289, 291, 257, 257, 257, 257, 257, 257, 3, 0, 257, 0, 0, 0, 0, 0, 0, 0, 257, 257, 3, 0, 257, 257, 0, 0, 0, 0, 0, 0, 257, 257, 257, 0, 257, 0, 0, 257, 257, 0, 0, 0, 0, 0, 257, 257, 257, 257, 0, 0, 0, 0, 0, 257, 257, 257, 0, 257, 0, 0, 0, 257, 257, 256, 256, 1, 257, 0, 0]
noncomputable def tr34 : List Nat := [115, 114, 257, 257, 258, 258, 257, 257, 2, 259, 259, 257, 257, 256, 256, 1, 259, 257, 256, 256, 256, 256, 257, 1, 267, 267, 267, 0, 267, 267, 260, 260, 3, 0, 0, 0, 268, 268, 0, 268, 268, 268, 268, 0, 268, 268, 268, 268, 269, 269, 269, 0, 269, 269, 269, 269, 269, 269, 269, 269, 271, 271, 259, 258, 267, 267, 267, 0, 267, 267, 271, 264, 264, 264, 0, 264, 264, 0, 260, 271, 265, 265, 265, 0, 265, 265, 0, 0, 270, 270, 270, 270, 269, 0, 269, 269, 269, 269, 269, 269, 269, 269, 271, 271, 259, 258, 267, 267, 267, 0, 267, 267, 271, 264, 264, 264, 0, 264, 264, 0, 260, 271, 265, 265, 265, 0, 265, 265, 0, 0, 270, 270, 270, 270, 269, 0, 269, 269, 269, 269, 269, 269, 269, 269, 271, 271, 259, 258, 267, 267, 267, 0, 267, 267, 271, 264, 264, 264, 0, 264, 264, 0, 260, 271, 265, 265, 265, 0, 265, 265, 0, 0, 270, 270, 270, 270, 269, 0, 269, 269, 269, 269, 273, 271, 271, 271, 270, 270, 270, 0, 270, 274, 274, 0, 274, 274, 274, 270, 274, 274, 274, 0, 274, 274, 274, 270, 274, 274, 274, 0, 274, 274, 274, 270, 274, 274, 274, 0, 274, 274, 274, 270, 274, 274, 276, 257, 257, 257, 257, 257, 257, 3, 257, 257, 257, 21, 0, 21, 20, 277, 277, 277, 277, 277, 277, 2, 3, 0, 277, 277, 277, 0, 278, 278, 0, 278, 279, 280, 279, 0, 279, 279, 279, 278, 279, 279, 280, 280, 280, 280, 279, 0, 279, 279, 279, 278, 279, 279, 0, 280, 280, 280, 280, 279, 0, 279, 279, 279, 278, 279, 279, 0, 280, 280, 280, 280, 279, 0, 279, 279, 279, 278, 279, 279, 282, 280, 280, 280, 277, 277, 3, 0, 277, 277, 277, 0, 283, 283, 0, 283, 284, 285, 284, 0, 284, 284, 284, 283, 284, 284, 285, 285, 285, 285, 284, 0, 284, 284, 284, 283, 284, 284, 0, 285, 284, 0, 284, 284, 284, 283, 284, 284, 0, 285, 284, 0, 284, 284, 284, 283, 284, 284, 287, 285, 285, 285, 277, 277, 277, 277, 0, 277, 277, 277, 277, 277, 277, 277, 0, 277, 277, 0, 277, 277, 277, 277, 0, 277, 0, 277, 277, 277, 277, 0, 277, 0, 277, 277, 277, 277, 0, 277, 0, 277, 277, 277, 277, 0, 277, 277, 0, 277, 0, 277, 0, 277, 277, 277, 0, 0, 277, 277, 277, 277, 277, 288, 288, 288, 0, 288, 289, 289, 0, 289, 289, 289, 288, 289, 289, 289, 0, 289, 289, 289, 288, 289, 289, 289, 0, 289, 289, 289, 288, 289, 289, 289, 0, 289, 289, 289, 288, 289, 289, 291, 257, 257, 257, 257, 257, 257, 3, 0, 257, 0, 0, 0, 0, 0, 0, 0, 257, 257, 3, 0, 257, 257, 0, 0, 0, 0, 0, 0, 257, 257, 257, 0, 257, 0, 0, 257, 257, 0, 0, 0, 0, 0, 257, 257, 257, 257, 0, 0, 0, 0, 0, 257, 257, 257, 0, 257, 0, 0, 0, 257, 257, 256, 256, 1, 257, 0, 0]
noncomputable def tr4n : List Nat := [115, 114, 257, 257, 258, 258, 257, 257, 2, 259, 259, 257, 257, 256, 256, 1, 260, 260, 3, 0, 0, 0, 269, 269, 0, 269, 269, 269, 269, 0, 269, 269, 269, 269, 270, 270, 270, 0, 270, 270, 270, 270, 270, 270, 270, 270, 272, 272, 259, 258, 267, 267, 267, 0, 267, 267, 272, 265, 265, 265, 0, 265, 265, 0, 260, 272, 268, 268, 268, 0, 268, 268, 0, 0, 271, 271, 271, 271, 270, 0, 270, 270, 270, 270, 270, 270, 270, 270, 272, 272, 259, 258, 267, 267, 267, 0, 267, 267, 272, 265, 265, 265, 0, 265, 265, 0, 260, 272, 268, 268, 268, 0, 268, 268, 0, 0, 271, 271, 271, 271, 270, 0, 270, 270, 270, 270, 270, 270, 270, 270, 272, 272, 259, 258, 267, 267, 267, 0, 267, 267, 272, 265, 265, 265, 0, 265, 265, 0, 260, 272, 268, 268, 268, 0, 268, 268, 0, 0, 271, 271, 271, 271, 270, 0, 270, 270, 270, 270, 274, 272, 272, 272, 271, 271, 271, 0, 271, 275, 275, 0, 275, 275, 275, 271, 275, 275, 275, 0, 275, 275, 275, 271, 275, 275, 275, 0, 275, 275, 275, 271, 275, 275, 275, 0, 275, 275, 275, 271, 275, 275, 277, 257, 257, 257, 257, 257, 257, 3, 257, 257, 257, 21, 0, 21, 20, 278, 278, 278, 278, 278, 278, 2, 3, 0, 278, 278, 278, 0, 279, 279, 0, 279, 280, 281, 280, 0, 280, 280, 280, 279, 280, 280, 281, 281, 281, 281, 280, 0, 280, 280, 280, 279, 280, 280, 0, 281, 280, 0, 280, 280, 280, 279, 280, 280, 0, 281, 281, 281, 281, 280, 0, 280, 280, 280, 279, 280, 280, 283, 281, 281, 281, 278, 278, 3, 0, 278, 278, 278, 0, 284, 284, 0, 284, 285, 286, 285, 0, 285, 285, 285, 284, 285, 285, 286, 286, 286, 286, 285, 0, 285, 285, 285, 284, 285, 285, 0, 286, 285, 0, 285, 285, 285, 284, 285, 285, 0, 286, 285, 0, 285, 285, 285, 284, 285, 285, 288, 286, 286, 286, 278, 278, 278, 278, 0, 278, 278, 278, 278, 278, 278, 278, 0, 278, 278, 0, 278, 278, 278, 278, 0, 278, 0, 278, 278, 278, 278, 0, 278, 0, 278, 278, 278, 278, 0, 278, 0, 278, 278, 278, 278, 0, 278, 278, 0, 278, 0, 278, 0, 278, 278, 278, 0, 0, 278, 278, 278, 278, 278, 289, 289, 289, 0, 289, 290, 290, 0, 290, 290, 290, 289, 290, 290, 290, 0, 290, 290, 290, 289, 290, 290, 290, 0, 290, 290, 290, 289, 290, 290, 290, 0, 290, 290, 290, 289, 290, 290, 292, 257, 257, 257, 257, 257, 257, 3, 0, 257, 0, 0, 0, 0, 0, 0, 0, 257, 257, 3, 0, 257, 257, 0, 0, 0, 0, 0, 0, 257, 257, 257, 0, 257, 0, 0, 257, 0, 257, 257, 257, 0, 257, 0, 0, 257, 257, 257, 256, 256, 1]
noncomputable def tr40 : List Nat := [115, 114, 257, 257, 258, 258, 257, 257, 2, 259, 259, 257, 257, 256, 256, 1, 259, 257, 256, 256, 256, 256, 257, 1, 267, 267, 267, 0, 267, 267, 260, 260, 3, 0, 0, 0, 268, 268, 0, 268, 268, 268, 268, 0, 268, 268, 268, 268, 269, 269, 269, 0, 269, 269, 269, 269, 269, 269, 269, 269, 271, 271, 259, 258, 267, 267, 267, 0, 267, 267, 271, 265, 265, 265, 0, 265, 265, 0, 260, 271, 261, 261, 261, 0, 261, 261, 0, 0, 270, 270, 270, 270, 269, 0, 269, 269, 269, 269, 269, 269, 269, 269, 271, 271, 259, 258, 267, 267, 267, 0, 267, 267, 271, 265, 265, 265, 0, 265, 265, 0, 260, 271, 261, 261, 261, 0, 261, 261, 0, 0, 270, 270, 270, 270, 269, 0, 269, 269, 269, 269, 269, 269, 269, 269, 271, 271, 259, 258, 267, 267, 267, 0, 267, 267, 271, 265, 265, 265, 0, 265, 265, 0, 260, 271, 261, 261, 261, 0, 261, 261, 0, 0, 270, 270, 270, 270, 269, 0, 269, 269, 269, 269, 273, 271, 271, 271, 270, 270, 270, 0, 270, 274, 274, 0, 274, 274, 274, 270, 274, 274, 274, 0, 274, 274, 274, 270, 274, 274, 274, 0, 274, 274, 274, 270, 274, 274, 274, 0, 274, 274, 274, 270, 274, 274, 276, 257, 257, 257, 257, 257, 257, 3, 257, 257, 257, 21, 0, 21, 20, 277, 277, 277, 277, 277, 277, 2, 3, 0, 277, 277, 277, 0, 278, 278, 0, 278, 279, 280, 279, 0, 279, 279, 279, 278, 279, 279, 280, 280, 280, 280, 279, 0, 279, 279, 279, 278, 279, 279, 0, 280, 279, 0, 279, 279, 279, 278, 279, 279, 0, 280, 279, 0, 279, 279, 279, 278, 279, 279, 282, 280, 280, 280, 277, 277, 3, 0, 277, 277, 277, 0, 283, 283, 0, 283, 284, 285, 284, 0, 284, 284, 284, 283, 284, 284, 285, 285, 285, 285, 284, 0, 284, 284, 284, 283, 284, 284, 0, 285, 285, 285, 285, 284, 0, 284, 284, 284, 283, 284, 284, 0, 285, 284, 0, 284, 284, 284, 283, 284, 284, 287, 285, 285, 285, 277, 277, 277, 277, 0, 277, 277, 277, 277, 277, 277, 277, 0, 277, 277, 0, 277, 277, 277, 277, 0, 277, 0, 277, 277, 277, 277, 0, 277, 0, 277, 277, 277, 277, 0, 277, 0, 277, 277, 277, 277, 0, 277, 277, 0, 277, 277, 277, 0, 0, 277, 277, 277, 277, 277, 288, 288, 288, 0, 288, 289, 289, 0, 289, 289, 289, 288, 289, 289, 289, 0, 289, 289, 289, 288, 289, 289, 289, 0, 289, 289, 289, 288, 289, 289, 289, 0, 289, 289, 289, 288, 289, 289, 291, 257, 257, 257, 257, 257, 257, 3, 0, 257, 0, 0, 0, 0, 0, 0, 0, 257, 257, 3, 0, 257, 257, 0, 0, 0, 0, 0, 0, 257, 257, 257, 0, 257, 0, 0, 257, 0, 257, 257, 257, 0, 257, 0, 0, 257, 0, 257, 0, 0, 257, 257, 256, 256, 1, 257, 0, 0]
noncomputable def tr42 : List Nat := [115, 114, 257, 257, 258, 258, 257, 257, 2, 259, 259, 257, 257, 256, 256, 1, 259, 257, 256, 256, 256, 256, 257, 1, 267, 267, 267, 0, 267, 267, 260, 260, 3, 0, 0, 0, 268, 268, 0, 268, 268, 268, 268, 0, 268, 268, 268, 268, 269, 269, 269, 0, 269, 269, 269, 269, 269, 269, 269, 269, 271, 271, 259, 258, 267, 267, 267, 0, 267, 267, 271, 265, 265, 265, 0, 265, 265, 0, 260, 271, 263, 263, 263, 0, 263, 263, 0, 0, 270, 270, 270, 270, 269, 0, 269, 269, 269, 269, 269, 269, 269, 269, 271, 271, 259, 258, 267, 267, 267, 0, 267, 267, 271, 265, 265, 265, 0, 265, 265, 0, 260, 271, 263, 263, 263, 0, 263, 263, 0, 0, 270, 270, 270, 270, 269, 0, 269, 269, 269, 269, 269, 269, 269, 269, 271, 271, 259, 258, 267, 267, 267, 0, 267, 267, 271, 265, 265, 265, 0, 265, 265, 0, 260, 271, 263, 263, 263, 0, 263, 263, 0, 0, 270, 270, 270, 270, 269, 0, 269, 269, 269, 269, 273, 271, 271, 271, 270, 270, 270, 0, 270, 274, 274, 0, 274, 274, 274, 270, 274, 274, 274, 0, 274, 274, 274, 270, 274, 274, 274, 0, 274, 274, 274, 270, 274, 274, 274, 0, 274, 274, 274, 270, 274, 274, 276, 257, 257, 257, 257, 257, 257, 3, 257, 257, 257, 21, 0, 21, 20, 277, 277, 277, 277, 277, 277, 2, 3, 0, 277, 277, 277, 0, 278, 278, 0, 278, 279, 280, 279, 0, 279, 279, 279, 278, 279, 279, 280, 280, 280, 280, 279, 0, 279, 279, 279, 278, 279, 279, 0, 280, 280, 280, 280, 279, 0, 279, 279, 279, 278, 279, 279, 0, 280, 279, 0, 279, 279, 279, 278, 279, 279, 282, 280, 280, 280, 277, 277, 3, 0, 277, 277, 277, 0, 283, 283, 0, 283, 284, 285, 284, 0, 284, 284, 284, 283, 284, 284, 285, 285, 285, 285, 284, 0, 284, 284, 284, 283, 284, 284, 0, 285, 284, 0, 284, 284, 284, 283, 284, 284, 0, 285, 284, 0, 284, 284, 284, 283, 284, 284, 287, 285, 285, 285, 277, 277, 277, 277, 0, 277, 277, 277, 277, 277, 277, 277, 0, 277, 277, 0, 277, 277, 277, 277, 0, 277, 0, 277, 277, 277, 277, 0, 277, 0, 277, 277, 277, 277, 0, 277, 0, 277, 277, 277, 277, 0, 277, 277, 0, 277, 0, 277, 0, 277, 277, 277, 0, 0, 277, 277, 277, 277, 277, 288, 288, 288, 0, 288, 289, 289, 0, 289, 289, 289, 288, 289, 289, 289, 0, 289, 289, 289, 288, 289, 289, 289, 0, 289, 289, 289, 288, 289, 289, 289, 0, 289, 289, 289, 288, 289, 289, 291, 257, 257, 257, 257, 257, 257, 3, 0, 257, 0, 0, 0, 0, 0, 0, 0, 257, 257, 3, 0, 257, 257, 0, 0, 0, 0, 0, 0, 257, 257, 257, 0, 257, 0, 0, 257, 0, 257, 257, 257, 0, 257, 0, 0, 257, 0, 257, 0, 0, 257, 257, 256, 256, 1, 257, 0, 0]
noncomputable def tr44 : List Nat := [115, 114, 257, 257, 258, 258, 257, 257, 2, 259, 259, 257, 257, 256, 256, 1, 259, 257, 256, 256, 256, 256, 257, 1, 267, 267, 267, 0, 267, 267, 260, 260, 3, 0, 0, 0, 268, 268, 0, 268, 268, 268, 268, 0, 268, 268, 268, 268, 269, 269, 269, 0, 269, 269, 269, 269, 269, 269, 269, 269, 271, 271, 259, 258, 267, 267, 267, 0, 267, 267, 271, 265, 265, 265, 0, 265, 265, 0, 260, 271, 265, 265, 265, 0, 265, 265, 0, 0, 270, 270, 270, 270, 269, 0, 269, 269, 269, 269, 269, 269, 269, 269, 271, 271, 259, 258, 267, 267, 267, 0, 267, 267, 271, 265, 265, 265, 0, 265, 265, 0, 260, 271, 265, 265, 265, 0, 265, 265, 0, 0, 270, 270, 270, 270, 269, 0, 269, 269, 269, 269, 269, 269, 269, 269, 271, 271, 259, 258, 267, 267, 267, 0, 267, 267, 271, 265, 265, 265, 0, 265, 265, 0, 260, 271, 265, 265, 265, 0, 265, 265, 0, 0, 270, 270, 270, 270, 269, 0, 269, 269, 269, 269, 273, 271, 271, 271, 270, 270, 270, 0, 270, 274, 274, 0, 274, 274, 274, 270, 274, 274, 274, 0, 274, 274, 274, 270, 274, 274, 274, 0, 274, 274, 274, 270, 274, 274, 274, 0, 274, 274, 274, 270, 274, 274, 276, 257, 257, 257, 257, 257, 257, 3, 257, 257, 257, 21, 0, 21, 20, 277, 277, 277, 277, 277, 277, 2, 3, 0, 277, 277, 277, 0, 278, 278, 0, 278, 279, 280, 279, 0, 279, 279, 279, 278, 279, 279, 280, 280, 280, 280, 279, 0, 279, 279, 279, 278, 279, 279, 0, 280, 279, 0, 279, 279, 279, 278, 279, 279, 0, 280, 280, 280, 280, 279, 0, 279, 279, 279, 278, 279, 279, 282, 280, 280, 280, 277, 277, 3, 0, 277, 277, 277, 0, 283, 283, 0, 283, 284, 285, 284, 0, 284, 284, 284, 283, 284, 284, 285, 285, 285, 285, 284, 0, 284, 284, 284, 283, 284, 284, 0, 285, 284, 0, 284, 284, 284, 283, 284, 284, 0, 285, 284, 0, 284, 284, 284, 283, 284, 284, 287, 285, 285, 285, 277, 277, 277, 277, 0, 277, 277, 277, 277, 277, 277, 277, 0, 277, 277, 0, 277, 277, 277, 277, 0, 277, 0, 277, 277, 277, 277, 0, 277, 0, 277, 277, 277, 277, 0, 277, 0, 277, 277, 277, 277, 0, 277, 277, 0, 277, 0, 277, 0, 277, 277, 277, 0, 0, 277, 277, 277, 277, 277, 288, 288, 288, 0, 288, 289, 289, 0, 289, 289, 289, 288, 289, 289, 289, 0, 289, 289, 289, 288, 289, 289, 289, 0, 289, 289, 289, 288, 289, 289, 289, 0, 289, 289, 289, 288, 289, 289, 291, 257, 257, 257, 257, 257, 257, 3, 0, 257, 0, 0, 0, 0, 0, 0, 0, 257, 257, 3, 0, 257, 257, 0, 0, 0, 0, 0, 0, 257, 257, 257, 0, 257, 0, 0, 257, 0, 257, 257, 257, 0, 257, 0, 257, 0, 0]
noncomputable def tr5n : List Nat := [115, 114, 257, 257, 258, 258, 257, 257, 2, 259, 259, 257, 257, 256, 256, 1, 260, 260, 3, 0, 0, 0, 269, 269, 0, 269, 269, 269, 269, 0, 269, 269, 269, 269, 270, 270, 270, 0, 270, 270, 270, 270, 270, 270, 270, 270, 272, 272, 259, 258, 267, 267, 267, 0, 267, 267, 272, 266, 266, 266, 0, 266, 266, 0, 260, 272, 268, 268, 268, 0, 268, 268, 0, 0, 271, 271, 271, 271, 270, 0, 270, 270, 270, 270, 270, 270, 270, 270, 272, 272, 259, 258, 267, 267, 267, 0, 267, 267, 272, 266, 266, 266, 0, 266, 266, 0, 260, 272, 268, 268, 268, 0, 268, 268, 0, 0, 271, 271, 271, 271, 270, 0, 270, 270, 270, 270, 270, 270, 270, 270, 272, 272, 259, 258, 267, 267, 267, 0, 267, 267, 272, 266, 266, 266, 0, 266, 266, 0, 260, 272, 268, 268, 268, 0, 268, 268, 0, 0, 271, 271, 271, 271, 270, 0, 270, 270, 270, 270, 274, 272, 272, 272, 271, 271, 271, 0, 271, 275, 275, 0, 275, 275, 275, 271, 275, 275, 275, 0, 275, 275, 275, 271, 275, 275, 275, 0, 275, 275, 275, 271, 275, 275, 275, 0, 275, 275, 275, 271, 275, 275, 277, 257, 257, 257, 257, 257, 257, 3, 257, 257, 257, 21, 0, 21, 20, 278, 278, 278, 278, 278, 278, 2, 3, 0, 278, 278, 278, 0, 279, 279, 0, 279, 280, 281, 280, 0, 280, 280, 280, 279, 280, 280, 281, 281, 281, 281, 280, 0, 280, 280, 280, 279, 280, 280, 0, 281, 280, 0, 280, 280, 280, 279, 280, 280, 0, 281, 280, 0, 280, 280, 280, 279, 280, 280, 283, 281, 281, 281, 278, 278, 3, 0, 278, 278, 278, 0, 284, 284, 0, 284, 285, 286, 285, 0, 285, 285, 285, 284, 285, 285, 286, 286, 286, 286, 285, 0, 285, 285, 285, 284, 285, 285, 0, 286, 286, 286, 286, 285, 0, 285, 285, 285, 284, 285, 285, 0, 286, 285, 0, 285, 285, 285, 284, 285, 285, 288, 286, 286, 286, 278, 278, 278, 278, 0, 278, 278, 278, 278, 278, 278, 278, 0, 278, 278, 0, 278, 278, 278, 278, 0, 278, 0, 278, 278, 278, 278, 0, 278, 0, 278, 278, 278, 278, 0, 278, 0, 278, 278, 278, 278, 0, 278, 278, 0, 278, 278, 278, 0, 0, 278, 278, 278, 278, 278, 289, 289, 289, 0, 289, 290, 290, 0, 290, 290, 290, 289, 290, 290, 290, 0, 290, 290, 290, 289, 290, 290, 290, 0, 290, 290, 290, 289, 290, 290, 290, 0, 290, 290, 290, 289, 290, 290, 292, 257, 257, 257, 257, 257, 257, 3, 0, 257, 0, 0, 0, 0, 0, 0, 0, 257, 257, 3, 0, 257, 257, 0, 0, 0, 0, 0, 0, 257, 257, 257, 0, 257, 0, 0, 257, 0, 257, 257, 257, 0, 257, 0, 0, 257, 0, 257, 0, 0, 257, 257, 256, 256, 1, 257, 0, 0]
noncomputable def tr50 : List Nat := [115, 114, 257, 257, 258, 258, 257, 257, 2, 259, 259, 257, 257, 256, 256, 1, 259, 257, 256, 256, 256, 256, 257, 1, 267, 267, 267, 0, 267, 267, 260, 260, 3, 0, 0, 0, 268, 268, 0, 268, 268, 268, 268, 0, 268, 268, 268, 268, 269, 269, 269, 0, 269, 269, 269, 269, 269, 269, 269, 269, 271, 271, 259, 258, 267, 267, 267, 0, 267, 267, 271, 266, 266, 266, 0, 266, 266, 0, 260, 271, 261, 261, 261, 0, 261, 261, 0, 0, 270, 270, 270, 270, 269, 0, 269, 269, 269, 269, 269, 269, 269, 269, 271, 271, 259, 258, 267, 267, 267, 0, 267, 267, 271, 266, 266, 266, 0, 266, 266, 0, 260, 271, 261, 261, 261, 0, 261, 261, 0, 0, 270, 270, 270, 270, 269, 0, 269, 269, 269, 269, 269, 269, 269, 269, 271, 271, 259, 258, 267, 267, 267, 0, 267, 267, 271, 266, 266, 266, 0, 266, 266, 0, 260, 271, 261, 261, 261, 0, 261, 261, 0, 0, 270, 270, 270, 270, 269, 0, 269, 269, 269, 269, 273, 271, 271, 271, 270, 270, 270, 0, 270, 274, 274, 0, 274, 274, 274, 270, 274, 274, 274, 0, 274, 274, 274, 270, 274, 274, 274, 0, 274, 274, 274, 270, 274, 274, 274, 0, 274, 274, 274, 270, 274, 274, 276, 257, 257, 257, 257, 257, 257, 3, 257, 257, 257, 21, 0, 21, 20, 277, 277, 277, 277, 277, 277, 2, 3, 0, 277, 277, 277, 0, 278, 278, 0, 278, 279, 280, 279, 0, 279, 279, 279, 278, 279, 279, 280, 280, 280, 280, 279, 0, 279, 279, 279, 278, 279, 279, 0, 280, 279, 0, 279, 279, 279, 278, 279, 279, 0, 280, 279, 0, 279, 279, 279, 278, 279, 279, 282, 280, 280, 280, 277, 277, 3, 0, 277, 277, 277, 0, 283, 283, 0, 283, 284, 285, 284, 0, 284, 284, 284, 283, 284, 284, 285, 285, 285, 285, 284, 0, 284, 284, 284, 283, 284, 284, 0, 285, 285, 285, 285, 284, 0, 284, 284, 284, 283, 284, 284, 0, 285, 284, 0, 284, 284, 284, 283, 284, 284, 287, 285, 285, 285, 277, 277, 277, 277, 0, 277, 277, 277, 277, 277, 277, 277, 0, 277, 277, 0, 277, 277, 277, 277, 0, 277, 0, 277, 277, 277, 277, 0, 277, 0, 277, 277, 277, 277, 0, 277, 0, 277, 277, 277, 277, 0, 277, 277, 0, 277, 277, 277, 0, 0, 277, 277, 277, 277, 277, 288, 288, 288, 0, 288, 289, 289, 0, 289, 289, 289, 288, 289, 289, 289, 0, 289, 289, 289, 288, 289, 289, 289, 0, 289, 289, 289, 288, 289, 289, 289, 0, 289, 289, 289, 288, 289, 289, 291, 257, 257, 257, 257, 257, 257, 3, 0, 257, 0, 0, 0, 0, 0, 0, 0, 257, 257, 3, 0, 257, 257, 0, 0, 0, 0, 0, 0, 257, 257, 257, 0, 257, 0, 0, 257, 257, 0, 0, 0, 0, 0, 257, 257, 257, 257, 0, 0, 0, 0, 0, 257, 257, 257, 0, 257, 0, 0, 0, 257, 257, 256, 256, 1, 257, 0, 0]
noncomputable def tr52 : List Nat := [115, 114, 257, 257, 258, 258, 257, 257, 2, 259, 259, 257, 257, 256, 256, 1, 259, 257, 256, 256, 256, 256, 257, 1, 267, 267, 267, 0, 267, 267, 260, 260, 3, 0, 0, 0, 268, 268, 0, 268, 268, 268, 268, 0, 268, 268, 268, 268, 269, 269, 269, 0, 269, 269, 269, 269, 269, 269, 269, 269, 271, 271, 259, 258, 267, 267, 267, 0, 267, 267, 271, 266, 266, 266, 0, 266, 266, 0, 260, 271, 263, 263, 263, 0, 263, 263, 0, 0, 270, 270, 270, 270, 269, 0, 269, 269, 269, 269, 269, 269, 269, 269, 271, 271, 259, 258, 267, 267, 267, 0, 267, 267, 271, 266, 266, 266, 0, 266, 266, 0, 260, 271, 263, 263, 263, 0, 263, 263, 0, 0, 270, 270, 270, 270, 269, 0, 269, 269, 269, 269, 269, 269, 269, 269, 271, 271, 259, 258, 267, 267, 267, 0, 267, 267, 271, 266, 266, 266, 0, 266, 266, 0, 260, 271, 263, 263, 263, 0, 263, 263, 0, 0, 270, 270, 270, 270, 269, 0, 269, 269, 269, 269, 273, 271, 271, 271, 270, 270, 270, 0, 270, 274, 274, 0, 274, 274, 274, 270, 274, 274, 274, 0, 274, 274, 274, 270, 274, 274, 274, 0, 274, 274, 274, 270, 274, 274, 274, 0, 274, 274, 274, 270, 274, 274, 276, 257, 257, 257, 257, 257, 257, 3, 257, 257, 257, 21, 0, 21, 20, 277, 277, 277, 277, 277, 277, 2, 3, 0, 277, 277, 277, 0, 278, 278, 0, 278, 279, 280, 279, 0, 279, 279, 279, 278, 279, 279, 280, 280, 280, 280, 279, 0, 279, 279, 279, 278, 279, 279, 0, 280, 279, 0, 279, 279, 279, 278, 279, 279, 0, 280, 279, 0, 279, 279, 279, 278, 279, 279, 282, 280, 280, 280, 277, 277, 3, 0, 277, 277, 277, 0, 283, 283, 0, 283, 284, 285, 284, 0, 284, 284, 284, 283, 284, 284, 285, 285, 285, 285, 284, 0, 284, 284, 284, 283, 284, 284, 0, 285, 284, 0, 284, 284, 284, 283, 284, 284, 0, 285, 284, 0, 284, 284, 284, 283, 284, 284, 287, 285, 285, 285, 277, 277, 277, 277, 0, 277, 277, 277, 277, 277, 277, 277, 0, 277, 288, 288, 288, 0, 288, 289, 289, 0, 289, 289, 289, 288, 289, 289, 289, 0, 289, 289, 289, 288, 289, 289, 289, 0, 289, 289, 289, 288, 289, 289, 289, 0, 289, 289, 289, 288, 289, 289, 291, 257, 257, 257, 257, 257, 257, 3, 0, 257, 0, 0, 0, 0, 0, 0, 0, 257, 257, 3, 0, 257, 257, 0, 0, 0, 0, 0, 0, 257, 257, 257, 0]
noncomputable def tr54 : List Nat := [115, 114, 257, 257, 258, 258, 257, 257, 2, 259, 259, 257, 257, 256, 256, 1, 259, 257, 256, 256, 256, 256, 257, 1, 267, 267, 267, 0, 267, 267, 260, 260, 3, 0, 0, 0, 268, 268, 0, 268, 268, 268, 268, 0, 268, 268, 268, 268, 269, 269, 269, 0, 269, 269, 269, 269, 269, 269, 269, 269, 271, 271, 259, 258, 267, 267, 267, 0, 267, 267, 271, 266, 266, 266, 0, 266, 266, 0, 260, 271, 265, 265, 265, 0, 265, 265, 0, 0, 270, 270, 270, 270, 269, 0, 269, 269, 269, 269, 269, 269, 269, 269, 271, 271, 259, 258, 267, 267, 267, 0, 267, 267, 271, 266, 266, 266, 0, 266, 266, 0, 260, 271, 265, 265, 265, 0, 265, 265, 0, 0, 270, 270, 270, 270, 269, 0, 269, 269, 269, 269, 269, 269, 269, 269, 271, 271, 259, 258, 267, 267, 267, 0, 267, 267, 271, 266, 266, 266, 0, 266, 266, 0, 260, 271, 265, 265, 265, 0, 265, 265, 0, 0, 270, 270, 270, 270, 269, 0, 269, 269, 269, 269, 273, 271, 271, 271, 270, 270, 270, 0, 270, 274, 274, 0, 274, 274, 274, 270, 274, 274, 274, 0, 274, 274, 274, 270, 274, 274, 274, 0, 274, 274, 274, 270, 274, 274, 274, 0, 274, 274, 274, 270, 274, 274, 276, 257, 257, 257, 257, 257, 257, 3, 257, 257, 257, 21, 0, 21, 20, 277, 277, 277, 277, 277, 277, 2, 3, 0, 277, 277, 277, 0, 278, 278, 0, 278, 279, 280, 279, 0, 279, 279, 279, 278, 279, 279, 280, 280, 280, 280, 279, 0, 279, 279, 279, 278, 279, 279, 0, 280, 279, 0, 279, 279, 279, 278, 279, 279, 0, 280, 280, 280, 280, 279, 0, 279, 279, 279, 278, 279, 279, 282, 280, 280, 280, 277, 277, 3, 0, 277, 277, 277, 0, 283, 283, 0, 283, 284, 285, 284, 0, 284, 284, 284, 283, 284, 284, 285, 285, 285, 285, 284, 0, 284, 284, 284, 283, 284, 284, 0, 285, 285, 285, 285, 284, 0, 284, 284, 284, 283, 284, 284, 0, 285, 284, 0, 284, 284, 284, 283, 284, 284, 287, 285, 285, 285, 277, 277, 277, 277, 0, 277, 277, 277, 277, 277, 277, 277, 0, 277, 277, 0, 277, 277, 277, 277, 0, 277, 0, 277, 277, 277, 277, 0, 277, 0, 277, 277, 277, 277, 0, 277, 0, 277, 277, 277, 277, 0, 277, 277, 0, 277, 0, 277, 0, 277, 277, 277, 0, 0, 277, 277, 277, 277, 277, 288, 288, 288, 0, 288, 289, 289, 0, 289, 289, 289, 288, 289, 289, 289, 0, 289, 289, 289, 288, 289, 289, 289, 0, 289, 289, 289, 288, 289, 289, 289, 0, 289, 289, 289, 288, 289, 289, 291, 257, 257, 257, 257, 257, 257, 3, 0, 257, 0, 0, 0, 0, 0, 0, 0, 257, 257, 3, 0, 257, 257, 0, 0, 0, 0, 0, 0, 257, 257, 257, 0, 257, 0, 0, 257, 257, 0, 0, 0, 0, 0, 257, 257, 257, 257, 0, 0, 0, 0, 0, 257, 257, 257, 0, 257, 0, 0, 0, 257, 257, 256, 256, 1, 257, 0, 0]
theorem put_runs0 (w : World) (X : CxW) (p : Pos) (d tc tp te ue ep : Nat) (pl : Int) (L L1 L2 : List Ent) (al tk : Nat → Nat) :
    [mixA [0] (seg (VV w) 1109 tr0n [oIn 0 false, oSet 0 L ep] (X.ctx (putC d 0 tc pl tp)) p [] (denF (X.ctx (putC d 0 tc pl tp)).code) (mkT [(d, dO L ep)] []) 1 0 al tk), mixA [0] (seg (VV w) 1125 tr00 [oIn 0 true, oPop 0 L1 L2 ⟨pl, te, 0, ue⟩ ep] (X.ctx (putC d 0 tc pl tp)) p [] (denF (X.ctx (putC d 0 tc pl tp)).code) (mkT [(d, dO (L1 ++ ⟨pl, te, 0, ue⟩ :: L2) ep)] []) 1 0 al tk), mixA [0] (seg (VV w) 1162 tr02 [oIn 0 true, oPop 0 L1 L2 ⟨pl, te, 2, ue⟩ ep, oSet 0 (L1 ++ L2) (ep + 1)] (X.ctx (putC d 0 tc pl tp)) p [] (denF (X.ctx (putC d 0 tc pl tp)).code) (mkT [(d, dO (L1 ++ ⟨pl, te, 2, ue⟩ :: L2) ep)] []) 1 0 al tk), mixA [0] (seg (VV w) 1162 tr04 [oIn 0 true, oPop 0 L1 L2 ⟨pl, te, 4, ue⟩ ep, oSet 0 (L1 ++ L2) (ep + 1)] (X.ctx (putC d 0 tc pl tp)) p [] (denF (X.ctx (putC d 0 tc pl tp)).code) (mkT [(d, dO (L1 ++ ⟨pl, te, 4, ue⟩ :: L2) ep)] []) 1 0 al tk)] =
    [mixB (seg (VV w) 1109 tr0n [oIn 0 false, oSet 0 L ep] (X.ctx (putC d 0 tc pl tp)) p [] (denF (X.ctx (putC d 0 tc pl tp)).code) (mkT [(d, dO L ep)] []) 1 0 al tk) (EN d tp ep pl L 12 20 14 37 90 0 84 6 91), mixB (seg (VV w) 1125 tr00 [oIn 0 true, oPop 0 L1 L2 ⟨pl, te, 0, ue⟩ ep] (X.ctx (putC d 0 tc pl tp)) p [] (denF (X.ctx (putC d 0 tc pl tp)).code) (mkT [(d, dO (L1 ++ ⟨pl, te, 0, ue⟩ :: L2) ep)] []) 1 0 al tk) (EP d tp ep pl L1 L2 ⟨pl, te, 0, ue⟩ 12 20 12 21 13 3 89), mixB (seg (VV w) 1162 tr02 [oIn 0 true, oPop 0 L1 L2 ⟨pl, te, 2, ue⟩ ep, oSet 0 (L1 ++ L2) (ep + 1)] (X.ctx (putC d 0 tc pl tp)) p [] (denF (X.ctx (putC d 0 tc pl tp)).code) (mkT [(d, dO (L1 ++ ⟨pl, te, 2, ue⟩ :: L2) ep)] []) 1 0 al tk) (ES d tp ep pl L1 L2 ⟨pl, te, 2, ue⟩ 12 20 12 21 13 36 93 4 92 4 97), mixB (seg (VV w) 1162 tr04 [oIn 0 true, oPop 0 L1 L2 ⟨pl, te, 4, ue⟩ ep, oSet 0 (L1 ++ L2) (ep + 1)] (X.ctx (putC d 0 tc pl tp)) p [] (denF (X.ctx (putC d 0 tc pl tp)).code) (mkT [(d, dO (L1 ++ ⟨pl, te, 4, ue⟩ :: L2) ep)] []) 1 0 al tk) (ES d tp ep pl L1 L2 ⟨pl, te, 4, ue⟩ 12 20 12 21 13 36 93 2 92 2 97)] := by kernel_rfl
theorem put_runs1 (w : World) (X : CxW) (p : Pos) (d tc tp te ue ep : Nat) (pl : Int) (L L1 L2 : List Ent) (al tk : Nat → Nat) :
    [mixA [0] (seg (VV w) 1143 tr1n [oIn 0 false, oSet 0 L ep] (X.ctx (putC d 1 tc pl tp)) p [] (denF (X.ctx (putC d 1 tc pl tp)).code) (mkT [(d, dO L ep)] []) 1 0 al tk), mixA [0] (seg (VV w) 1212 tr10 [oIn 0 true, oPop 0 L1 L2 ⟨pl, te, 0, ue⟩ ep, oSet 0 (L1 ++ L2) (ep + 1)] (X.ctx (putC d 1 tc pl tp)) p [] (denF (X.ctx (putC d 1 tc pl tp)).code) (mkT [(d, dO (L1 ++ ⟨pl, te, 0, ue⟩ :: L2) ep)] []) 1 0 al tk), mixA [0] (seg (VV w) 1228 tr12 [oIn 0 true, oPop 0 L1 L2 ⟨pl, te, 2, ue⟩ ep, oSet 0 (L1 ++ L2) (ep + 1)] (X.ctx (putC d 1 tc pl tp)) p [] (denF (X.ctx (putC d 1 tc pl tp)).code) (mkT [(d, dO (L1 ++ ⟨pl, te, 2, ue⟩ :: L2) ep)] []) 1 0 al tk), mixA [0] (seg (VV w) 920 tr14 [oIn 0 true, oPop 0 L1 L2 ⟨pl, te, 4, ue⟩ ep] (X.ctx (putC d 1 tc pl tp)) p [] (denF (X.ctx (putC d 1 tc pl tp)).code) (mkT [(d, dO (L1 ++ ⟨pl, te, 4, ue⟩ :: L2) ep)] []) 1 0 al tk)] =
    [mixB (seg (VV w) 1143 tr1n [oIn 0 false, oSet 0 L ep] (X.ctx (putC d 1 tc pl tp)) p [] (denF (X.ctx (putC d 1 tc pl tp)).code) (mkT [(d, dO L ep)] []) 1 0 al tk) (EN d tp ep pl L 12 20 14 37 95 4 94 4 99), mixB (seg (VV w) 1212 tr10 [oIn 0 true, oPop 0 L1 L2 ⟨pl, te, 0, ue⟩ ep, oSet 0 (L1 ++ L2) (ep + 1)] (X.ctx (putC d 1 tc pl tp)) p [] (denF (X.ctx (putC d 1 tc pl tp)).code) (mkT [(d, dO (L1 ++ ⟨pl, te, 0, ue⟩ :: L2) ep)] []) 1 0 al tk) (ES d tp ep pl L1 L2 ⟨pl, te, 0, ue⟩ 12 20 12 21 13 36 108 2 107 3 112), mixB (seg (VV w) 1228 tr12 [oIn 0 true, oPop 0 L1 L2 ⟨pl, te, 2, ue⟩ ep, oSet 0 (L1 ++ L2) (ep + 1)] (X.ctx (putC d 1 tc pl tp)) p [] (denF (X.ctx (putC d 1 tc pl tp)).code) (mkT [(d, dO (L1 ++ ⟨pl, te, 2, ue⟩ :: L2) ep)] []) 1 0 al tk) (ES d tp ep pl L1 L2 ⟨pl, te, 2, ue⟩ 12 20 12 21 13 36 110 0 109 5 114), mixB (seg (VV w) 920 tr14 [oIn 0 true, oPop 0 L1 L2 ⟨pl, te, 4, ue⟩ ep] (X.ctx (putC d 1 tc pl tp)) p [] (denF (X.ctx (putC d 1 tc pl tp)).code) (mkT [(d, dO (L1 ++ ⟨pl, te, 4, ue⟩ :: L2) ep)] []) 1 0 al tk) (EP d tp ep pl L1 L2 ⟨pl, te, 4, ue⟩ 12 20 12 21 13 6 62)] := by kernel_rfl
theorem put_runs2 (w : World) (X : CxW) (p : Pos) (d tc tp te ue ep : Nat) (pl : Int) (L L1 L2 : List Ent) (al tk : Nat → Nat) :
    [mixA [0] (seg (VV w) 1125 tr2n [oIn 0 false, oSet 0 L ep] (X.ctx (putC d 2 tc pl tp)) p [] (denF (X.ctx (putC d 2 tc pl tp)).code) (mkT [(d, dO L ep)] []) 1 0 al tk), mixA [0] (seg (VV w) 1162 tr20 [oIn 0 true, oPop 0 L1 L2 ⟨pl, te, 0, ue⟩ ep, oSet 0 (L1 ++ L2) (ep + 1)] (X.ctx (putC d 2 tc pl tp)) p [] (denF (X.ctx (putC d 2 tc pl tp)).code) (mkT [(d, dO (L1 ++ ⟨pl, te, 0, ue⟩ :: L2) ep)] []) 1 0 al tk), mixA [0] (seg (VV w) 1141 tr22 [oIn 0 true, oPop 0 L1 L2 ⟨pl, te, 2, ue⟩ ep] (X.ctx (putC d 2 tc pl tp)) p [] (denF (X.ctx (putC d 2 tc pl tp)).code) (mkT [(d, dO (L1 ++ ⟨pl, te, 2, ue⟩ :: L2) ep)] []) 1 0 al tk), mixA [0] (seg (VV w) 1178 tr24 [oIn 0 true, oPop 0 L1 L2 ⟨pl, te, 4, ue⟩ ep, oSet 0 (L1 ++ L2) (ep + 1)] (X.ctx (putC d 2 tc pl tp)) p [] (denF (X.ctx (putC d 2 tc pl tp)).code) (mkT [(d, dO (L1 ++ ⟨pl, te, 4, ue⟩ :: L2) ep)] []) 1 0 al tk)] =
    [mixB (seg (VV w) 1125 tr2n [oIn 0 false, oSet 0 L ep] (X.ctx (putC d 2 tc pl tp)) p [] (denF (X.ctx (putC d 2 tc pl tp)).code) (mkT [(d, dO L ep)] []) 1 0 al tk) (EN d tp ep pl L 12 20 14 37 92 2 86 6 93), mixB (seg (VV w) 1162 tr20 [oIn 0 true, oPop 0 L1 L2 ⟨pl, te, 0, ue⟩ ep, oSet 0 (L1 ++ L2) (ep + 1)] (X.ctx (putC d 2 tc pl tp)) p [] (denF (X.ctx (putC d 2 tc pl tp)).code) (mkT [(d, dO (L1 ++ ⟨pl, te, 0, ue⟩ :: L2) ep)] []) 1 0 al tk) (ES d tp ep pl L1 L2 ⟨pl, te, 0, ue⟩ 12 20 12 21 13 36 93 4 92 4 97), mixB (seg (VV w) 1141 tr22 [oIn 0 true, oPop 0 L1 L2 ⟨pl, te, 2, ue⟩ ep] (X.ctx (putC d 2 tc pl tp)) p [] (denF (X.ctx (putC d 2 tc pl tp)).code) (mkT [(d, dO (L1 ++ ⟨pl, te, 2, ue⟩ :: L2) ep)] []) 1 0 al tk) (EP d tp ep pl L1 L2 ⟨pl, te, 2, ue⟩ 12 20 12 21 13 5 91), mixB (seg (VV w) 1178 tr24 [oIn 0 true, oPop 0 L1 L2 ⟨pl, te, 4, ue⟩ ep, oSet 0 (L1 ++ L2) (ep + 1)] (X.ctx (putC d 2 tc pl tp)) p [] (denF (X.ctx (putC d 2 tc pl tp)).code) (mkT [(d, dO (L1 ++ ⟨pl, te, 4, ue⟩ :: L2) ep)] []) 1 0 al tk) (ES d tp ep pl L1 L2 ⟨pl, te, 4, ue⟩ 12 20 12 21 13 36 95 0 94 0 99)] := by kernel_rfl
theorem put_runs3 (w : World) (X : CxW) (p : Pos) (d tc tp te ue ep : Nat) (pl : Int) (L L1 L2 : List Ent) (al tk : Nat → Nat) :
    [mixA [0] (seg (VV w) 1159 tr3n [oIn 0 false, oSet 0 L ep] (X.ctx (putC d 3 tc pl tp)) p [] (denF (X.ctx (putC d 3 tc pl tp)).code) (mkT [(d, dO L ep)] []) 1 0 al tk), mixA [0] (seg (VV w) 920 tr30 [oIn 0 true, oPop 0 L1 L2 ⟨pl, te, 0, ue⟩ ep] (X.ctx (putC d 3 tc pl tp)) p [] (denF (X.ctx (putC d 3 tc pl tp)).code) (mkT [(d, dO (L1 ++ ⟨pl, te, 0, ue⟩ :: L2) ep)] []) 1 0 al tk), mixA [0] (seg (VV w) 1225 tr32 [oIn 0 true, oPop 0 L1 L2 ⟨pl, te, 2, ue⟩ ep, oSet 0 (L1 ++ L2) (ep + 1)] (X.ctx (putC d 3 tc pl tp)) p [] (denF (X.ctx (putC d 3 tc pl tp)).code) (mkT [(d, dO (L1 ++ ⟨pl, te, 2, ue⟩ :: L2) ep)] []) 1 0 al tk), mixA [0] (seg (VV w) 1228 tr34 [oIn 0 true, oPop 0 L1 L2 ⟨pl, te, 4, ue⟩ ep, oSet 0 (L1 ++ L2) (ep + 1)] (X.ctx (putC d 3 tc pl tp)) p [] (denF (X.ctx (putC d 3 tc pl tp)).code) (mkT [(d, dO (L1 ++ ⟨pl, te, 4, ue⟩ :: L2) ep)] []) 1 0 al tk)] =
    [mixB (seg (VV w) 1159 tr3n [oIn 0 false, oSet 0 L ep] (X.ctx (putC d 3 tc pl tp)) p [] (denF (X.ctx (putC d 3 tc pl tp)).code) (mkT [(d, dO L ep)] []) 1 0 al tk) (EN d tp ep pl L 12 20 14 37 97 0 96 0 101), mixB (seg (VV w) 920 tr30 [oIn 0 true, oPop 0 L1 L2 ⟨pl, te, 0, ue⟩ ep] (X.ctx (putC d 3 tc pl tp)) p [] (denF (X.ctx (putC d 3 tc pl tp)).code) (mkT [(d, dO (L1 ++ ⟨pl, te, 0, ue⟩ :: L2) ep)] []) 1 0 al tk) (EP d tp ep pl L1 L2 ⟨pl, te, 0, ue⟩ 12 20 12 21 13 6 62), mixB (seg (VV w) 1225 tr32 [oIn 0 true, oPop 0 L1 L2 ⟨pl, te, 2, ue⟩ ep, oSet 0 (L1 ++ L2) (ep + 1)] (X.ctx (putC d 3 tc pl tp)) p [] (denF (X.ctx (putC d 3 tc pl tp)).code) (mkT [(d, dO (L1 ++ ⟨pl, te, 2, ue⟩ :: L2) ep)] []) 1 0 al tk) (ES d tp ep pl L1 L2 ⟨pl, te, 2, ue⟩ 12 20 12 21 13 36 110 4 109 5 114), mixB (seg (VV w) 1228 tr34 [oIn 0 true, oPop 0 L1 L2 ⟨pl, te, 4, ue⟩ ep, oSet 0 (L1 ++ L2) (ep + 1)] (X.ctx (putC d 3 tc pl tp)) p [] (denF (X.ctx (putC d 3 tc pl tp)).code) (mkT [(d, dO (L1 ++ ⟨pl, te, 4, ue⟩ :: L2) ep)] []) 1 0 al tk) (ES d tp ep pl L1 L2 ⟨pl, te, 4, ue⟩ 12 20 12 21 13 36 110 2 109 1 114)] := by kernel_rfl
theorem put_runs4 (w : World) (X : CxW) (p : Pos) (d tc tp te ue ep : Nat) (pl : Int) (L L1 L2 : List Ent) (al tk : Nat → Nat) :
    [mixA [0] (seg (VV w) 1125 tr4n [oIn 0 false, oSet 0 L ep] (X.ctx (putC d 4 tc pl tp)) p [] (denF (X.ctx (putC d 4 tc pl tp)).code) (mkT [(d, dO L ep)] []) 1 0 al tk), mixA [0] (seg (VV w) 1162 tr40 [oIn 0 true, oPop 0 L1 L2 ⟨pl, te, 0, ue⟩ ep, oSet 0 (L1 ++ L2) (ep + 1)] (X.ctx (putC d 4 tc pl tp)) p [] (denF (X.ctx (putC d 4 tc pl tp)).code) (mkT [(d, dO (L1 ++ ⟨pl, te, 0, ue⟩ :: L2) ep)] []) 1 0 al tk), mixA [0] (seg (VV w) 1178 tr42 [oIn 0 true, oPop 0 L1 L2 ⟨pl, te, 2, ue⟩ ep, oSet 0 (L1 ++ L2) (ep + 1)] (X.ctx (putC d 4 tc pl tp)) p [] (denF (X.ctx (putC d 4 tc pl tp)).code) (mkT [(d, dO (L1 ++ ⟨pl, te, 2, ue⟩ :: L2) ep)] []) 1 0 al tk), mixA [0] (seg (VV w) 1141 tr44 [oIn 0 true, oPop 0 L1 L2 ⟨pl, te, 4, ue⟩ ep] (X.ctx (putC d 4 tc pl tp)) p [] (denF (X.ctx (putC d 4 tc pl tp)).code) (mkT [(d, dO (L1 ++ ⟨pl, te, 4, ue⟩ :: L2) ep)] []) 1 0 al tk)] =
    [mixB (seg (VV w) 1125 tr4n [oIn 0 false, oSet 0 L ep] (X.ctx (putC d 4 tc pl tp)) p [] (denF (X.ctx (putC d 4 tc pl tp)).code) (mkT [(d, dO L ep)] []) 1 0 al tk) (EN d tp ep pl L 12 20 14 37 92 4 86 6 93), mixB (seg (VV w) 1162 tr40 [oIn 0 true, oPop 0 L1 L2 ⟨pl, te, 0, ue⟩ ep, oSet 0 (L1 ++ L2) (ep + 1)] (X.ctx (putC d 4 tc pl tp)) p [] (denF (X.ctx (putC d 4 tc pl tp)).code) (mkT [(d, dO (L1 ++ ⟨pl, te, 0, ue⟩ :: L2) ep)] []) 1 0 al tk) (ES d tp ep pl L1 L2 ⟨pl, te, 0, ue⟩ 12 20 12 21 13 36 93 2 92 2 97), mixB (seg (VV w) 1178 tr42 [oIn 0 true, oPop 0 L1 L2 ⟨pl, te, 2, ue⟩ ep, oSet 0 (L1 ++ L2) (ep + 1)] (X.ctx (putC d 4 tc pl tp)) p [] (denF (X.ctx (putC d 4 tc pl tp)).code) (mkT [(d, dO (L1 ++ ⟨pl, te, 2, ue⟩ :: L2) ep)] []) 1 0 al tk) (ES d tp ep pl L1 L2 ⟨pl, te, 2, ue⟩ 12 20 12 21 13 36 95 0 94 0 99), mixB (seg (VV w) 1141 tr44 [oIn 0 true, oPop 0 L1 L2 ⟨pl, te, 4, ue⟩ ep] (X.ctx (putC d 4 tc pl tp)) p [] (denF (X.ctx (putC d 4 tc pl tp)).code) (mkT [(d, dO (L1 ++ ⟨pl, te, 4, ue⟩ :: L2) ep)] []) 1 0 al tk) (EP d tp ep pl L1 L2 ⟨pl, te, 4, ue⟩ 12 20 12 21 13 1 91)] := by kernel_rfl
theorem put_runs5 (w : World) (X : CxW) (p : Pos) (d tc tp te ue ep : Nat) (pl : Int) (L L1 L2 : List Ent) (al tk : Nat → Nat) :
    [mixA [0] (seg (VV w) 1143 tr5n [oIn 0 false, oSet 0 L ep] (X.ctx (putC d 5 tc pl tp)) p [] (denF (X.ctx (putC d 5 tc pl tp)).code) (mkT [(d, dO L ep)] []) 1 0 al tk), mixA [0] (seg (VV w) 1209 tr50 [oIn 0 true, oPop 0 L1 L2 ⟨pl, te, 0, ue⟩ ep, oSet 0 (L1 ++ L2) (ep + 1)] (X.ctx (putC d 5 tc pl tp)) p [] (denF (X.ctx (putC d 5 tc pl tp)).code) (mkT [(d, dO (L1 ++ ⟨pl, te, 0, ue⟩ :: L2) ep)] []) 1 0 al tk), mixA [0] (seg (VV w) 920 tr52 [oIn 0 true, oPop 0 L1 L2 ⟨pl, te, 2, ue⟩ ep] (X.ctx (putC d 5 tc pl tp)) p [] (denF (X.ctx (putC d 5 tc pl tp)).code) (mkT [(d, dO (L1 ++ ⟨pl, te, 2, ue⟩ :: L2) ep)] []) 1 0 al tk), mixA [0] (seg (VV w) 1228 tr54 [oIn 0 true, oPop 0 L1 L2 ⟨pl, te, 4, ue⟩ ep, oSet 0 (L1 ++ L2) (ep + 1)] (X.ctx (putC d 5 tc pl tp)) p [] (denF (X.ctx (putC d 5 tc pl tp)).code) (mkT [(d, dO (L1 ++ ⟨pl, te, 4, ue⟩ :: L2) ep)] []) 1 0 al tk)] =
    [mixB (seg (VV w) 1143 tr5n [oIn 0 false, oSet 0 L ep] (X.ctx (putC d 5 tc pl tp)) p [] (denF (X.ctx (putC d 5 tc pl tp)).code) (mkT [(d, dO L ep)] []) 1 0 al tk) (EN d tp ep pl L 12 20 14 37 95 2 94 2 99), mixB (seg (VV w) 1209 tr50 [oIn 0 true, oPop 0 L1 L2 ⟨pl, te, 0, ue⟩ ep, oSet 0 (L1 ++ L2) (ep + 1)] (X.ctx (putC d 5 tc pl tp)) p [] (denF (X.ctx (putC d 5 tc pl tp)).code) (mkT [(d, dO (L1 ++ ⟨pl, te, 0, ue⟩ :: L2) ep)] []) 1 0 al tk) (ES d tp ep pl L1 L2 ⟨pl, te, 0, ue⟩ 12 20 12 21 13 36 108 4 107 3 112), mixB (seg (VV w) 920 tr52 [oIn 0 true, oPop 0 L1 L2 ⟨pl, te, 2, ue⟩ ep] (X.ctx (putC d 5 tc pl tp)) p [] (denF (X.ctx (putC d 5 tc pl tp)).code) (mkT [(d, dO (L1 ++ ⟨pl, te, 2, ue⟩ :: L2) ep)] []) 1 0 al tk) (EP d tp ep pl L1 L2 ⟨pl, te, 2, ue⟩ 12 20 12 21 13 6 62), mixB (seg (VV w) 1228 tr54 [oIn 0 true, oPop 0 L1 L2 ⟨pl, te, 4, ue⟩ ep, oSet 0 (L1 ++ L2) (ep + 1)] (X.ctx (putC d 5 tc pl tp)) p [] (denF (X.ctx (putC d 5 tc pl tp)).code) (mkT [(d, dO (L1 ++ ⟨pl, te, 4, ue⟩ :: L2) ep)] []) 1 0 al tk) (ES d tp ep pl L1 L2 ⟨pl, te, 4, ue⟩ 12 20 12 21 13 36 110 0 109 1 114)] := by kernel_rfl
end Mine
namespace Mine
open PySem PySem.W PySem.W.X
/-! _law_put: its contract -/
noncomputable def dig (L : List Ent) (k : Int) : Option Int := (L.find? fun x => x.k == k).map (·.v)
/-- what lies at the place afterwards -/
noncomputable def newF (c : Int) (th : Option Int) : Option Int := match th with
  | none => if c = 0 then some 0 else if c = 1 then some 4 else if c = 2 then some 2 else if c = 3 then some 0 else if c = 4 then some 4 else some 2
  | some e => if e = 0 then (if c = 0 then none else if c = 1 then some 2 else if c = 2 then some 4 else if c = 3 then none else if c = 4 then some 2 else some 4) else if e = 2 then (if c = 0 then some 4 else if c = 1 then some 0 else if c = 2 then none else if c = 3 then some 4 else if c = 4 then some 0 else none) else (if c = 0 then some 2 else if c = 1 then none else if c = 2 then some 0 else if c = 3 then some 2 else if c = 4 then none else some 0)
/-- which chip goes up (6: none) -/
noncomputable def upF (c : Int) (th : Option Int) : Int := match th with
  | none => if c = 0 then 6 else if c = 1 then 4 else if c = 2 then 6 else if c = 3 then 0 else if c = 4 then 6 else 2
  | some e => if e = 0 then (if c = 0 then 3 else if c = 1 then 3 else if c = 2 then 4 else if c = 3 then 6 else if c = 4 then 2 else 3) else if e = 2 then (if c = 0 then 4 else if c = 1 then 5 else if c = 2 then 5 else if c = 3 then 5 else if c = 4 then 0 else 6) else (if c = 0 then 2 else if c = 1 then 6 else if c = 2 then 0 else if c = 3 then 1 else if c = 4 then 1 else 1)
structure Laid1 (L : List Ent) : Prop where
  nodup : (L.map (·.k)).Nodup
  vals : ∀ x ∈ L, x.v = 0 ∨ x.v = 2 ∨ x.v = 4
theorem dig_none {L : List Ent} {k : Int} (h : ∀ x ∈ L, x.k ≠ k) : dig L k = none := by
  unfold dig
  rw [List.find?_eq_none.mpr (fun x hx => by simpa using h x hx)]
  rfl
theorem dig_append {L1 L2 : List Ent} {k : Int} (h : ∀ x ∈ L1, x.k ≠ k) : dig (L1 ++ L2) k = dig L2 k := by
  unfold dig
  rw [List.find?_append, List.find?_eq_none.mpr (fun x hx => by simpa using h x hx)]
  rfl
theorem dig_append2 {L1 L2 : List Ent} {k : Int} (h : ∀ x ∈ L2, x.k ≠ k) : dig (L1 ++ L2) k = dig L1 k := by
  unfold dig
  have e : L2.find? (fun x => x.k == k) = none := List.find?_eq_none.mpr (fun x hx => by simpa using h x hx)
  rw [List.find?_append, e, Option.or_none]
theorem dig_cons_eq {L : List Ent} {e : Ent} {k : Int} (h : e.k = k) : dig (e :: L) k = some e.v := by
  unfold dig
  rw [List.find?_cons_of_pos (by simpa using h)]
  rfl
theorem dig_cons_ne {L : List Ent} {e : Ent} {k : Int} (h : e.k ≠ k) : dig (e :: L) k = dig L k := by
  unfold dig
  rw [List.find?_cons_of_neg (by simpa using h)]
theorem laid_split (L : List Ent) (hn : (L.map (·.k)).Nodup) (k : Int) : (∀ x ∈ L, x.k ≠ k) ∨ ∃ L1 e L2, L = L1 ++ e :: L2 ∧ e.k = k ∧ (∀ x ∈ L1, x.k ≠ k) ∧ ∀ x ∈ L2, x.k ≠ k := by
  by_cases h : ∀ x ∈ L, x.k ≠ k
  · exact .inl h
  · right
    have h' : ∃ x ∈ L, x.k = k := by
      apply Classical.byContradiction
      intro q
      exact h fun x hx e => q ⟨x, hx, e⟩
    obtain ⟨e, he, hk⟩ := h'
    obtain ⟨L1, L2, rfl⟩ := List.append_of_mem he
    refine ⟨L1, e, L2, rfl, hk, fun x hx q => ?_, fun x hx q => ?_⟩
    · rw [List.map_append, List.map_cons] at hn
      have := (List.nodup_append.mp hn).2.2 x.k (List.mem_map_of_mem hx) e.k (.head _)
      exact this (q.trans hk.symm)
    · rw [List.map_append, List.map_cons] at hn
      have := (List.nodup_cons.mp (List.nodup_append.mp hn).2.1).1
      exact this (by rw [hk, ← q]; exact List.mem_map_of_mem hx)
/-- what a put makes of the row -/
structure PutTo (L L' : List Ent) (pl : Int) (new : Option Int) : Prop where
  laid : Laid1 L'
  dig : ∀ k, dig L' k = if k = pl then new else dig L k
  len : L'.length ≤ L.length + 1
  keys : ∀ x ∈ L', x.k = pl ∨ ∃ y ∈ L, y.k = x.k
theorem putTo_N {L : List Ent} {pl v : Int} {tp u : Nat} (h : Laid1 L) (hL : ∀ x ∈ L, x.k ≠ pl) (hv : v = 0 ∨ v = 2 ∨ v = 4) : PutTo L (L ++ [⟨pl, tp, v, u⟩]) pl (some v) := by
  refine ⟨⟨?_, fun x hx => ?_⟩, fun k => ?_, by simp, fun x hx => ?_⟩
  · rw [List.map_append]
    refine List.nodup_append.mpr ⟨h.nodup, by simp, fun a ha b hb => ?_⟩
    obtain ⟨x, hx, rfl⟩ := List.mem_map.mp ha
    rw [List.map_singleton, List.mem_singleton] at hb
    rw [hb]; exact hL x hx
  · rcases List.mem_append.mp hx with q | q
    · exact h.vals x q
    · rw [List.mem_singleton.mp q]; exact hv
  · by_cases hk : k = pl
    · subst hk
      rw [if_pos rfl, dig_append hL, dig_cons_eq rfl]
    · rw [if_neg hk, dig_append2 (fun x hx => by rw [List.mem_singleton.mp hx]; exact fun q => hk q.symm)]
  · rcases List.mem_append.mp hx with q | q
    · exact .inr ⟨x, q, rfl⟩
    · rw [List.mem_singleton.mp q]; exact .inl rfl
theorem putTo_P {L1 L2 : List Ent} {e : Ent} {pl : Int} (h : Laid1 (L1 ++ e :: L2)) (he : e.k = pl) (h1 : ∀ x ∈ L1, x.k ≠ pl) (h2 : ∀ x ∈ L2, x.k ≠ pl) : PutTo (L1 ++ e :: L2) (L1 ++ L2) pl none := by
  have hs : List.Sublist (L1 ++ L2) (L1 ++ e :: L2) := List.Sublist.append (List.Sublist.refl _) (List.sublist_cons_self ..)
  refine ⟨⟨(h.nodup.sublist (hs.map _)), fun x hx => h.vals x (hs.subset hx)⟩, fun k => ?_, by simp; omega, fun x hx => .inr ⟨x, hs.subset hx, rfl⟩⟩
  by_cases hk : k = pl
  · subst hk
    rw [if_pos rfl]
    exact dig_none fun x hx => (List.mem_append.mp hx).elim (h1 x) (h2 x)
  · rw [if_neg hk]
    unfold dig
    rw [List.find?_append, List.find?_append, List.find?_cons_of_neg (by simpa [he] using fun q : pl = k => hk q.symm)]
theorem PutTo.trans {L L' L'' : List Ent} {pl : Int} {a b : Option Int} (h : PutTo L L' pl a) (h' : PutTo L' L'' pl b) (hl : L'.length ≤ L.length) : PutTo L L'' pl b :=
  ⟨h'.laid, fun k => by rw [h'.dig k, h.dig k]; split <;> rfl, Nat.le_trans h'.len (by omega), fun x hx => (h'.keys x hx).elim .inl fun ⟨y, hy, e⟩ => (h.keys y hy).elim (fun q => .inl (e ▸ q)) fun ⟨z, hz, q⟩ => .inr ⟨z, hz, q.trans e⟩⟩
theorem putTo_S {L1 L2 : List Ent} {e : Ent} {pl v : Int} {tp u : Nat} (h : Laid1 (L1 ++ e :: L2)) (he : e.k = pl) (h1 : ∀ x ∈ L1, x.k ≠ pl) (h2 : ∀ x ∈ L2, x.k ≠ pl) (hv : v = 0 ∨ v = 2 ∨ v = 4) : PutTo (L1 ++ e :: L2) ((L1 ++ L2) ++ [⟨pl, tp, v, u⟩]) pl (some v) := by
  have q := putTo_P h he h1 h2
  exact q.trans (putTo_N q.laid (fun x hx => (List.mem_append.mp hx).elim (h1 x) (h2 x)) hv) (by simp)
theorem put_ret {w : World} {X : CxW} {s : Shared} {p : Pos} {d : Addr} {tc tp ep : Nat} {c pl : Int} {L : List Ent} (htop : TopIn w s) (hd : s.heap.get? d = some (dO L ep)) (h140 : 140 ≤ d) (hL : Laid1 L) (hz : L.length ≤ 1000) (hc0 : 0 ≤ c) (hc : c < 6) :
    ∃ t L' ep' s', Returns (model prog w) (X.ctx (putC d c tc pl tp)) p s (.ok (.ret (.int (upF c (dig L pl)) t))) s' ∧ s'.heap.get? d = some (dO L' ep') ∧ Step s s' [d] ∧ PutTo L L' pl (newF c (dig L pl)) := by
  have hc' : c = 0 ∨ c = 1 ∨ c = 2 ∨ c = 3 ∨ c = 4 ∨ c = 5 := by omega
  rcases laid_split L hL.nodup pl with h0 | ⟨L1, e, L2, rfl, he, h1, h2⟩
  · rw [dig_none h0]
    rcases hc' with rfl | rfl | rfl | rfl | rfl | rfl
    · obtain ⟨t, u, s', r, g, st⟩ := put_N (X := X) (p := p) (tc := tc) (tp := tp) htop hd h140 h0 hz rfl rfl (fun al tk => (List.cons.inj (put_runs0 w X p d tc tp 0 0 ep pl L [] [] al tk)).1)
      exact ⟨t, _, _, s', r, g, st, putTo_N hL h0 (by decide)⟩
    · obtain ⟨t, u, s', r, g, st⟩ := put_N (X := X) (p := p) (tc := tc) (tp := tp) htop hd h140 h0 hz rfl rfl (fun al tk => (List.cons.inj (put_runs1 w X p d tc tp 0 0 ep pl L [] [] al tk)).1)
      exact ⟨t, _, _, s', r, g, st, putTo_N hL h0 (by decide)⟩
    · obtain ⟨t, u, s', r, g, st⟩ := put_N (X := X) (p := p) (tc := tc) (tp := tp) htop hd h140 h0 hz rfl rfl (fun al tk => (List.cons.inj (put_runs2 w X p d tc tp 0 0 ep pl L [] [] al tk)).1)
      exact ⟨t, _, _, s', r, g, st, putTo_N hL h0 (by decide)⟩
    · obtain ⟨t, u, s', r, g, st⟩ := put_N (X := X) (p := p) (tc := tc) (tp := tp) htop hd h140 h0 hz rfl rfl (fun al tk => (List.cons.inj (put_runs3 w X p d tc tp 0 0 ep pl L [] [] al tk)).1)
      exact ⟨t, _, _, s', r, g, st, putTo_N hL h0 (by decide)⟩
    · obtain ⟨t, u, s', r, g, st⟩ := put_N (X := X) (p := p) (tc := tc) (tp := tp) htop hd h140 h0 hz rfl rfl (fun al tk => (List.cons.inj (put_runs4 w X p d tc tp 0 0 ep pl L [] [] al tk)).1)
      exact ⟨t, _, _, s', r, g, st, putTo_N hL h0 (by decide)⟩
    · obtain ⟨t, u, s', r, g, st⟩ := put_N (X := X) (p := p) (tc := tc) (tp := tp) htop hd h140 h0 hz rfl rfl (fun al tk => (List.cons.inj (put_runs5 w X p d tc tp 0 0 ep pl L [] [] al tk)).1)
      exact ⟨t, _, _, s', r, g, st, putTo_N hL h0 (by decide)⟩
  · rw [dig_append h1, dig_cons_eq he]
    obtain ⟨ek, te, ev, ue⟩ := e
    dsimp only at he
    subst he
    have hv := hL.vals _ (List.mem_append_right _ (.head _))
    dsimp only at hv ⊢
    rcases hv with rfl | rfl | rfl
    · rcases hc' with rfl | rfl | rfl | rfl | rfl | rfl
      · obtain ⟨t, s', r, g, st⟩ := put_P (X := X) (p := p) (tc := tc) (tp := tp) _ htop hd h140 rfl h1 hz rfl rfl (fun al tk => (List.cons.inj ((List.cons.inj (put_runs0 w X p d tc tp te ue ep ek [] L1 L2 al tk)).2)).1)
        exact ⟨t, _, _, s', r, g, st, putTo_P hL rfl h1 h2⟩
      · obtain ⟨t, u, s', r, g, st⟩ := put_S (X := X) (p := p) (tc := tc) (tp := tp) _ htop hd h140 rfl h1 h2 hz rfl rfl rfl (fun al tk => (List.cons.inj ((List.cons.inj (put_runs1 w X p d tc tp te ue ep ek [] L1 L2 al tk)).2)).1)
        exact ⟨t, _, _, s', r, g, st, putTo_S hL rfl h1 h2 (by decide)⟩
      · obtain ⟨t, u, s', r, g, st⟩ := put_S (X := X) (p := p) (tc := tc) (tp := tp) _ htop hd h140 rfl h1 h2 hz rfl rfl rfl (fun al tk => (List.cons.inj ((List.cons.inj (put_runs2 w X p d tc tp te ue ep ek [] L1 L2 al tk)).2)).1)
        exact ⟨t, _, _, s', r, g, st, putTo_S hL rfl h1 h2 (by decide)⟩
      · obtain ⟨t, s', r, g, st⟩ := put_P (X := X) (p := p) (tc := tc) (tp := tp) _ htop hd h140 rfl h1 hz rfl rfl (fun al tk => (List.cons.inj ((List.cons.inj (put_runs3 w X p d tc tp te ue ep ek [] L1 L2 al tk)).2)).1)
        exact ⟨t, _, _, s', r, g, st, putTo_P hL rfl h1 h2⟩
      · obtain ⟨t, u, s', r, g, st⟩ := put_S (X := X) (p := p) (tc := tc) (tp := tp) _ htop hd h140 rfl h1 h2 hz rfl rfl rfl (fun al tk => (List.cons.inj ((List.cons.inj (put_runs4 w X p d tc tp te ue ep ek [] L1 L2 al tk)).2)).1)
        exact ⟨t, _, _, s', r, g, st, putTo_S hL rfl h1 h2 (by decide)⟩
      · obtain ⟨t, u, s', r, g, st⟩ := put_S (X := X) (p := p) (tc := tc) (tp := tp) _ htop hd h140 rfl h1 h2 hz rfl rfl rfl (fun al tk => (List.cons.inj ((List.cons.inj (put_runs5 w X p d tc tp te ue ep ek [] L1 L2 al tk)).2)).1)
        exact ⟨t, _, _, s', r, g, st, putTo_S hL rfl h1 h2 (by decide)⟩
    · rcases hc' with rfl | rfl | rfl | rfl | rfl | rfl
      · obtain ⟨t, u, s', r, g, st⟩ := put_S (X := X) (p := p) (tc := tc) (tp := tp) _ htop hd h140 rfl h1 h2 hz rfl rfl rfl (fun al tk => (List.cons.inj ((List.cons.inj ((List.cons.inj (put_runs0 w X p d tc tp te ue ep ek [] L1 L2 al tk)).2)).2)).1)
        exact ⟨t, _, _, s', r, g, st, putTo_S hL rfl h1 h2 (by decide)⟩
      · obtain ⟨t, u, s', r, g, st⟩ := put_S (X := X) (p := p) (tc := tc) (tp := tp) _ htop hd h140 rfl h1 h2 hz rfl rfl rfl (fun al tk => (List.cons.inj ((List.cons.inj ((List.cons.inj (put_runs1 w X p d tc tp te ue ep ek [] L1 L2 al tk)).2)).2)).1)
        exact ⟨t, _, _, s', r, g, st, putTo_S hL rfl h1 h2 (by decide)⟩
      · obtain ⟨t, s', r, g, st⟩ := put_P (X := X) (p := p) (tc := tc) (tp := tp) _ htop hd h140 rfl h1 hz rfl rfl (fun al tk => (List.cons.inj ((List.cons.inj ((List.cons.inj (put_runs2 w X p d tc tp te ue ep ek [] L1 L2 al tk)).2)).2)).1)
        exact ⟨t, _, _, s', r, g, st, putTo_P hL rfl h1 h2⟩
      · obtain ⟨t, u, s', r, g, st⟩ := put_S (X := X) (p := p) (tc := tc) (tp := tp) _ htop hd h140 rfl h1 h2 hz rfl rfl rfl (fun al tk => (List.cons.inj ((List.cons.inj ((List.cons.inj (put_runs3 w X p d tc tp te ue ep ek [] L1 L2 al tk)).2)).2)).1)
        exact ⟨t, _, _, s', r, g, st, putTo_S hL rfl h1 h2 (by decide)⟩
      · obtain ⟨t, u, s', r, g, st⟩ := put_S (X := X) (p := p) (tc := tc) (tp := tp) _ htop hd h140 rfl h1 h2 hz rfl rfl rfl (fun al tk => (List.cons.inj ((List.cons.inj ((List.cons.inj (put_runs4 w X p d tc tp te ue ep ek [] L1 L2 al tk)).2)).2)).1)
        exact ⟨t, _, _, s', r, g, st, putTo_S hL rfl h1 h2 (by decide)⟩
      · obtain ⟨t, s', r, g, st⟩ := put_P (X := X) (p := p) (tc := tc) (tp := tp) _ htop hd h140 rfl h1 hz rfl rfl (fun al tk => (List.cons.inj ((List.cons.inj ((List.cons.inj (put_runs5 w X p d tc tp te ue ep ek [] L1 L2 al tk)).2)).2)).1)
        exact ⟨t, _, _, s', r, g, st, putTo_P hL rfl h1 h2⟩
    · rcases hc' with rfl | rfl | rfl | rfl | rfl | rfl
      · obtain ⟨t, u, s', r, g, st⟩ := put_S (X := X) (p := p) (tc := tc) (tp := tp) _ htop hd h140 rfl h1 h2 hz rfl rfl rfl (fun al tk => (List.cons.inj ((List.cons.inj ((List.cons.inj ((List.cons.inj (put_runs0 w X p d tc tp te ue ep ek [] L1 L2 al tk)).2)).2)).2)).1)
        exact ⟨t, _, _, s', r, g, st, putTo_S hL rfl h1 h2 (by decide)⟩
      · obtain ⟨t, s', r, g, st⟩ := put_P (X := X) (p := p) (tc := tc) (tp := tp) _ htop hd h140 rfl h1 hz rfl rfl (fun al tk => (List.cons.inj ((List.cons.inj ((List.cons.inj ((List.cons.inj (put_runs1 w X p d tc tp te ue ep ek [] L1 L2 al tk)).2)).2)).2)).1)
        exact ⟨t, _, _, s', r, g, st, putTo_P hL rfl h1 h2⟩
      · obtain ⟨t, u, s', r, g, st⟩ := put_S (X := X) (p := p) (tc := tc) (tp := tp) _ htop hd h140 rfl h1 h2 hz rfl rfl rfl (fun al tk => (List.cons.inj ((List.cons.inj ((List.cons.inj ((List.cons.inj (put_runs2 w X p d tc tp te ue ep ek [] L1 L2 al tk)).2)).2)).2)).1)
        exact ⟨t, _, _, s', r, g, st, putTo_S hL rfl h1 h2 (by decide)⟩
      · obtain ⟨t, u, s', r, g, st⟩ := put_S (X := X) (p := p) (tc := tc) (tp := tp) _ htop hd h140 rfl h1 h2 hz rfl rfl rfl (fun al tk => (List.cons.inj ((List.cons.inj ((List.cons.inj ((List.cons.inj (put_runs3 w X p d tc tp te ue ep ek [] L1 L2 al tk)).2)).2)).2)).1)
        exact ⟨t, _, _, s', r, g, st, putTo_S hL rfl h1 h2 (by decide)⟩
      · obtain ⟨t, s', r, g, st⟩ := put_P (X := X) (p := p) (tc := tc) (tp := tp) _ htop hd h140 rfl h1 hz rfl rfl (fun al tk => (List.cons.inj ((List.cons.inj ((List.cons.inj ((List.cons.inj (put_runs4 w X p d tc tp te ue ep ek [] L1 L2 al tk)).2)).2)).2)).1)
        exact ⟨t, _, _, s', r, g, st, putTo_P hL rfl h1 h2⟩
      · obtain ⟨t, u, s', r, g, st⟩ := put_S (X := X) (p := p) (tc := tc) (tp := tp) _ htop hd h140 rfl h1 h2 hz rfl rfl rfl (fun al tk => (List.cons.inj ((List.cons.inj ((List.cons.inj ((List.cons.inj (put_runs5 w X p d tc tp te ue ep ek [] L1 L2 al tk)).2)).2)).2)).1)
        exact ⟨t, _, _, s', r, g, st, putTo_S hL rfl h1 h2 (by decide)⟩
end Mine
namespace Mine
open PySem PySem.W PySem.W.X
open Sem (wp finPost)
/-! the turns of the loop of _law_due (the kernel runs them) -/
noncomputable def dueFr (w : World) (d ta tb tp k1 k2 k3 k4 : Nat) (a b pl : Int) : Obj := frO w [("a", k1, (.int a ta)), ("b", k2, (.int b tb)), ("place", k3, (.int pl tp)), ("due", k4, (.ref d))] 4
noncomputable def dueCx (f : Nat) (bl : List (Code × Pos)) : Ctx := ⟨dueLoop f, none, none, bl, none⟩
noncomputable def trDueX : List Nat := [256, 1, 256, 1]
noncomputable def eDueX (w : World) (bl : List (Code × Pos)) (f d ta tb tp k1 k2 k3 k4 ep : Nat) (a b pl : Int) (L : List Ent) (tk0 : Nat → Nat) : RLog := .call (.bi 455125451010842570354538 [(.int a ta), (.int 0 (tk0 0))]) none 2 1 [] (orcV fun _ => .bool false) fun al1 tk1 => .call (.bi 455125451010842570354538 [(.int b tb), (.int 0 (tk1 2))]) none 2 3 [] (orcV fun _ => .bool false) fun al2 tk2 => .ret (.ok .next) [some (f, dueFr w d ta tb tp k1 k2 k3 k4 a b pl), some (d, dO L ep)]
theorem run_dueX (w : World) (bl : List (Code × Pos)) (p : Pos) (f d ta tb tp k1 k2 k3 k4 ep : Nat) (a b pl : Int) (L : List Ent) (al0 tk0 : Nat → Nat) : mixA [0, 1] (seg (VV w) 13 trDueX [orcV fun _ => .bool false, orcV fun _ => .bool false] (dueCx f bl) p [] (denF (dueCx f bl).code) (mkT [(f, dueFr w d ta tb tp k1 k2 k3 k4 a b pl), (d, dO L ep)] []) 2 0 al0 tk0) = mixB (seg (VV w) 13 trDueX [orcV fun _ => .bool false, orcV fun _ => .bool false] (dueCx f bl) p [] (denF (dueCx f bl).code) (mkT [(f, dueFr w d ta tb tp k1 k2 k3 k4 a b pl), (d, dO L ep)] []) 2 0 al0 tk0) (eDueX w bl f d ta tb tp k1 k2 k3 k4 ep a b pl L tk0) := by kernel_rfl
noncomputable def trDueC1 : List Nat := [256, 1, 256, 1, 0, 256, 1, 0, 256, 256, 257, 257, 1, 256, 1, 256, 1, 258, 258, 258, 0, 258, 259, 259, 0, 259, 259, 259, 258, 259, 259, 259, 0, 259, 259, 259, 258, 259, 259, 259, 0, 259, 259, 259, 258, 259, 259, 261, 256, 256, 256, 256, 256, 1, 1, 256, 1, 1, 256, 1, 262, 262, 262, 0, 262, 263, 263, 0, 263, 263, 263, 262, 263, 263, 263, 0, 263, 263, 263, 262, 263, 263, 263, 0, 263, 263, 263, 262, 263, 263, 263, 0, 263, 263, 263, 262, 263, 263, 265, 256, 256, 256, 256, 256, 256, 255]
noncomputable def eDueC1 (w : World) (bl : List (Code × Pos)) (f d ta tb tp k1 k2 k3 k4 ep : Nat) (a b pl : Int) (L : List Ent) (tk0 : Nat → Nat) : RLog := .call (.bi 455125451010842570354538 [(.int a ta), (.int 0 (tk0 0))]) none 2 1 [] (orcV fun _ => .bool true) fun al1 tk1 => .call (.bi 116512097088030077292474218 [(.int a ta), (.int 2 (tk1 2))]) none 2 3 [] (orcV fun t => .int 1 t) fun al2 tk2 => .call (.bi 116512097088030077292474218 [(.int b tb), (.int 2 (tk2 5))]) none 2 6 [] (orcV fun t => .int 1 t) fun al3 tk3 => .call (.bi 128106587276438692082622197436938218085 [(.ref d), (.int pl tp), (.int 4 (tk3 8))]) none 2 9 [some (d, dO L ep)] (oSet 1 L ep) fun al4 tk4 => .call (.bi 116512096292018843154739050 [(.int a ta), (.int 1 (tk4 10))]) none 2 11 [] (orcV fun t => .int (a + 1) t) fun al5 tk5 => .call (.bi 116512096292018843154739050 [(.int b tb), (.int 1 (tk5 12))]) none 2 13 [] (orcV fun t => .int (b + 1) t) fun al6 tk6 => .call (.bi 128106770130096871752080967664072486762 [(.int (a + 1) (tk5 11)), (.int 2 (tk6 16))]) none 6 17 [] (orcV fun t => .int (Int.fdiv (a + 1) 2) t) fun al7 tk7 => .call (.bi 116512151707967833018560362 [(.int (Int.fdiv (a + 1) 2) (tk7 17))]) none 6 18 [] (orcV fun t => .int (-(Int.fdiv (a + 1) 2)) t) fun al8 tk8 => .call (.bi 128106770130096871752080967664072486762 [(.int (b + 1) (tk6 13)), (.int 2 (tk8 19))]) none 6 20 [] (orcV fun t => .int (Int.fdiv (b + 1) 2) t) fun al9 tk9 => .call (.bi 116512151707967833018560362 [(.int (Int.fdiv (b + 1) 2) (tk9 20))]) none 6 21 [] (orcV fun t => .int (-(Int.fdiv (b + 1) 2)) t) fun al10 tk10 => .call (.bi 116512096292018843154739050 [(.int pl tp), (.int 1 (tk10 22))]) none 6 23 [] (orcV fun t => .int (pl + 1) t) fun al11 tk11 => .again (dueCx f bl) [some (f, dueFr w d (tk8 18) (tk10 21) (tk11 23) k1 k2 k3 k4 (-(Int.fdiv (a + 1) 2)) (-(Int.fdiv (b + 1) 2)) (pl + 1)), some (d, dO (L ++ [⟨pl, tp, 4, (tk3 8)⟩]) (ep + 1))]
theorem run_dueC1 (w : World) (bl : List (Code × Pos)) (p : Pos) (f d ta tb tp k1 k2 k3 k4 ep : Nat) (a b pl : Int) (L : List Ent) (al0 tk0 : Nat → Nat) : mixA [0, 1] (seg (VV w) 207 trDueC1 [orcV fun _ => .bool true, orcV fun t => .int 1 t, orcV fun t => .int 1 t, oSet 1 L ep, orcV fun t => .int (a + 1) t, orcV fun t => .int (b + 1) t, orcV fun t => .int (Int.fdiv (a + 1) 2) t, orcV fun t => .int (-(Int.fdiv (a + 1) 2)) t, orcV fun t => .int (Int.fdiv (b + 1) 2) t, orcV fun t => .int (-(Int.fdiv (b + 1) 2)) t, orcV fun t => .int (pl + 1) t] (dueCx f bl) p [] (denF (dueCx f bl).code) (mkT [(f, dueFr w d ta tb tp k1 k2 k3 k4 a b pl), (d, dO L ep)] []) 2 0 al0 tk0) = mixB (seg (VV w) 207 trDueC1 [orcV fun _ => .bool true, orcV fun t => .int 1 t, orcV fun t => .int 1 t, oSet 1 L ep, orcV fun t => .int (a + 1) t, orcV fun t => .int (b + 1) t, orcV fun t => .int (Int.fdiv (a + 1) 2) t, orcV fun t => .int (-(Int.fdiv (a + 1) 2)) t, orcV fun t => .int (Int.fdiv (b + 1) 2) t, orcV fun t => .int (-(Int.fdiv (b + 1) 2)) t, orcV fun t => .int (pl + 1) t] (dueCx f bl) p [] (denF (dueCx f bl).code) (mkT [(f, dueFr w d ta tb tp k1 k2 k3 k4 a b pl), (d, dO L ep)] []) 2 0 al0 tk0) (eDueC1 w bl f d ta tb tp k1 k2 k3 k4 ep a b pl L tk0) := by kernel_rfl
noncomputable def trDueA1 : List Nat := [256, 1, 256, 1, 0, 256, 1, 0, 256, 1, 0, 256, 256, 257, 257, 1, 256, 1, 256, 256, 256, 1, 1, 256, 1, 1, 256, 1, 258, 258, 258, 0, 258, 259, 259, 0, 259, 259, 259, 258, 259, 259, 259, 0, 259, 259, 259, 258, 259, 259, 259, 0, 259, 259, 259, 258, 259, 259, 259, 0, 259, 259, 259, 258, 259, 259, 261, 256, 256, 256, 256, 256, 256, 255]
noncomputable def eDueA1 (w : World) (bl : List (Code × Pos)) (f d ta tb tp k1 k2 k3 k4 ep : Nat) (a b pl : Int) (L : List Ent) (tk0 : Nat → Nat) : RLog := .call (.bi 455125451010842570354538 [(.int a ta), (.int 0 (tk0 0))]) none 2 1 [] (orcV fun _ => .bool true) fun al1 tk1 => .call (.bi 116512097088030077292474218 [(.int a ta), (.int 2 (tk1 2))]) none 2 3 [] (orcV fun t => .int 1 t) fun al2 tk2 => .call (.bi 116512097088030077292474218 [(.int b tb), (.int 2 (tk2 5))]) none 2 6 [] (orcV fun t => .int 0 t) fun al3 tk3 => .call (.bi 116512097088030077292474218 [(.int a ta), (.int 2 (tk3 8))]) none 2 9 [] (orcV fun t => .int 1 t) fun al4 tk4 => .call (.bi 128106587276438692082622197436938218085 [(.ref d), (.int pl tp), (.int 0 (tk4 11))]) none 2 12 [some (d, dO L ep)] (oSet 1 L ep) fun al5 tk5 => .call (.bi 116512060628576343961202538 [(.int a ta), (.int 1 (tk5 13))]) none 2 14 [] (orcV fun t => .int (a - 1) t) fun al6 tk6 => .call (.bi 128106770130096871752080967664072486762 [(.int (a - 1) (tk6 14)), (.int 2 (tk6 16))]) none 2 17 [] (orcV fun t => .int (Int.fdiv (a - 1) 2) t) fun al7 tk7 => .call (.bi 116512151707967833018560362 [(.int (Int.fdiv (a - 1) 2) (tk7 17))]) none 2 18 [] (orcV fun t => .int (-(Int.fdiv (a - 1) 2)) t) fun al8 tk8 => .call (.bi 128106770130096871752080967664072486762 [(.int b tb), (.int 2 (tk8 19))]) none 2 20 [] (orcV fun t => .int (Int.fdiv b 2) t) fun al9 tk9 => .call (.bi 116512151707967833018560362 [(.int (Int.fdiv b 2) (tk9 20))]) none 2 21 [] (orcV fun t => .int (-(Int.fdiv b 2)) t) fun al10 tk10 => .call (.bi 116512096292018843154739050 [(.int pl tp), (.int 1 (tk10 22))]) none 2 23 [] (orcV fun t => .int (pl + 1) t) fun al11 tk11 => .again (dueCx f bl) [some (f, dueFr w d (tk8 18) (tk10 21) (tk11 23) k1 k2 k3 k4 (-(Int.fdiv (a - 1) 2)) (-(Int.fdiv b 2)) (pl + 1)), some (d, dO (L ++ [⟨pl, tp, 0, (tk4 11)⟩]) (ep + 1))]
theorem run_dueA1 (w : World) (bl : List (Code × Pos)) (p : Pos) (f d ta tb tp k1 k2 k3 k4 ep : Nat) (a b pl : Int) (L : List Ent) (al0 tk0 : Nat → Nat) : mixA [0, 1] (seg (VV w) 161 trDueA1 [orcV fun _ => .bool true, orcV fun t => .int 1 t, orcV fun t => .int 0 t, orcV fun t => .int 1 t, oSet 1 L ep, orcV fun t => .int (a - 1) t, orcV fun t => .int (Int.fdiv (a - 1) 2) t, orcV fun t => .int (-(Int.fdiv (a - 1) 2)) t, orcV fun t => .int (Int.fdiv b 2) t, orcV fun t => .int (-(Int.fdiv b 2)) t, orcV fun t => .int (pl + 1) t] (dueCx f bl) p [] (denF (dueCx f bl).code) (mkT [(f, dueFr w d ta tb tp k1 k2 k3 k4 a b pl), (d, dO L ep)] []) 2 0 al0 tk0) = mixB (seg (VV w) 161 trDueA1 [orcV fun _ => .bool true, orcV fun t => .int 1 t, orcV fun t => .int 0 t, orcV fun t => .int 1 t, oSet 1 L ep, orcV fun t => .int (a - 1) t, orcV fun t => .int (Int.fdiv (a - 1) 2) t, orcV fun t => .int (-(Int.fdiv (a - 1) 2)) t, orcV fun t => .int (Int.fdiv b 2) t, orcV fun t => .int (-(Int.fdiv b 2)) t, orcV fun t => .int (pl + 1) t] (dueCx f bl) p [] (denF (dueCx f bl).code) (mkT [(f, dueFr w d ta tb tp k1 k2 k3 k4 a b pl), (d, dO L ep)] []) 2 0 al0 tk0) (eDueA1 w bl f d ta tb tp k1 k2 k3 k4 ep a b pl L tk0) := by kernel_rfl
noncomputable def trDueB1 : List Nat := [256, 1, 256, 1, 0, 256, 1, 0, 256, 1, 0, 256, 256, 257, 257, 1, 256, 1, 256, 256, 256, 1, 1, 256, 1, 1, 256, 1, 258, 258, 258, 0, 258, 259, 259, 0, 259, 259, 259, 258, 259, 259, 259, 0, 259, 259, 259, 258, 259, 259, 259, 0, 259, 259, 259, 258, 259, 259, 259, 0, 259, 259, 259, 258, 259, 259, 261, 256, 256, 256, 256, 256, 256, 255]
noncomputable def eDueB1 (w : World) (bl : List (Code × Pos)) (f d ta tb tp k1 k2 k3 k4 ep : Nat) (a b pl : Int) (L : List Ent) (tk0 : Nat → Nat) : RLog := .call (.bi 455125451010842570354538 [(.int a ta), (.int 0 (tk0 0))]) none 2 1 [] (orcV fun _ => .bool true) fun al1 tk1 => .call (.bi 116512097088030077292474218 [(.int a ta), (.int 2 (tk1 2))]) none 2 3 [] (orcV fun t => .int 0 t) fun al2 tk2 => .call (.bi 116512097088030077292474218 [(.int a ta), (.int 2 (tk2 5))]) none 2 6 [] (orcV fun t => .int 0 t) fun al3 tk3 => .call (.bi 116512097088030077292474218 [(.int b tb), (.int 2 (tk3 8))]) none 2 9 [] (orcV fun t => .int 1 t) fun al4 tk4 => .call (.bi 128106587276438692082622197436938218085 [(.ref d), (.int pl tp), (.int 2 (tk4 11))]) none 2 12 [some (d, dO L ep)] (oSet 1 L ep) fun al5 tk5 => .call (.bi 116512060628576343961202538 [(.int b tb), (.int 1 (tk5 13))]) none 2 14 [] (orcV fun t => .int (b - 1) t) fun al6 tk6 => .call (.bi 128106770130096871752080967664072486762 [(.int a ta), (.int 2 (tk6 16))]) none 2 17 [] (orcV fun t => .int (Int.fdiv a 2) t) fun al7 tk7 => .call (.bi 116512151707967833018560362 [(.int (Int.fdiv a 2) (tk7 17))]) none 2 18 [] (orcV fun t => .int (-(Int.fdiv a 2)) t) fun al8 tk8 => .call (.bi 128106770130096871752080967664072486762 [(.int (b - 1) (tk6 14)), (.int 2 (tk8 19))]) none 2 20 [] (orcV fun t => .int (Int.fdiv (b - 1) 2) t) fun al9 tk9 => .call (.bi 116512151707967833018560362 [(.int (Int.fdiv (b - 1) 2) (tk9 20))]) none 2 21 [] (orcV fun t => .int (-(Int.fdiv (b - 1) 2)) t) fun al10 tk10 => .call (.bi 116512096292018843154739050 [(.int pl tp), (.int 1 (tk10 22))]) none 2 23 [] (orcV fun t => .int (pl + 1) t) fun al11 tk11 => .again (dueCx f bl) [some (f, dueFr w d (tk8 18) (tk10 21) (tk11 23) k1 k2 k3 k4 (-(Int.fdiv a 2)) (-(Int.fdiv (b - 1) 2)) (pl + 1)), some (d, dO (L ++ [⟨pl, tp, 2, (tk4 11)⟩]) (ep + 1))]
theorem run_dueB1 (w : World) (bl : List (Code × Pos)) (p : Pos) (f d ta tb tp k1 k2 k3 k4 ep : Nat) (a b pl : Int) (L : List Ent) (al0 tk0 : Nat → Nat) : mixA [0, 1] (seg (VV w) 162 trDueB1 [orcV fun _ => .bool true, orcV fun t => .int 0 t, orcV fun t => .int 0 t, orcV fun t => .int 1 t, oSet 1 L ep, orcV fun t => .int (b - 1) t, orcV fun t => .int (Int.fdiv a 2) t, orcV fun t => .int (-(Int.fdiv a 2)) t, orcV fun t => .int (Int.fdiv (b - 1) 2) t, orcV fun t => .int (-(Int.fdiv (b - 1) 2)) t, orcV fun t => .int (pl + 1) t] (dueCx f bl) p [] (denF (dueCx f bl).code) (mkT [(f, dueFr w d ta tb tp k1 k2 k3 k4 a b pl), (d, dO L ep)] []) 2 0 al0 tk0) = mixB (seg (VV w) 162 trDueB1 [orcV fun _ => .bool true, orcV fun t => .int 0 t, orcV fun t => .int 0 t, orcV fun t => .int 1 t, oSet 1 L ep, orcV fun t => .int (b - 1) t, orcV fun t => .int (Int.fdiv a 2) t, orcV fun t => .int (-(Int.fdiv a 2)) t, orcV fun t => .int (Int.fdiv (b - 1) 2) t, orcV fun t => .int (-(Int.fdiv (b - 1) 2)) t, orcV fun t => .int (pl + 1) t] (dueCx f bl) p [] (denF (dueCx f bl).code) (mkT [(f, dueFr w d ta tb tp k1 k2 k3 k4 a b pl), (d, dO L ep)] []) 2 0 al0 tk0) (eDueB1 w bl f d ta tb tp k1 k2 k3 k4 ep a b pl L tk0) := by kernel_rfl
noncomputable def trDueZ1 : List Nat := [256, 1, 256, 1, 0, 256, 1, 0, 256, 1, 0, 256, 1, 1, 256, 1, 1, 256, 1, 258, 258, 258, 0, 258, 259, 259, 0, 259, 259, 259, 258, 259, 259, 259, 0, 259, 259, 259, 258, 259, 259, 259, 0, 259, 259, 259, 258, 259, 259, 259, 0, 259, 259, 259, 258, 259, 259, 261, 256, 256, 256, 256, 256, 256, 255]
noncomputable def eDueZ1 (w : World) (bl : List (Code × Pos)) (f d ta tb tp k1 k2 k3 k4 ep : Nat) (a b pl : Int) (L : List Ent) (tk0 : Nat → Nat) : RLog := .call (.bi 455125451010842570354538 [(.int a ta), (.int 0 (tk0 0))]) none 2 1 [] (orcV fun _ => .bool true) fun al1 tk1 => .call (.bi 116512097088030077292474218 [(.int a ta), (.int 2 (tk1 2))]) none 2 3 [] (orcV fun t => .int 0 t) fun al2 tk2 => .call (.bi 116512097088030077292474218 [(.int a ta), (.int 2 (tk2 5))]) none 2 6 [] (orcV fun t => .int 0 t) fun al3 tk3 => .call (.bi 116512097088030077292474218 [(.int b tb), (.int 2 (tk3 8))]) none 2 9 [] (orcV fun t => .int 0 t) fun al4 tk4 => .call (.bi 128106770130096871752080967664072486762 [(.int a ta), (.int 2 (tk4 11))]) none 2 12 [] (orcV fun t => .int (Int.fdiv a 2) t) fun al5 tk5 => .call (.bi 116512151707967833018560362 [(.int (Int.fdiv a 2) (tk5 12))]) none 2 13 [] (orcV fun t => .int (-(Int.fdiv a 2)) t) fun al6 tk6 => .call (.bi 128106770130096871752080967664072486762 [(.int b tb), (.int 2 (tk6 14))]) none 2 15 [] (orcV fun t => .int (Int.fdiv b 2) t) fun al7 tk7 => .call (.bi 116512151707967833018560362 [(.int (Int.fdiv b 2) (tk7 15))]) none 2 16 [] (orcV fun t => .int (-(Int.fdiv b 2)) t) fun al8 tk8 => .call (.bi 116512096292018843154739050 [(.int pl tp), (.int 1 (tk8 17))]) none 2 18 [] (orcV fun t => .int (pl + 1) t) fun al9 tk9 => .again (dueCx f bl) [some (f, dueFr w d (tk6 13) (tk8 16) (tk9 18) k1 k2 k3 k4 (-(Int.fdiv a 2)) (-(Int.fdiv b 2)) (pl + 1)), some (d, dO L ep)]
theorem run_dueZ1 (w : World) (bl : List (Code × Pos)) (p : Pos) (f d ta tb tp k1 k2 k3 k4 ep : Nat) (a b pl : Int) (L : List Ent) (al0 tk0 : Nat → Nat) : mixA [0, 1] (seg (VV w) 139 trDueZ1 [orcV fun _ => .bool true, orcV fun t => .int 0 t, orcV fun t => .int 0 t, orcV fun t => .int 0 t, orcV fun t => .int (Int.fdiv a 2) t, orcV fun t => .int (-(Int.fdiv a 2)) t, orcV fun t => .int (Int.fdiv b 2) t, orcV fun t => .int (-(Int.fdiv b 2)) t, orcV fun t => .int (pl + 1) t] (dueCx f bl) p [] (denF (dueCx f bl).code) (mkT [(f, dueFr w d ta tb tp k1 k2 k3 k4 a b pl), (d, dO L ep)] []) 2 0 al0 tk0) = mixB (seg (VV w) 139 trDueZ1 [orcV fun _ => .bool true, orcV fun t => .int 0 t, orcV fun t => .int 0 t, orcV fun t => .int 0 t, orcV fun t => .int (Int.fdiv a 2) t, orcV fun t => .int (-(Int.fdiv a 2)) t, orcV fun t => .int (Int.fdiv b 2) t, orcV fun t => .int (-(Int.fdiv b 2)) t, orcV fun t => .int (pl + 1) t] (dueCx f bl) p [] (denF (dueCx f bl).code) (mkT [(f, dueFr w d ta tb tp k1 k2 k3 k4 a b pl), (d, dO L ep)] []) 2 0 al0 tk0) (eDueZ1 w bl f d ta tb tp k1 k2 k3 k4 ep a b pl L tk0) := by kernel_rfl
noncomputable def trDueB2 : List Nat := [256, 1, 256, 1, 256, 1, 0, 256, 1, 0, 256, 1, 0, 256, 256, 257, 257, 1, 256, 1, 256, 256, 256, 1, 1, 256, 1, 1, 256, 1, 258, 258, 258, 0, 258, 259, 259, 0, 259, 259, 259, 258, 259, 259, 259, 0, 259, 259, 259, 258, 259, 259, 259, 0, 259, 259, 259, 258, 259, 259, 259, 0, 259, 259, 259, 258, 259, 259, 261, 256, 256, 256, 256, 256, 256, 255]
noncomputable def eDueB2 (w : World) (bl : List (Code × Pos)) (f d ta tb tp k1 k2 k3 k4 ep : Nat) (a b pl : Int) (L : List Ent) (tk0 : Nat → Nat) : RLog := .call (.bi 455125451010842570354538 [(.int a ta), (.int 0 (tk0 0))]) none 2 1 [] (orcV fun _ => .bool false) fun al1 tk1 => .call (.bi 455125451010842570354538 [(.int b tb), (.int 0 (tk1 2))]) none 2 3 [] (orcV fun _ => .bool true) fun al2 tk2 => .call (.bi 116512097088030077292474218 [(.int a ta), (.int 2 (tk2 4))]) none 2 5 [] (orcV fun t => .int 0 t) fun al3 tk3 => .call (.bi 116512097088030077292474218 [(.int a ta), (.int 2 (tk3 7))]) none 2 8 [] (orcV fun t => .int 0 t) fun al4 tk4 => .call (.bi 116512097088030077292474218 [(.int b tb), (.int 2 (tk4 10))]) none 2 11 [] (orcV fun t => .int 1 t) fun al5 tk5 => .call (.bi 128106587276438692082622197436938218085 [(.ref d), (.int pl tp), (.int 2 (tk5 13))]) none 2 14 [some (d, dO L ep)] (oSet 1 L ep) fun al6 tk6 => .call (.bi 116512060628576343961202538 [(.int b tb), (.int 1 (tk6 15))]) none 2 16 [] (orcV fun t => .int (b - 1) t) fun al7 tk7 => .call (.bi 128106770130096871752080967664072486762 [(.int a ta), (.int 2 (tk7 18))]) none 2 19 [] (orcV fun t => .int (Int.fdiv a 2) t) fun al8 tk8 => .call (.bi 116512151707967833018560362 [(.int (Int.fdiv a 2) (tk8 19))]) none 2 20 [] (orcV fun t => .int (-(Int.fdiv a 2)) t) fun al9 tk9 => .call (.bi 128106770130096871752080967664072486762 [(.int (b - 1) (tk7 16)), (.int 2 (tk9 21))]) none 2 22 [] (orcV fun t => .int (Int.fdiv (b - 1) 2) t) fun al10 tk10 => .call (.bi 116512151707967833018560362 [(.int (Int.fdiv (b - 1) 2) (tk10 22))]) none 2 23 [] (orcV fun t => .int (-(Int.fdiv (b - 1) 2)) t) fun al11 tk11 => .call (.bi 116512096292018843154739050 [(.int pl tp), (.int 1 (tk11 24))]) none 2 25 [] (orcV fun t => .int (pl + 1) t) fun al12 tk12 => .again (dueCx f bl) [some (f, dueFr w d (tk9 20) (tk11 23) (tk12 25) k1 k2 k3 k4 (-(Int.fdiv a 2)) (-(Int.fdiv (b - 1) 2)) (pl + 1)), some (d, dO (L ++ [⟨pl, tp, 2, (tk5 13)⟩]) (ep + 1))]
theorem run_dueB2 (w : World) (bl : List (Code × Pos)) (p : Pos) (f d ta tb tp k1 k2 k3 k4 ep : Nat) (a b pl : Int) (L : List Ent) (al0 tk0 : Nat → Nat) : mixA [0, 1] (seg (VV w) 168 trDueB2 [orcV fun _ => .bool false, orcV fun _ => .bool true, orcV fun t => .int 0 t, orcV fun t => .int 0 t, orcV fun t => .int 1 t, oSet 1 L ep, orcV fun t => .int (b - 1) t, orcV fun t => .int (Int.fdiv a 2) t, orcV fun t => .int (-(Int.fdiv a 2)) t, orcV fun t => .int (Int.fdiv (b - 1) 2) t, orcV fun t => .int (-(Int.fdiv (b - 1) 2)) t, orcV fun t => .int (pl + 1) t] (dueCx f bl) p [] (denF (dueCx f bl).code) (mkT [(f, dueFr w d ta tb tp k1 k2 k3 k4 a b pl), (d, dO L ep)] []) 2 0 al0 tk0) = mixB (seg (VV w) 168 trDueB2 [orcV fun _ => .bool false, orcV fun _ => .bool true, orcV fun t => .int 0 t, orcV fun t => .int 0 t, orcV fun t => .int 1 t, oSet 1 L ep, orcV fun t => .int (b - 1) t, orcV fun t => .int (Int.fdiv a 2) t, orcV fun t => .int (-(Int.fdiv a 2)) t, orcV fun t => .int (Int.fdiv (b - 1) 2) t, orcV fun t => .int (-(Int.fdiv (b - 1) 2)) t, orcV fun t => .int (pl + 1) t] (dueCx f bl) p [] (denF (dueCx f bl).code) (mkT [(f, dueFr w d ta tb tp k1 k2 k3 k4 a b pl), (d, dO L ep)] []) 2 0 al0 tk0) (eDueB2 w bl f d ta tb tp k1 k2 k3 k4 ep a b pl L tk0) := by kernel_rfl
noncomputable def trDueZ2 : List Nat := [256, 1, 256, 1, 256, 1, 0, 256, 1, 0, 256, 1, 0, 256, 1, 1, 256, 1, 1, 256, 1, 258, 258, 258, 0, 258, 259, 259, 0, 259, 259, 259, 258, 259, 259, 259, 0, 259, 259, 259, 258, 259, 259, 259, 0, 259, 259, 259, 258, 259, 259, 259, 0, 259, 259, 259, 258, 259, 259, 261, 256, 256, 256, 256, 256, 256, 255]
noncomputable def eDueZ2 (w : World) (bl : List (Code × Pos)) (f d ta tb tp k1 k2 k3 k4 ep : Nat) (a b pl : Int) (L : List Ent) (tk0 : Nat → Nat) : RLog := .call (.bi 455125451010842570354538 [(.int a ta), (.int 0 (tk0 0))]) none 2 1 [] (orcV fun _ => .bool false) fun al1 tk1 => .call (.bi 455125451010842570354538 [(.int b tb), (.int 0 (tk1 2))]) none 2 3 [] (orcV fun _ => .bool true) fun al2 tk2 => .call (.bi 116512097088030077292474218 [(.int a ta), (.int 2 (tk2 4))]) none 2 5 [] (orcV fun t => .int 0 t) fun al3 tk3 => .call (.bi 116512097088030077292474218 [(.int a ta), (.int 2 (tk3 7))]) none 2 8 [] (orcV fun t => .int 0 t) fun al4 tk4 => .call (.bi 116512097088030077292474218 [(.int b tb), (.int 2 (tk4 10))]) none 2 11 [] (orcV fun t => .int 0 t) fun al5 tk5 => .call (.bi 128106770130096871752080967664072486762 [(.int a ta), (.int 2 (tk5 13))]) none 2 14 [] (orcV fun t => .int (Int.fdiv a 2) t) fun al6 tk6 => .call (.bi 116512151707967833018560362 [(.int (Int.fdiv a 2) (tk6 14))]) none 2 15 [] (orcV fun t => .int (-(Int.fdiv a 2)) t) fun al7 tk7 => .call (.bi 128106770130096871752080967664072486762 [(.int b tb), (.int 2 (tk7 16))]) none 2 17 [] (orcV fun t => .int (Int.fdiv b 2) t) fun al8 tk8 => .call (.bi 116512151707967833018560362 [(.int (Int.fdiv b 2) (tk8 17))]) none 2 18 [] (orcV fun t => .int (-(Int.fdiv b 2)) t) fun al9 tk9 => .call (.bi 116512096292018843154739050 [(.int pl tp), (.int 1 (tk9 19))]) none 2 20 [] (orcV fun t => .int (pl + 1) t) fun al10 tk10 => .again (dueCx f bl) [some (f, dueFr w d (tk7 15) (tk9 18) (tk10 20) k1 k2 k3 k4 (-(Int.fdiv a 2)) (-(Int.fdiv b 2)) (pl + 1)), some (d, dO L ep)]
theorem run_dueZ2 (w : World) (bl : List (Code × Pos)) (p : Pos) (f d ta tb tp k1 k2 k3 k4 ep : Nat) (a b pl : Int) (L : List Ent) (al0 tk0 : Nat → Nat) : mixA [0, 1] (seg (VV w) 145 trDueZ2 [orcV fun _ => .bool false, orcV fun _ => .bool true, orcV fun t => .int 0 t, orcV fun t => .int 0 t, orcV fun t => .int 0 t, orcV fun t => .int (Int.fdiv a 2) t, orcV fun t => .int (-(Int.fdiv a 2)) t, orcV fun t => .int (Int.fdiv b 2) t, orcV fun t => .int (-(Int.fdiv b 2)) t, orcV fun t => .int (pl + 1) t] (dueCx f bl) p [] (denF (dueCx f bl).code) (mkT [(f, dueFr w d ta tb tp k1 k2 k3 k4 a b pl), (d, dO L ep)] []) 2 0 al0 tk0) = mixB (seg (VV w) 145 trDueZ2 [orcV fun _ => .bool false, orcV fun _ => .bool true, orcV fun t => .int 0 t, orcV fun t => .int 0 t, orcV fun t => .int 0 t, orcV fun t => .int (Int.fdiv a 2) t, orcV fun t => .int (-(Int.fdiv a 2)) t, orcV fun t => .int (Int.fdiv b 2) t, orcV fun t => .int (-(Int.fdiv b 2)) t, orcV fun t => .int (pl + 1) t] (dueCx f bl) p [] (denF (dueCx f bl).code) (mkT [(f, dueFr w d ta tb tp k1 k2 k3 k4 a b pl), (d, dO L ep)] []) 2 0 al0 tk0) (eDueZ2 w bl f d ta tb tp k1 k2 k3 k4 ep a b pl L tk0) := by kernel_rfl
end Mine
namespace Mine
open PySem PySem.W PySem.W.X
open Sem (wp finPost)
/-! the loop of _law_due -/
noncomputable def dueF : Nat → Int → Int → Int → Option (List (Int × Int))
  | 0, _, _, _ => none
  | n + 1, a, b, pl => if a = 0 ∧ b = 0 then some [] else
    if a.fmod 2 = 1 ∧ b.fmod 2 = 1 then (dueF n (-(Int.fdiv (a + 1) 2)) (-(Int.fdiv (b + 1) 2)) (pl + 1)).map ((pl, 4) :: ·)
    else if a.fmod 2 = 1 then (dueF n (-(Int.fdiv (a - 1) 2)) (-(Int.fdiv b 2)) (pl + 1)).map ((pl, 0) :: ·)
    else if b.fmod 2 = 1 then (dueF n (-(Int.fdiv a 2)) (-(Int.fdiv (b - 1) 2)) (pl + 1)).map ((pl, 2) :: ·)
    else dueF n (-(Int.fdiv a 2)) (-(Int.fdiv b 2)) (pl + 1)
/-- what a dict of ints bears -/
noncomputable def Ent.kv (x : Ent) : Int × Int := (x.k, x.v)
theorem fmod2 (a : Int) : a.fmod 2 = 0 ∨ a.fmod 2 = 1 := by
  rw [Int.fmod_eq_emod_of_nonneg _ (by decide)]
  omega
structure DueAt (w : World) (f d : Nat) (a b pl : Int) (L : List Ent) (s : Shared) : Prop where
  fr : ∃ ta tb tp k1 k2 k3 k4, s.heap.get? f = some (dueFr w d ta tb tp k1 k2 k3 k4 a b pl)
  dd : ∃ ep, s.heap.get? d = some (dO L ep)
  lt : ∀ x ∈ L, x.k < pl
noncomputable def dueR (w : World) (f d : Nat) (s₀ : Shared) (r0 : List (Int × Int)) : Result → Shared → Prop := fun r s' => r = .ok .next ∧ Step s₀ s' [f, d] ∧ TopIn w s' ∧ (∃ L ep, s'.heap.get? d = some (dO L ep) ∧ L.map Ent.kv = r0) ∧ ∃ pl ta tb tp k1 k2 k3 k4, s'.heap.get? f = some (dueFr w d ta tb tp k1 k2 k3 k4 0 0 pl)
theorem due_rep {w : World} {s : Shared} {f d : Addr} {o o' : Obj} (htop : TopIn w s) (hf : s.heap.get? f = some o) (hd : s.heap.get? d = some o') (h1 : 140 ≤ f) (h2 : 140 ≤ d) (hne : f ≠ d) : Rep (VV w) s [f, d] (mkT [(f, o), (d, o')] []) 2 0 (alOf 2 [] s.heap.objs.size) (alOf 0 [] s.toks) s :=
  rep_start (V := VV w) (cs := [(f, o), (d, o')]) (rs := []) htop (fun c hc => by
    rcases List.mem_cons.mp hc with rfl | hc
    · exact hf
    · rw [List.mem_singleton.mp hc]; exact hd) (by simp [hne]) (fun c hc => by
    rcases List.mem_cons.mp hc with rfl | hc
    · exact top_off h1
    · rw [List.mem_singleton.mp hc]; exact top_off h2) (fun c hc => by cases hc) (by simp)
theorem due_loop {w : World} {f d : Nat} (h1 : 140 ≤ f) (h2 : 140 ≤ d) (hne : f ≠ d) (bl : List (Code × Pos)) (s₀ : Shared) : ∀ (n : Nat) (a b pl : Int) (L : List Ent) (r : List (Int × Int)) (p : Pos) (s : Shared), dueF n a b pl = some r → Step s₀ s [f, d] → TopIn w s → DueAt w f d a b pl L s → L.length + n ≤ 1000 →
    wpCode (model prog w) (dueCx f bl) (dueR w f d s₀ (L.map Ent.kv ++ r)) p s := by
  intro n
  induction n with
  | zero => intro a b pl L r p s h; cases h
  | succ n ih =>
    intro a b pl L r p s h st htop D hz
    obtain ⟨ta, tb, tp, k1, k2, k3, k4, hf⟩ := D.fr
    obtain ⟨ep, hd⟩ := D.dd
    have hL : ∀ x ∈ L, x.k ≠ pl := fun x hx e => by have := D.lt x hx; omega
    have lt' : ∀ x ∈ L, x.k < pl + 1 := fun x hx => by have := D.lt x hx; omega
    have lt2 : ∀ (x : Ent) (u t : Nat) (v : Int), x ∈ L ++ [⟨pl, u, v, t⟩] → x.k < pl + 1 := fun x u t v hx => by
      rcases List.mem_append.mp hx with q | q
      · exact lt' x q
      · rw [List.mem_singleton.mp q]; exact Int.lt_succ pl
    have hz1 : L.length ≤ 1000 := by omega
    have D0 := due_rep htop hf hd h1 h2 hne
    unfold dueF at h
    by_cases e0 : a = 0 ∧ b = 0
    · rw [if_pos e0] at h
      cases h
      obtain ⟨rfl, rfl⟩ := e0
      have ha : (0 != (0 : Int)) = false := rfl
      have hb : (0 != (0 : Int)) = false := rfl
      rw [List.append_nil]
      exact run_mix (isM w) (skip_ok _ w) D0 (run_dueX w bl p f d ta tb tp k1 k2 k3 k4 ep 0 0 pl L _ _)
        (okr_ne false ha rfl fun al1 tk1 => okr_ne false hb rfl fun al2 tk2 =>  fun s' hn hc => ⟨rfl, st.trans hn.step |>.mono (by simp), htop.step hn.step (by simp [h1, h2]), ⟨L, ep, hc.2.1, rfl⟩, _, _, _, _, _, _, _, _, hc.1⟩)
    · rw [if_neg e0] at h
      by_cases ea : a = 0
      · have ha : (a != 0) = false := by simp [ea]
        have hb : (b != 0) = true := by simp; exact fun q => e0 ⟨ea, q⟩
        have ha2 : a.fmod 2 = 0 := by rw [ea]; rfl
        rw [if_neg (by rw [ha2]; simp), if_neg (by rw [ha2]; simp)] at h
        rcases fmod2 b with hb2 | hb2
        · rw [if_neg (by rw [hb2]; simp)] at h
          refine run_mix (isM w) (skip_ok _ w) D0 (run_dueZ2 w bl p f d ta tb tp k1 k2 k3 k4 ep a b pl L _ _)
            (okr_ne false ha rfl fun al1 tk1 => okr_ne true hb rfl fun al2 tk2 => okr_mod 0 rfl ha2 rfl fun al3 tk3 => okr_mod 0 rfl ha2 rfl fun al4 tk4 => okr_mod 0 rfl hb2 rfl fun al5 tk5 => okr_fdiv (Int.fdiv a 2) rfl (fun _ => rfl) rfl rfl fun al6 tk6 => okr_neg (-(Int.fdiv a 2)) rfl rfl fun al7 tk7 => okr_fdiv (Int.fdiv b 2) rfl (fun _ => rfl) rfl rfl fun al8 tk8 => okr_neg (-(Int.fdiv b 2)) rfl rfl fun al9 tk9 => okr_add (pl + 1) rfl rfl fun al10 tk10 => fun p' s' hn hc => ?_)
          exact ih _ _ _ L r p' s' h (st.trans hn.step |>.mono (by simp)) (htop.step hn.step (by simp [h1, h2])) ⟨⟨_, _, _, _, _, _, _, hc.1⟩, ⟨_, hc.2.1⟩, lt'⟩ (by omega)
        · rw [if_pos hb2] at h
          obtain ⟨r', hr', rfl⟩ := Option.map_eq_some_iff.mp h
          refine run_mix (isM w) (skip_ok _ w) D0 (run_dueB2 w bl p f d ta tb tp k1 k2 k3 k4 ep a b pl L _ _)
            (okr_ne false ha rfl fun al1 tk1 => okr_ne true hb rfl fun al2 tk2 => okr_mod 0 rfl ha2 rfl fun al3 tk3 => okr_mod 0 rfl ha2 rfl fun al4 tk4 => okr_mod 1 rfl hb2 rfl fun al5 tk5 => okr_set hL hz1 rfl rfl fun al6 tk6 => okr_sub (b - 1) rfl rfl fun al7 tk7 => okr_fdiv (Int.fdiv a 2) rfl (fun _ => rfl) rfl rfl fun al8 tk8 => okr_neg (-(Int.fdiv a 2)) rfl rfl fun al9 tk9 => okr_fdiv (Int.fdiv (b - 1) 2) rfl (fun _ => rfl) rfl rfl fun al10 tk10 => okr_neg (-(Int.fdiv (b - 1) 2)) rfl rfl fun al11 tk11 => okr_add (pl + 1) rfl rfl fun al12 tk12 => fun p' s' hn hc => ?_)
          have := ih _ _ _ (L ++ [⟨pl, tp, 2, _⟩]) r' p' s' hr' (st.trans hn.step |>.mono (by simp)) (htop.step hn.step (by simp [h1, h2])) ⟨⟨_, _, _, _, _, _, _, hc.1⟩, ⟨_, hc.2.1⟩, fun x hx => lt2 x _ _ _ hx⟩ (by simp only [List.length_append, List.length_singleton]; omega)
          rw [List.map_append, List.append_assoc] at this
          exact this
      · have ha : (a != 0) = true := by simp [ea]
        rcases fmod2 a with ha2 | ha2
        · rw [if_neg (by rw [ha2]; simp), if_neg (by rw [ha2]; simp)] at h
          rcases fmod2 b with hb2 | hb2
          · rw [if_neg (by rw [hb2]; simp)] at h
            refine run_mix (isM w) (skip_ok _ w) D0 (run_dueZ1 w bl p f d ta tb tp k1 k2 k3 k4 ep a b pl L _ _)
              (okr_ne true ha rfl fun al1 tk1 => okr_mod 0 rfl ha2 rfl fun al2 tk2 => okr_mod 0 rfl ha2 rfl fun al3 tk3 => okr_mod 0 rfl hb2 rfl fun al4 tk4 => okr_fdiv (Int.fdiv a 2) rfl (fun _ => rfl) rfl rfl fun al5 tk5 => okr_neg (-(Int.fdiv a 2)) rfl rfl fun al6 tk6 => okr_fdiv (Int.fdiv b 2) rfl (fun _ => rfl) rfl rfl fun al7 tk7 => okr_neg (-(Int.fdiv b 2)) rfl rfl fun al8 tk8 => okr_add (pl + 1) rfl rfl fun al9 tk9 => fun p' s' hn hc => ?_)
            exact ih _ _ _ L r p' s' h (st.trans hn.step |>.mono (by simp)) (htop.step hn.step (by simp [h1, h2])) ⟨⟨_, _, _, _, _, _, _, hc.1⟩, ⟨_, hc.2.1⟩, lt'⟩ (by omega)
          · rw [if_pos hb2] at h
            obtain ⟨r', hr', rfl⟩ := Option.map_eq_some_iff.mp h
            refine run_mix (isM w) (skip_ok _ w) D0 (run_dueB1 w bl p f d ta tb tp k1 k2 k3 k4 ep a b pl L _ _)
              (okr_ne true ha rfl fun al1 tk1 => okr_mod 0 rfl ha2 rfl fun al2 tk2 => okr_mod 0 rfl ha2 rfl fun al3 tk3 => okr_mod 1 rfl hb2 rfl fun al4 tk4 => okr_set hL hz1 rfl rfl fun al5 tk5 => okr_sub (b - 1) rfl rfl fun al6 tk6 => okr_fdiv (Int.fdiv a 2) rfl (fun _ => rfl) rfl rfl fun al7 tk7 => okr_neg (-(Int.fdiv a 2)) rfl rfl fun al8 tk8 => okr_fdiv (Int.fdiv (b - 1) 2) rfl (fun _ => rfl) rfl rfl fun al9 tk9 => okr_neg (-(Int.fdiv (b - 1) 2)) rfl rfl fun al10 tk10 => okr_add (pl + 1) rfl rfl fun al11 tk11 => fun p' s' hn hc => ?_)
            have := ih _ _ _ (L ++ [⟨pl, tp, 2, _⟩]) r' p' s' hr' (st.trans hn.step |>.mono (by simp)) (htop.step hn.step (by simp [h1, h2])) ⟨⟨_, _, _, _, _, _, _, hc.1⟩, ⟨_, hc.2.1⟩, fun x hx => lt2 x _ _ _ hx⟩ (by simp only [List.length_append, List.length_singleton]; omega)
            rw [List.map_append, List.append_assoc] at this
            exact this
        · rcases fmod2 b with hb2 | hb2
          · rw [if_neg (by rw [hb2]; simp), if_pos ha2] at h
            obtain ⟨r', hr', rfl⟩ := Option.map_eq_some_iff.mp h
            refine run_mix (isM w) (skip_ok _ w) D0 (run_dueA1 w bl p f d ta tb tp k1 k2 k3 k4 ep a b pl L _ _)
              (okr_ne true ha rfl fun al1 tk1 => okr_mod 1 rfl ha2 rfl fun al2 tk2 => okr_mod 0 rfl hb2 rfl fun al3 tk3 => okr_mod 1 rfl ha2 rfl fun al4 tk4 => okr_set hL hz1 rfl rfl fun al5 tk5 => okr_sub (a - 1) rfl rfl fun al6 tk6 => okr_fdiv (Int.fdiv (a - 1) 2) rfl (fun _ => rfl) rfl rfl fun al7 tk7 => okr_neg (-(Int.fdiv (a - 1) 2)) rfl rfl fun al8 tk8 => okr_fdiv (Int.fdiv b 2) rfl (fun _ => rfl) rfl rfl fun al9 tk9 => okr_neg (-(Int.fdiv b 2)) rfl rfl fun al10 tk10 => okr_add (pl + 1) rfl rfl fun al11 tk11 => fun p' s' hn hc => ?_)
            have := ih _ _ _ (L ++ [⟨pl, tp, 0, _⟩]) r' p' s' hr' (st.trans hn.step |>.mono (by simp)) (htop.step hn.step (by simp [h1, h2])) ⟨⟨_, _, _, _, _, _, _, hc.1⟩, ⟨_, hc.2.1⟩, fun x hx => lt2 x _ _ _ hx⟩ (by simp only [List.length_append, List.length_singleton]; omega)
            rw [List.map_append, List.append_assoc] at this
            exact this
          · rw [if_pos ⟨ha2, hb2⟩] at h
            obtain ⟨r', hr', rfl⟩ := Option.map_eq_some_iff.mp h
            refine run_mix (isM w) (skip_ok _ w) D0 (run_dueC1 w bl p f d ta tb tp k1 k2 k3 k4 ep a b pl L _ _)
              (okr_ne true ha rfl fun al1 tk1 => okr_mod 1 rfl ha2 rfl fun al2 tk2 => okr_mod 1 rfl hb2 rfl fun al3 tk3 => okr_set hL hz1 rfl rfl fun al4 tk4 => okr_add (a + 1) rfl rfl fun al5 tk5 => okr_add (b + 1) rfl rfl fun al6 tk6 => okr_fdiv (Int.fdiv (a + 1) 2) rfl (fun _ => rfl) rfl rfl fun al7 tk7 => okr_neg (-(Int.fdiv (a + 1) 2)) rfl rfl fun al8 tk8 => okr_fdiv (Int.fdiv (b + 1) 2) rfl (fun _ => rfl) rfl rfl fun al9 tk9 => okr_neg (-(Int.fdiv (b + 1) 2)) rfl rfl fun al10 tk10 => okr_add (pl + 1) rfl rfl fun al11 tk11 => fun p' s' hn hc => ?_)
            have := ih _ _ _ (L ++ [⟨pl, tp, 4, _⟩]) r' p' s' hr' (st.trans hn.step |>.mono (by simp)) (htop.step hn.step (by simp [h1, h2])) ⟨⟨_, _, _, _, _, _, _, hc.1⟩, ⟨_, hc.2.1⟩, fun x hx => lt2 x _ _ _ hx⟩ (by simp only [List.length_append, List.length_singleton]; omega)
            rw [List.map_append, List.append_assoc] at this
            exact this
end Mine
namespace Mine
open PySem PySem.W PySem.W.X
open Sem (wp finPost)
/-! _law_due -/
/-- the context of a call from the law itself -/
structure CxL where
  e3 : Env
  b3 : List Stmt
  p3 : Pos
  p4 : Pos
noncomputable def CxL.below (X : CxL) : List (Code × Pos) := [(.func X.b3 X.e3, X.p3), (.builtin "claim.caller" {}, X.p4)]
noncomputable def CxL.ctx (X : CxL) (c : Code) : Ctx := ⟨c, none, none, [(.func X.b3 X.e3, X.p3), (.builtin "claim.caller" {}, X.p4)], none⟩
noncomputable def oDue (w : World) (d : Nat) : Orc := { ctx := true, sel := [0, 1], r := (fun _ _ _ _ _ => .ok .next), di := 10, upd := (fun _ _ i _ tk => [some (dueFr w d (tk i) (tk (i + 1)) (tk (i + 2)) (tk (i + 3)) (tk (i + 4)) (tk (i + 5)) (tk (i + 6)) 0 0 (decI (tk (i + 9)))), some (dO (decL (tk (i + 7))) (tk (i + 8)))]) }
theorem alOf_nil (m n k : Nat) (h : m ≤ k) : alOf m [] n k = n + (k - m) := by
  unfold alOf
  simp
theorem TopIn.size {w : World} {s : Shared} (h : TopIn w s) : 140 ≤ s.heap.objs.size := by
  have e : ((topKT w.params).get 139).isSome = true := by kernel_rfl
  obtain ⟨o, ho⟩ := Option.isSome_iff_exists.mp e
  exact Heap.lt_size (h 139 o ho)
theorem okr_due {w : World} {s₀ : Shared} {A₀ : List Addr} {R : Result → Shared → Prop} {m i : Nat} {next : (Nat → Nat) → (Nat → Nat) → RLog} {f d n ta tb tp k1 k2 k3 k4 : Nat} {bl : List (Code × Pos)} {p0 : Pos} {a b : Int} {r : List (Int × Int)} (hr : dueF n a b 0 = some r) (hn : n ≤ 1000) (h1 : 140 ≤ f) (h2 : 140 ≤ d) (hne : f ≠ d) (hm : m ≤ 1000)
    (ok : ∀ al tk, (decL (tk (i + 7))).map Ent.kv = r → OkR (VV w) (model prog w) s₀ A₀ R (next al tk)) :
    OkR (VV w) (model prog w) s₀ A₀ R (.call (.other (dueLoop f)) (some (dueCx f bl, p0)) m i [some (f, dueFr w d ta tb tp k1 k2 k3 k4 a b 0), some (d, dO [] 0)] (oDue w d) next) := by
  refine okr_gen fun c Γ p e1 e2 e3 s hnow hc => ?_
  obtain ⟨rfl, rfl⟩ := Prod.mk.inj (e3 _ rfl)
  refine viaG fun G hG => ?_
  have htop : TopIn w s := hnow.top
  obtain ⟨r', s', hr', rfl, st, _, ⟨L, ep, hL, hLr⟩, pl, ta', tb', tp', k1', k2', k3', k4', hf⟩ := due_loop h1 h2 hne bl s n a b 0 [] r p0 s hr ((Step.refl s).mono (by simp)) htop ⟨⟨_, _, _, _, _, _, _, hc.1⟩, ⟨_, hc.2.1⟩, fun x hx => by cases hx⟩ (by simpa using hn)
  let ts : List Nat := [ta', tb', tp', k1', k2', k3', k4', encN (encE L), ep, encI pl]
  have tk : ∀ k, k < 10 → alOf i ts s'.toks (i + k) = ts.getD k 0 := fun k hk => alOf_at i ts _ k (by simpa [ts] using hk)
  have t0 := tk 0 (by decide); have t1 := tk 1 (by decide); have t2 := tk 2 (by decide); have t3 := tk 3 (by decide); have t4 := tk 4 (by decide)
  have t5 := tk 5 (by decide); have t6 := tk 6 (by decide); have t7 := tk 7 (by decide); have t8 := tk 8 (by decide); have t9 := tk 9 (by decide)
  have hu : (oDue w d).upd c m i (alOf m [] s'.heap.objs.size) (alOf i ts s'.toks) = [some (dueFr w d ta' tb' tp' k1' k2' k3' k4' 0 0 pl), some (dO L ep)] := by
    simp only [oDue, Nat.add_zero] at t0 ⊢
    rw [t0, t1, t2, t3, t4, t5, t6, t7, t8, t9]
    show [some (dueFr w d ta' tb' tp' k1' k2' k3' k4' 0 0 (decI (encI pl))), some (dO (decL (encN (encE L))) ep)] = _
    rw [decI_enc, decL_enc]
  refine hG ⟨s', [], ts, rfl, rfl, _, _, rfl, rfl, hr', ?_, ?_, ?_, ⟨rfl, by simpa [oDue] using hm, fun k ob e => (by cases e), fun k hk => (by cases hk), fun k k' hk => (by cases hk)⟩, fun k a ob e => (by cases e), ok _ _ ?_⟩
  · rw [hu]; rfl
  · rw [hu]; exact ⟨hf, hL, trivial⟩
  · rw [hu]; exact st
  · rw [t7]
    show (decL (encN (encE L))).map Ent.kv = r
    rw [decL_enc, hLr]; rfl
noncomputable def trDue : List Nat := [134, 133, 256, 256, 256, 256, 2, 258, 258, 258, 0, 258, 259, 259, 0, 259, 259, 259, 258, 259, 259, 259, 0, 259, 259, 259, 258, 259, 259, 259, 0, 259, 259, 259, 258, 259, 259, 261, 256, 256, 256, 256, 1, 256]
noncomputable def dueC (a : Int) (ta : Nat) (b : Int) (tb : Nat) : Code := .call (.ref 134) ⟨[.int a ta, .int b tb], []⟩
noncomputable def eDue (w : World) (X : CxL) (a : Int) (ta : Nat) (b : Int) (tb : Nat) (al0 tk0 : Nat → Nat) : RLog := .call (.other (dueLoop (al0 0))) (some (dueCx (al0 0) ((.func (fnBody (st 16)) (envF (st 16) "_law_due.<locals>." 134 (al0 0)), ⟨169, 4, 179, 55⟩) :: X.below), ⟨169, 4, 179, 55⟩)) 6 5 [some ((al0 0), dueFr w (al0 1) ta tb (tk0 2) (tk0 0) (tk0 1) (tk0 3) (tk0 4) a b 0), some ((al0 1), dO [] 0)] (oDue w (al0 1)) fun al1 tk1 => .ret (.ok (.ret (.ref (al0 1)))) [some ((al0 1), dO (decL (tk1 12)) (tk1 13))]
theorem run_due (w : World) (X : CxL) (p : Pos) (a : Int) (ta : Nat) (b : Int) (tb : Nat) (al0 tk0 : Nat → Nat) : mixA [1] (seg (VV w) 85 trDue [oDue w (al0 1)] (X.ctx (dueC a ta b tb)) p [] (denF (X.ctx (dueC a ta b tb)).code) (mkT [] []) 0 0 al0 tk0) = mixB (seg (VV w) 85 trDue [oDue w (al0 1)] (X.ctx (dueC a ta b tb)) p [] (denF (X.ctx (dueC a ta b tb)).code) (mkT [] []) 0 0 al0 tk0) (eDue w X a ta b tb al0 tk0) := by kernel_rfl
theorem due_ret {w : World} {X : CxL} {s : Shared} {p : Pos} {a b : Int} {ta tb n : Nat} {r : List (Int × Int)} (htop : TopIn w s) (hr : dueF n a b 0 = some r) (hn : n ≤ 1000) :
    ∃ d L ep s', Returns (model prog w) (X.ctx (dueC a ta b tb)) p s (.ok (.ret (.ref d))) s' ∧ s'.heap.get? d = some (dO L ep) ∧ L.map Ent.kv = r ∧ Step s s' [] ∧ s.heap.objs.size ≤ d := by
  have hz := htop.size
  have D0 := rep_start (V := VV w) (s := s) (cs := []) (rs := []) htop (fun c hc => by cases hc) (by simp) (fun c hc => by cases hc) (fun c hc => by cases hc) (by simp)
  have a0 : alOf ([] : List Cell).length [] s.heap.objs.size 0 = s.heap.objs.size := alOf_nil 0 _ 0 (Nat.le_refl _)
  have a1 : alOf ([] : List Cell).length [] s.heap.objs.size 1 = s.heap.objs.size + 1 := alOf_nil 0 _ 1 (by decide)
  obtain ⟨r', s', h1, d, L, ep, h2, h3, h4, h5, h6⟩ := run_mix (fs := [1]) (R := fun r' s' => ∃ d L ep, r' = .ok (.ret (.ref d)) ∧ s'.heap.get? d = some (dO L ep) ∧ L.map Ent.kv = r ∧ Step s s' [] ∧ s.heap.objs.size ≤ d) (isM w) (skip_ok _ w) D0 (run_due w X p a ta b tb _ _)
    (okr_due hr hn (by rw [a0]; exact hz) (by rw [a1]; omega) (by rw [a0, a1]; omega) (by decide) fun al1 tk1 hL s' hnow hc => ⟨_, _, _, rfl, hc.1, hL, hnow.step, by rw [a1]; omega⟩)
  subst h2
  exact ⟨d, L, ep, s', h1, h3, h4, h5, h6⟩
end Mine
namespace Mine
open PySem PySem.W PySem.W.X
open Sem (wp finPost)
/-! the heap: lists of refs to tuples -/
noncomputable def lsO (as : List Nat) (ep : Nat) : Obj := { cls := .type "list", data := .seq (as.map Value.ref).toArray ep }
noncomputable def popC (h : Nat) : Code := .call (.ref 35) ⟨[.ref h], []⟩
noncomputable def pushC (h a : Nat) : Code := .call (.ref 28) ⟨[.ref h, .ref a], []⟩
noncomputable def upC (h : Nat) (i : Int) (ti : Nat) : Code := .call (.ref 56) ⟨[.ref h, .int i ti], []⟩
/-- the context of heapify's calls: its for, itself, the def that called it, the law -/
structure CxF where
  tg : PySem.Expr
  it : Value
  wb : List Stmt
  wo : List Stmt
  we : Env
  e1 : Env
  e2 : Env
  e3 : Env
  b1 : List Stmt
  b2 : List Stmt
  b3 : List Stmt
  p0 : Pos
  p1 : Pos
  p2 : Pos
  p3 : Pos
  p4 : Pos
noncomputable def CxF.ctx (X : CxF) (c : Code) : Ctx := ⟨c, none, none, [(.forLoop X.tg X.it X.wb X.wo X.we, X.p0), (.func X.b1 X.e1, X.p1), (.func X.b2 X.e2, X.p2), (.func X.b3 X.e3, X.p3), (.builtin "claim.caller" {}, X.p4)], none⟩
noncomputable def tkey (x : Tup) : Int := x.p * 100 + x.o * 10 + x.c
structure TupOk (x : Tup) : Prop where
  o0 : 0 ≤ x.o
  o1 : x.o ≤ 1
  c0 : 0 ≤ x.c
  c5 : x.c ≤ 5
theorem tlt_key {x y : Tup} (hx : TupOk x) (hy : TupOk y) : tupLt x y = decide (tkey x < tkey y) := by
  have := hx.o0; have := hx.o1; have := hx.c0; have := hx.c5; have := hy.o0; have := hy.o1; have := hy.c0; have := hy.c5
  unfold tupLt tkey
  by_cases h1 : x.p = y.p
  · rw [if_pos h1]
    by_cases h2 : x.o = y.o
    · rw [if_pos h2]; congr 1; apply propext; constructor <;> intro h <;> omega
    · rw [if_neg h2]; congr 1; apply propext; constructor <;> intro h <;> omega
  · rw [if_neg h1]; congr 1; apply propext; constructor <;> intro h <;> omega
/-- a heap of at most six -/
noncomputable def IsH : List Int → Prop
  | [] => True
  | [_] => True
  | [a, b] => a ≤ b
  | [a, b, c] => a ≤ b ∧ a ≤ c
  | [a, b, c, d] => a ≤ b ∧ a ≤ c ∧ b ≤ d
  | [a, b, c, d, e] => a ≤ b ∧ a ≤ c ∧ b ≤ d ∧ b ≤ e
  | [a, b, c, d, e, f] => a ≤ b ∧ a ≤ c ∧ b ≤ d ∧ b ≤ e ∧ c ≤ f
  | _ => False
noncomputable def IsH1 : List Int → Prop
  | [_, b, c, d, e, f] => b ≤ d ∧ b ≤ e ∧ c ≤ f
  | _ => False
noncomputable def IsH2 : List Int → Prop
  | [_, _, c, _, _, f] => c ≤ f
  | _ => False
structure HeapIn (w : World) (s : Shared) (h : Nat) (T : Nat → Tup) (as : List Nat) (ep : Nat) : Prop where
  top : TopIn w s
  low : 140 ≤ h
  lst : s.heap.get? h = some (lsO as ep)
  tup : ∀ a ∈ as, s.heap.get? a = some (tupO (T a)) ∧ a ∉ [h]
  ok : ∀ a ∈ as, TupOk (T a)
theorem HeapIn.rep {w : World} {s : Shared} {h : Nat} {T : Nat → Tup} {as : List Nat} {ep : Nat} (H : HeapIn w s h T as ep) :
    Rep (VV w) s [h] (mkT [(h, lsO as ep)] (as.map fun a => (a, tupO (T a)))) 1 0 (alOf 1 [] s.heap.objs.size) (alOf 0 [] s.toks) s :=
  rep_start (V := VV w) (cs := [(h, lsO as ep)]) (rs := as.map fun a => (a, tupO (T a))) H.top (fun c hc => by rw [List.mem_singleton.mp hc]; exact H.lst) (by simp) (fun c hc => by rw [List.mem_singleton.mp hc]; exact top_off H.low)
    (fun c hc => by obtain ⟨a, ha, rfl⟩ := List.mem_map.mp hc; exact H.tup a ha) (by simp)
theorem HeapIn.lt {w : World} {s : Shared} {h : Nat} {T : Nat → Tup} {as : List Nat} {ep : Nat} (H : HeapIn w s h T as ep) {a b : Nat} (ha : a ∈ as) (hb : b ∈ as) {q : Bool} (e : tupLt (T a) (T b) = q) : decide (tkey (T a) < tkey (T b)) = q := by
  rw [← e, tlt_key (H.ok a ha) (H.ok b hb)]
/-- one more tuple about to be pushed -/
structure HeapInP (w : World) (s : Shared) (h : Nat) (T : Nat → Tup) (as : List Nat) (an : Nat) (ep : Nat) : Prop where
  top : TopIn w s
  low : 140 ≤ h
  lst : s.heap.get? h = some (lsO as ep)
  tup : ∀ a ∈ as ++ [an], s.heap.get? a = some (tupO (T a)) ∧ a ∉ [h]
  ok : ∀ a ∈ as ++ [an], TupOk (T a)
theorem HeapInP.rep {w : World} {s : Shared} {h : Nat} {T : Nat → Tup} {as : List Nat} {an ep : Nat} (H : HeapInP w s h T as an ep) :
    Rep (VV w) s [h] (mkT [(h, lsO as ep)] ((as ++ [an]).map fun a => (a, tupO (T a)))) 1 0 (alOf 1 [] s.heap.objs.size) (alOf 0 [] s.toks) s :=
  rep_start (V := VV w) (cs := [(h, lsO as ep)]) (rs := (as ++ [an]).map fun a => (a, tupO (T a))) H.top (fun c hc => by rw [List.mem_singleton.mp hc]; exact H.lst) (by simp) (fun c hc => by rw [List.mem_singleton.mp hc]; exact top_off H.low)
    (fun c hc => by obtain ⟨a, ha, rfl⟩ := List.mem_map.mp hc; exact H.tup a ha) (by simp)
theorem HeapInP.lt {w : World} {s : Shared} {h : Nat} {T : Nat → Tup} {as : List Nat} {an ep : Nat} (H : HeapInP w s h T as an ep) {a b : Nat} (ha : a ∈ as ++ [an]) (hb : b ∈ as ++ [an]) {q : Bool} (e : tupLt (T a) (T b) = q) : decide (tkey (T a) < tkey (T b)) = q := by
  rw [← e, tlt_key (H.ok a ha) (H.ok b hb)]
end Mine
namespace Mine
open PySem PySem.W PySem.W.X
/-! the runs of heappop, heappush, _siftup (the kernel runs them) -/
noncomputable def trPop1_0 : List Nat := [35, 34, 257, 257, 2, 257, 256, 256, 256, 256, 0, 256, 256, 256, 256, 256, 257, 257, 257, 256, 256, 0, 256, 0, 256, 256, 257]
theorem run_pop1 (w : World) (X : CxW) (p : Pos) (h ep ti : Nat) (T : Nat → Tup) (a0 : Nat) (al0 tk0 : Nat → Nat) : [mixA [0] (seg (VV w) 58 trPop1_0 [] (X.ctx (popC h)) p [] (denF (X.ctx (popC h)).code) (mkT [(h, lsO [a0] ep)] [(a0, tupO (T a0))]) 1 0 al0 tk0)] = [mixB (seg (VV w) 58 trPop1_0 [] (X.ctx (popC h)) p [] (denF (X.ctx (popC h)).code) (mkT [(h, lsO [a0] ep)] [(a0, tupO (T a0))]) 1 0 al0 tk0) (.ret (.ok (.ret (.ref a0))) [some (h, lsO [] (ep + 1))])] := by kernel_rfl
noncomputable def trPop2_0 : List Nat := [35, 34, 257, 257, 2, 257, 256, 256, 256, 256, 0, 256, 256, 256, 256, 256, 257, 257, 257, 256, 256, 0, 256, 0, 256, 256, 257, 256, 256, 256, 0, 256, 256, 257, 257, 257, 257, 256, 256, 0, 256, 256, 256, 256, 3, 257, 56, 0, 56, 55, 258, 258, 258, 258, 2, 3, 0, 258, 0, 256, 0, 256, 256, 258, 258, 258, 258, 258, 258, 258, 256, 256, 256, 0, 256, 256, 258, 258, 258, 0, 0, 258, 258, 0, 258, 258, 0, 258, 258, 258, 256, 256, 0, 256, 256, 256, 256, 3, 258, 258, 258, 49, 0, 49, 48, 259, 259, 259, 259, 259, 259, 2, 259, 259, 256, 256, 256, 0, 256, 256, 259, 259, 0, 259, 259, 0, 259, 259, 259, 256, 256, 0, 256, 256, 256, 256, 257]
theorem run_pop2 (w : World) (X : CxW) (p : Pos) (h ep ti : Nat) (T : Nat → Tup) (a0 : Nat) (a1 : Nat) (al0 tk0 : Nat → Nat) : [mixA [0] (seg (VV w) 315 trPop2_0 [] (X.ctx (popC h)) p [] (denF (X.ctx (popC h)).code) (mkT [(h, lsO [a0, a1] ep)] [(a0, tupO (T a0)), (a1, tupO (T a1))]) 1 0 al0 tk0)] = [mixB (seg (VV w) 315 trPop2_0 [] (X.ctx (popC h)) p [] (denF (X.ctx (popC h)).code) (mkT [(h, lsO [a0, a1] ep)] [(a0, tupO (T a0)), (a1, tupO (T a1))]) 1 0 al0 tk0) (.ret (.ok (.ret (.ref a0))) [some (h, lsO [a1] (ep + 1))])] := by kernel_rfl
noncomputable def trPop3_0 : List Nat := [35, 34, 257, 257, 2, 257, 256, 256, 256, 256, 0, 256, 256, 256, 256, 256, 257, 257, 257, 256, 256, 0, 256, 0, 256, 256, 257, 256, 256, 256, 0, 256, 256, 257, 257, 257, 257, 256, 256, 0, 256, 256, 256, 256, 3, 257, 56, 0, 56, 55, 258, 258, 258, 258, 2, 3, 0, 258, 0, 256, 0, 256, 256, 258, 258, 258, 258, 258, 258, 258, 256, 256, 256, 0, 256, 256, 258, 258, 258, 0, 0, 258, 258, 0, 258, 258, 0, 258, 0, 258, 258, 258, 258, 0, 258, 258, 256, 256, 256, 0, 256, 256, 258, 258, 256, 256, 0, 256, 256, 256, 256, 258, 258, 258, 258, 0, 0, 258, 258, 258, 258, 0, 258, 258, 258, 256, 256, 0, 256, 256, 256, 256, 3, 258, 258, 258, 49, 0, 49, 48, 259, 259, 259, 259, 259, 259, 2, 259, 259, 256, 256, 256, 0, 256, 256, 259, 259, 0, 259, 259, 0, 259, 0, 0, 259, 259, 259, 259, 256, 256, 256, 0, 256, 256, 259, 259, 259, 259, 1258, 1257, 1258, 1, 259, 259, 259, 256, 256, 0, 256, 256, 256, 256, 259, 259, 259, 259, 259, 0, 259, 259, 259, 256, 256, 0, 256, 256, 256, 256, 257]
noncomputable def trPop3_1 : List Nat := [35, 34, 257, 257, 2, 257, 256, 256, 256, 256, 0, 256, 256, 256, 256, 256, 257, 257, 257, 256, 256, 0, 256, 0, 256, 256, 257, 256, 256, 256, 0, 256, 256, 257, 257, 257, 257, 256, 256, 0, 256, 256, 256, 256, 3, 257, 56, 0, 56, 55, 258, 258, 258, 258, 2, 3, 0, 258, 0, 256, 0, 256, 256, 258, 258, 258, 258, 258, 258, 258, 256, 256, 256, 0, 256, 256, 258, 258, 258, 0, 0, 258, 258, 0, 258, 258, 0, 258, 0, 258, 258, 258, 258, 0, 258, 258, 256, 256, 256, 0, 256, 256, 258, 258, 256, 256, 0, 256, 256, 256, 256, 258, 258, 258, 258, 0, 0, 258, 258, 258, 258, 0, 258, 258, 258, 256, 256, 0, 256, 256, 256, 256, 3, 258, 258, 258, 49, 0, 49, 48, 259, 259, 259, 259, 259, 259, 2, 259, 259, 256, 256, 256, 0, 256, 256, 259, 259, 0, 259, 259, 0, 259, 0, 0, 259, 259, 259, 259, 256, 256, 256, 0, 256, 256, 259, 259, 259, 259, 1258, 1257, 1258, 1, 259, 259, 259, 256, 256, 0, 256, 256, 256, 256, 257]
theorem run_pop3 (w : World) (X : CxW) (p : Pos) (h ep ti : Nat) (T : Nat → Tup) (a0 : Nat) (a1 : Nat) (a2 : Nat) (al0 tk0 : Nat → Nat) : [mixA [0] (seg (VV w) 508 trPop3_0 [orcV fun _ => .bool true] (X.ctx (popC h)) p [] (denF (X.ctx (popC h)).code) (mkT [(h, lsO [a0, a1, a2] ep)] [(a0, tupO (T a0)), (a1, tupO (T a1)), (a2, tupO (T a2))]) 1 0 al0 tk0), mixA [0] (seg (VV w) 470 trPop3_1 [orcV fun _ => .bool false] (X.ctx (popC h)) p [] (denF (X.ctx (popC h)).code) (mkT [(h, lsO [a0, a1, a2] ep)] [(a0, tupO (T a0)), (a1, tupO (T a1)), (a2, tupO (T a2))]) 1 0 al0 tk0)] = [mixB (seg (VV w) 508 trPop3_0 [orcV fun _ => .bool true] (X.ctx (popC h)) p [] (denF (X.ctx (popC h)).code) (mkT [(h, lsO [a0, a1, a2] ep)] [(a0, tupO (T a0)), (a1, tupO (T a1)), (a2, tupO (T a2))]) 1 0 al0 tk0) (.call (.bi 29827172356050333523556529781 [(.ref a2), (.ref a1)]) none 4 39 [] (orcV fun _ => .bool true) fun al1 tk1 => .ret (.ok (.ret (.ref a0))) [some (h, lsO [a2, a1] (ep + 1))]), mixB (seg (VV w) 470 trPop3_1 [orcV fun _ => .bool false] (X.ctx (popC h)) p [] (denF (X.ctx (popC h)).code) (mkT [(h, lsO [a0, a1, a2] ep)] [(a0, tupO (T a0)), (a1, tupO (T a1)), (a2, tupO (T a2))]) 1 0 al0 tk0) (.call (.bi 29827172356050333523556529781 [(.ref a2), (.ref a1)]) none 4 39 [] (orcV fun _ => .bool false) fun al1 tk1 => .ret (.ok (.ret (.ref a0))) [some (h, lsO [a1, a2] (ep + 1))])] := by kernel_rfl
noncomputable def trPop4_0 : List Nat := [35, 34, 257, 257, 2, 257, 256, 256, 256, 256, 0, 256, 256, 256, 256, 256, 257, 257, 257, 256, 256, 0, 256, 0, 256, 256, 257, 256, 256, 256, 0, 256, 256, 257, 257, 257, 257, 256, 256, 0, 256, 256, 256, 256, 3, 257, 56, 0, 56, 55, 258, 258, 258, 258, 2, 3, 0, 258, 0, 256, 0, 256, 256, 258, 258, 258, 258, 258, 258, 258, 256, 256, 256, 0, 256, 256, 258, 258, 258, 0, 0, 258, 258, 0, 258, 258, 0, 258, 0, 258, 258, 258, 258, 0, 258, 258, 256, 256, 256, 0, 256, 256, 258, 258, 256, 256, 256, 0, 256, 256, 1257, 1258, 1257, 1, 258, 258, 256, 256, 256, 0, 256, 256, 258, 258, 256, 256, 0, 256, 256, 256, 256, 258, 258, 258, 258, 0, 0, 258, 258, 258, 258, 0, 258, 258, 258, 256, 256, 0, 256, 256, 256, 256, 3, 258, 258, 258, 49, 0, 49, 48, 259, 259, 259, 259, 259, 259, 2, 259, 259, 256, 256, 256, 0, 256, 256, 259, 259, 0, 259, 259, 0, 259, 0, 0, 259, 259, 259, 259, 256, 256, 256, 0, 256, 256, 259, 259, 259, 259, 1259, 1257, 1259, 1, 259, 259, 259, 256, 256, 0, 256, 256, 256, 256, 259, 259, 259, 259, 259, 0, 259, 259, 259, 256, 256, 0, 256, 256, 256, 256, 257]
noncomputable def trPop4_1 : List Nat := [35, 34, 257, 257, 2, 257, 256, 256, 256, 256, 0, 256, 256, 256, 256, 256, 257, 257, 257, 256, 256, 0, 256, 0, 256, 256, 257, 256, 256, 256, 0, 256, 256, 257, 257, 257, 257, 256, 256, 0, 256, 256, 256, 256, 3, 257, 56, 0, 56, 55, 258, 258, 258, 258, 2, 3, 0, 258, 0, 256, 0, 256, 256, 258, 258, 258, 258, 258, 258, 258, 256, 256, 256, 0, 256, 256, 258, 258, 258, 0, 0, 258, 258, 0, 258, 258, 0, 258, 0, 258, 258, 258, 258, 0, 258, 258, 256, 256, 256, 0, 256, 256, 258, 258, 256, 256, 256, 0, 256, 256, 1257, 1258, 1257, 1, 258, 258, 256, 256, 256, 0, 256, 256, 258, 258, 256, 256, 0, 256, 256, 256, 256, 258, 258, 258, 258, 0, 0, 258, 258, 258, 258, 0, 258, 258, 258, 256, 256, 0, 256, 256, 256, 256, 3, 258, 258, 258, 49, 0, 49, 48, 259, 259, 259, 259, 259, 259, 2, 259, 259, 256, 256, 256, 0, 256, 256, 259, 259, 0, 259, 259, 0, 259, 0, 0, 259, 259, 259, 259, 256, 256, 256, 0, 256, 256, 259, 259, 259, 259, 1259, 1257, 1259, 1, 259, 259, 259, 256, 256, 0, 256, 256, 256, 256, 257]
noncomputable def trPop4_2 : List Nat := [35, 34, 257, 257, 2, 257, 256, 256, 256, 256, 0, 256, 256, 256, 256, 256, 257, 257, 257, 256, 256, 0, 256, 0, 256, 256, 257, 256, 256, 256, 0, 256, 256, 257, 257, 257, 257, 256, 256, 0, 256, 256, 256, 256, 3, 257, 56, 0, 56, 55, 258, 258, 258, 258, 2, 3, 0, 258, 0, 256, 0, 256, 256, 258, 258, 258, 258, 258, 258, 258, 256, 256, 256, 0, 256, 256, 258, 258, 258, 0, 0, 258, 258, 0, 258, 258, 0, 258, 0, 258, 258, 258, 258, 0, 258, 258, 256, 256, 256, 0, 256, 256, 258, 258, 256, 256, 256, 0, 256, 256, 1257, 1258, 1257, 1, 258, 258, 258, 258, 258, 256, 256, 256, 0, 256, 256, 258, 258, 256, 256, 0, 256, 256, 256, 256, 258, 258, 258, 258, 0, 0, 258, 258, 258, 258, 0, 258, 258, 258, 256, 256, 0, 256, 256, 256, 256, 3, 258, 258, 258, 49, 0, 49, 48, 259, 259, 259, 259, 259, 259, 2, 259, 259, 256, 256, 256, 0, 256, 256, 259, 259, 0, 259, 259, 0, 259, 0, 0, 259, 259, 259, 259, 256, 256, 256, 0, 256, 256, 259, 259, 259, 259, 1259, 1258, 1259, 1, 259, 259, 259, 256, 256, 0, 256, 256, 256, 256, 259, 259, 259, 259, 259, 0, 259, 259, 259, 256, 256, 0, 256, 256, 256, 256, 257]
noncomputable def trPop4_3 : List Nat := [35, 34, 257, 257, 2, 257, 256, 256, 256, 256, 0, 256, 256, 256, 256, 256, 257, 257, 257, 256, 256, 0, 256, 0, 256, 256, 257, 256, 256, 256, 0, 256, 256, 257, 257, 257, 257, 256, 256, 0, 256, 256, 256, 256, 3, 257, 56, 0, 56, 55, 258, 258, 258, 258, 2, 3, 0, 258, 0, 256, 0, 256, 256, 258, 258, 258, 258, 258, 258, 258, 256, 256, 256, 0, 256, 256, 258, 258, 258, 0, 0, 258, 258, 0, 258, 258, 0, 258, 0, 258, 258, 258, 258, 0, 258, 258, 256, 256, 256, 0, 256, 256, 258, 258, 256, 256, 256, 0, 256, 256, 1257, 1258, 1257, 1, 258, 258, 258, 258, 258, 256, 256, 256, 0, 256, 256, 258, 258, 256, 256, 0, 256, 256, 256, 256, 258, 258, 258, 258, 0, 0, 258, 258, 258, 258, 0, 258, 258, 258, 256, 256, 0, 256, 256, 256, 256, 3, 258, 258, 258, 49, 0, 49, 48, 259, 259, 259, 259, 259, 259, 2, 259, 259, 256, 256, 256, 0, 256, 256, 259, 259, 0, 259, 259, 0, 259, 0, 0, 259, 259, 259, 259, 256, 256, 256, 0, 256, 256, 259, 259, 259, 259, 1259, 1258, 1259, 1, 259, 259, 259, 256, 256, 0, 256, 256, 256, 256, 257]
theorem run_pop4 (w : World) (X : CxW) (p : Pos) (h ep ti : Nat) (T : Nat → Tup) (a0 : Nat) (a1 : Nat) (a2 : Nat) (a3 : Nat) (al0 tk0 : Nat → Nat) : [mixA [0] (seg (VV w) 542 trPop4_0 [orcV fun _ => .bool true, orcV fun _ => .bool true] (X.ctx (popC h)) p [] (denF (X.ctx (popC h)).code) (mkT [(h, lsO [a0, a1, a2, a3] ep)] [(a0, tupO (T a0)), (a1, tupO (T a1)), (a2, tupO (T a2)), (a3, tupO (T a3))]) 1 0 al0 tk0), mixA [0] (seg (VV w) 504 trPop4_1 [orcV fun _ => .bool true, orcV fun _ => .bool false] (X.ctx (popC h)) p [] (denF (X.ctx (popC h)).code) (mkT [(h, lsO [a0, a1, a2, a3] ep)] [(a0, tupO (T a0)), (a1, tupO (T a1)), (a2, tupO (T a2)), (a3, tupO (T a3))]) 1 0 al0 tk0), mixA [0] (seg (VV w) 552 trPop4_2 [orcV fun _ => .bool false, orcV fun _ => .bool true] (X.ctx (popC h)) p [] (denF (X.ctx (popC h)).code) (mkT [(h, lsO [a0, a1, a2, a3] ep)] [(a0, tupO (T a0)), (a1, tupO (T a1)), (a2, tupO (T a2)), (a3, tupO (T a3))]) 1 0 al0 tk0), mixA [0] (seg (VV w) 514 trPop4_3 [orcV fun _ => .bool false, orcV fun _ => .bool false] (X.ctx (popC h)) p [] (denF (X.ctx (popC h)).code) (mkT [(h, lsO [a0, a1, a2, a3] ep)] [(a0, tupO (T a0)), (a1, tupO (T a1)), (a2, tupO (T a2)), (a3, tupO (T a3))]) 1 0 al0 tk0)] = [mixB (seg (VV w) 542 trPop4_0 [orcV fun _ => .bool true, orcV fun _ => .bool true] (X.ctx (popC h)) p [] (denF (X.ctx (popC h)).code) (mkT [(h, lsO [a0, a1, a2, a3] ep)] [(a0, tupO (T a0)), (a1, tupO (T a1)), (a2, tupO (T a2)), (a3, tupO (T a3))]) 1 0 al0 tk0) (.call (.bi 29827172356050333523556529781 [(.ref a1), (.ref a2)]) none 3 23 [] (orcV fun _ => .bool true) fun al1 tk1 => .call (.bi 29827172356050333523556529781 [(.ref a3), (.ref a1)]) none 4 40 [] (orcV fun _ => .bool true) fun al2 tk2 => .ret (.ok (.ret (.ref a0))) [some (h, lsO [a3, a1, a2] (ep + 1))]), mixB (seg (VV w) 504 trPop4_1 [orcV fun _ => .bool true, orcV fun _ => .bool false] (X.ctx (popC h)) p [] (denF (X.ctx (popC h)).code) (mkT [(h, lsO [a0, a1, a2, a3] ep)] [(a0, tupO (T a0)), (a1, tupO (T a1)), (a2, tupO (T a2)), (a3, tupO (T a3))]) 1 0 al0 tk0) (.call (.bi 29827172356050333523556529781 [(.ref a1), (.ref a2)]) none 3 23 [] (orcV fun _ => .bool true) fun al1 tk1 => .call (.bi 29827172356050333523556529781 [(.ref a3), (.ref a1)]) none 4 40 [] (orcV fun _ => .bool false) fun al2 tk2 => .ret (.ok (.ret (.ref a0))) [some (h, lsO [a1, a3, a2] (ep + 1))]), mixB (seg (VV w) 552 trPop4_2 [orcV fun _ => .bool false, orcV fun _ => .bool true] (X.ctx (popC h)) p [] (denF (X.ctx (popC h)).code) (mkT [(h, lsO [a0, a1, a2, a3] ep)] [(a0, tupO (T a0)), (a1, tupO (T a1)), (a2, tupO (T a2)), (a3, tupO (T a3))]) 1 0 al0 tk0) (.call (.bi 29827172356050333523556529781 [(.ref a1), (.ref a2)]) none 3 23 [] (orcV fun _ => .bool false) fun al1 tk1 => .call (.bi 29827172356050333523556529781 [(.ref a3), (.ref a2)]) none 4 41 [] (orcV fun _ => .bool true) fun al2 tk2 => .ret (.ok (.ret (.ref a0))) [some (h, lsO [a3, a1, a2] (ep + 1))]), mixB (seg (VV w) 514 trPop4_3 [orcV fun _ => .bool false, orcV fun _ => .bool false] (X.ctx (popC h)) p [] (denF (X.ctx (popC h)).code) (mkT [(h, lsO [a0, a1, a2, a3] ep)] [(a0, tupO (T a0)), (a1, tupO (T a1)), (a2, tupO (T a2)), (a3, tupO (T a3))]) 1 0 al0 tk0) (.call (.bi 29827172356050333523556529781 [(.ref a1), (.ref a2)]) none 3 23 [] (orcV fun _ => .bool false) fun al1 tk1 => .call (.bi 29827172356050333523556529781 [(.ref a3), (.ref a2)]) none 4 41 [] (orcV fun _ => .bool false) fun al2 tk2 => .ret (.ok (.ret (.ref a0))) [some (h, lsO [a2, a1, a3] (ep + 1))])] := by kernel_rfl
noncomputable def trPop5_0 : List Nat := [35, 34, 257, 257, 2, 257, 256, 256, 256, 256, 0, 256, 256, 256, 256, 256, 257, 257, 257, 256, 256, 0, 256, 0, 256, 256, 257, 256, 256, 256, 0, 256, 256, 257, 257, 257, 257, 256, 256, 0, 256, 256, 256, 256, 3, 257, 56, 0, 56, 55, 258, 258, 258, 258, 2, 3, 0, 258, 0, 256, 0, 256, 256, 258, 258, 258, 258, 258, 258, 258, 256, 256, 256, 0, 256, 256, 258, 258, 258, 0, 0, 258, 258, 0, 258, 258, 0, 258, 0, 258, 258, 258, 258, 0, 258, 258, 256, 256, 256, 0, 256, 256, 258, 258, 256, 256, 256, 0, 256, 256, 1257, 1258, 1257, 1, 258, 258, 256, 256, 256, 0, 256, 256, 258, 258, 256, 256, 0, 256, 256, 256, 256, 258, 258, 258, 258, 0, 0, 258, 258, 258, 258, 0, 258, 0, 258, 258, 258, 258, 0, 258, 258, 256, 256, 256, 0, 256, 256, 258, 258, 256, 256, 0, 256, 256, 256, 256, 258, 258, 258, 258, 0, 0, 258, 258, 258, 258, 0, 258, 258, 258, 256, 256, 0, 256, 256, 256, 256, 3, 258, 258, 258, 49, 0, 49, 48, 259, 259, 259, 259, 259, 259, 2, 259, 259, 256, 256, 256, 0, 256, 256, 259, 259, 0, 259, 259, 0, 259, 0, 0, 259, 259, 259, 259, 256, 256, 256, 0, 256, 256, 259, 259, 259, 259, 1260, 1259, 1260, 1, 259, 259, 259, 256, 256, 0, 256, 256, 256, 256, 259, 259, 259, 259, 259, 0, 259, 0, 0, 259, 259, 259, 259, 256, 256, 256, 0, 256, 256, 259, 259, 259, 259, 1260, 1257, 1260, 1, 259, 259, 259, 256, 256, 0, 256, 256, 256, 256, 259, 259, 259, 259, 259, 0, 259, 259, 259, 256, 256, 0, 256, 256, 256, 256, 257]
noncomputable def trPop5_1 : List Nat := [35, 34, 257, 257, 2, 257, 256, 256, 256, 256, 0, 256, 256, 256, 256, 256, 257, 257, 257, 256, 256, 0, 256, 0, 256, 256, 257, 256, 256, 256, 0, 256, 256, 257, 257, 257, 257, 256, 256, 0, 256, 256, 256, 256, 3, 257, 56, 0, 56, 55, 258, 258, 258, 258, 2, 3, 0, 258, 0, 256, 0, 256, 256, 258, 258, 258, 258, 258, 258, 258, 256, 256, 256, 0, 256, 256, 258, 258, 258, 0, 0, 258, 258, 0, 258, 258, 0, 258, 0, 258, 258, 258, 258, 0, 258, 258, 256, 256, 256, 0, 256, 256, 258, 258, 256, 256, 256, 0, 256, 256, 1257, 1258, 1257, 1, 258, 258, 256, 256, 256, 0, 256, 256, 258, 258, 256, 256, 0, 256, 256, 256, 256, 258, 258, 258, 258, 0, 0, 258, 258, 258, 258, 0, 258, 0, 258, 258, 258, 258, 0, 258, 258, 256, 256, 256, 0, 256, 256, 258, 258, 256, 256, 0, 256, 256, 256, 256, 258, 258, 258, 258, 0, 0, 258, 258, 258, 258, 0, 258, 258, 258, 256, 256, 0, 256, 256, 256, 256, 3, 258, 258, 258, 49, 0, 49, 48, 259, 259, 259, 259, 259, 259, 2, 259, 259, 256, 256, 256, 0, 256, 256, 259, 259, 0, 259, 259, 0, 259, 0, 0, 259, 259, 259, 259, 256, 256, 256, 0, 256, 256, 259, 259, 259, 259, 1260, 1259, 1260, 1, 259, 259, 259, 256, 256, 0, 256, 256, 256, 256, 259, 259, 259, 259, 259, 0, 259, 0, 0, 259, 259, 259, 259, 256, 256, 256, 0, 256, 256, 259, 259, 259, 259, 1260, 1257, 1260, 1, 259, 259, 259, 256, 256, 0, 256, 256, 256, 256, 257]
noncomputable def trPop5_2 : List Nat := [35, 34, 257, 257, 2, 257, 256, 256, 256, 256, 0, 256, 256, 256, 256, 256, 257, 257, 257, 256, 256, 0, 256, 0, 256, 256, 257, 256, 256, 256, 0, 256, 256, 257, 257, 257, 257, 256, 256, 0, 256, 256, 256, 256, 3, 257, 56, 0, 56, 55, 258, 258, 258, 258, 2, 3, 0, 258, 0, 256, 0, 256, 256, 258, 258, 258, 258, 258, 258, 258, 256, 256, 256, 0, 256, 256, 258, 258, 258, 0, 0, 258, 258, 0, 258, 258, 0, 258, 0, 258, 258, 258, 258, 0, 258, 258, 256, 256, 256, 0, 256, 256, 258, 258, 256, 256, 256, 0, 256, 256, 1257, 1258, 1257, 1, 258, 258, 256, 256, 256, 0, 256, 256, 258, 258, 256, 256, 0, 256, 256, 256, 256, 258, 258, 258, 258, 0, 0, 258, 258, 258, 258, 0, 258, 0, 258, 258, 258, 258, 0, 258, 258, 256, 256, 256, 0, 256, 256, 258, 258, 256, 256, 0, 256, 256, 256, 256, 258, 258, 258, 258, 0, 0, 258, 258, 258, 258, 0, 258, 258, 258, 256, 256, 0, 256, 256, 256, 256, 3, 258, 258, 258, 49, 0, 49, 48, 259, 259, 259, 259, 259, 259, 2, 259, 259, 256, 256, 256, 0, 256, 256, 259, 259, 0, 259, 259, 0, 259, 0, 0, 259, 259, 259, 259, 256, 256, 256, 0, 256, 256, 259, 259, 259, 259, 1260, 1259, 1260, 1, 259, 259, 259, 256, 256, 0, 256, 256, 256, 256, 257]
noncomputable def trPop5_3 : List Nat := [35, 34, 257, 257, 2, 257, 256, 256, 256, 256, 0, 256, 256, 256, 256, 256, 257, 257, 257, 256, 256, 0, 256, 0, 256, 256, 257, 256, 256, 256, 0, 256, 256, 257, 257, 257, 257, 256, 256, 0, 256, 256, 256, 256, 3, 257, 56, 0, 56, 55, 258, 258, 258, 258, 2, 3, 0, 258, 0, 256, 0, 256, 256, 258, 258, 258, 258, 258, 258, 258, 256, 256, 256, 0, 256, 256, 258, 258, 258, 0, 0, 258, 258, 0, 258, 258, 0, 258, 0, 258, 258, 258, 258, 0, 258, 258, 256, 256, 256, 0, 256, 256, 258, 258, 256, 256, 256, 0, 256, 256, 1257, 1258, 1257, 1, 258, 258, 258, 258, 258, 256, 256, 256, 0, 256, 256, 258, 258, 256, 256, 0, 256, 256, 256, 256, 258, 258, 258, 258, 0, 0, 258, 258, 258, 258, 0, 258, 258, 258, 256, 256, 0, 256, 256, 256, 256, 3, 258, 258, 258, 49, 0, 49, 48, 259, 259, 259, 259, 259, 259, 2, 259, 259, 256, 256, 256, 0, 256, 256, 259, 259, 0, 259, 259, 0, 259, 0, 0, 259, 259, 259, 259, 256, 256, 256, 0, 256, 256, 259, 259, 259, 259, 1260, 1258, 1260, 1, 259, 259, 259, 256, 256, 0, 256, 256, 256, 256, 259, 259, 259, 259, 259, 0, 259, 259, 259, 256, 256, 0, 256, 256, 256, 256, 257]
noncomputable def trPop5_4 : List Nat := [35, 34, 257, 257, 2, 257, 256, 256, 256, 256, 0, 256, 256, 256, 256, 256, 257, 257, 257, 256, 256, 0, 256, 0, 256, 256, 257, 256, 256, 256, 0, 256, 256, 257, 257, 257, 257, 256, 256, 0, 256, 256, 256, 256, 3, 257, 56, 0, 56, 55, 258, 258, 258, 258, 2, 3, 0, 258, 0, 256, 0, 256, 256, 258, 258, 258, 258, 258, 258, 258, 256, 256, 256, 0, 256, 256, 258, 258, 258, 0, 0, 258, 258, 0, 258, 258, 0, 258, 0, 258, 258, 258, 258, 0, 258, 258, 256, 256, 256, 0, 256, 256, 258, 258, 256, 256, 256, 0, 256, 256, 1257, 1258, 1257, 1, 258, 258, 258, 258, 258, 256, 256, 256, 0, 256, 256, 258, 258, 256, 256, 0, 256, 256, 256, 256, 258, 258, 258, 258, 0, 0, 258, 258, 258, 258, 0, 258, 258, 258, 256, 256, 0, 256, 256, 256, 256, 3, 258, 258, 258, 49, 0, 49, 48, 259, 259, 259, 259, 259, 259, 2, 259, 259, 256, 256, 256, 0, 256, 256, 259, 259, 0, 259, 259, 0, 259, 0, 0, 259, 259, 259, 259, 256, 256, 256, 0, 256, 256, 259, 259, 259, 259, 1260, 1258, 1260, 1, 259, 259, 259, 256, 256, 0, 256, 256, 256, 256, 257]
theorem run_pop5 (w : World) (X : CxW) (p : Pos) (h ep ti : Nat) (T : Nat → Tup) (a0 : Nat) (a1 : Nat) (a2 : Nat) (a3 : Nat) (a4 : Nat) (al0 tk0 : Nat → Nat) : [mixA [0] (seg (VV w) 734 trPop5_0 [orcV fun _ => .bool true, orcV fun _ => .bool true, orcV fun _ => .bool true] (X.ctx (popC h)) p [] (denF (X.ctx (popC h)).code) (mkT [(h, lsO [a0, a1, a2, a3, a4] ep)] [(a0, tupO (T a0)), (a1, tupO (T a1)), (a2, tupO (T a2)), (a3, tupO (T a3)), (a4, tupO (T a4))]) 1 0 al0 tk0), mixA [0] (seg (VV w) 696 trPop5_1 [orcV fun _ => .bool true, orcV fun _ => .bool true, orcV fun _ => .bool false] (X.ctx (popC h)) p [] (denF (X.ctx (popC h)).code) (mkT [(h, lsO [a0, a1, a2, a3, a4] ep)] [(a0, tupO (T a0)), (a1, tupO (T a1)), (a2, tupO (T a2)), (a3, tupO (T a3)), (a4, tupO (T a4))]) 1 0 al0 tk0), mixA [0] (seg (VV w) 600 trPop5_2 [orcV fun _ => .bool true, orcV fun _ => .bool false] (X.ctx (popC h)) p [] (denF (X.ctx (popC h)).code) (mkT [(h, lsO [a0, a1, a2, a3, a4] ep)] [(a0, tupO (T a0)), (a1, tupO (T a1)), (a2, tupO (T a2)), (a3, tupO (T a3)), (a4, tupO (T a4))]) 1 0 al0 tk0), mixA [0] (seg (VV w) 552 trPop5_3 [orcV fun _ => .bool false, orcV fun _ => .bool true] (X.ctx (popC h)) p [] (denF (X.ctx (popC h)).code) (mkT [(h, lsO [a0, a1, a2, a3, a4] ep)] [(a0, tupO (T a0)), (a1, tupO (T a1)), (a2, tupO (T a2)), (a3, tupO (T a3)), (a4, tupO (T a4))]) 1 0 al0 tk0), mixA [0] (seg (VV w) 514 trPop5_4 [orcV fun _ => .bool false, orcV fun _ => .bool false] (X.ctx (popC h)) p [] (denF (X.ctx (popC h)).code) (mkT [(h, lsO [a0, a1, a2, a3, a4] ep)] [(a0, tupO (T a0)), (a1, tupO (T a1)), (a2, tupO (T a2)), (a3, tupO (T a3)), (a4, tupO (T a4))]) 1 0 al0 tk0)] = [mixB (seg (VV w) 734 trPop5_0 [orcV fun _ => .bool true, orcV fun _ => .bool true, orcV fun _ => .bool true] (X.ctx (popC h)) p [] (denF (X.ctx (popC h)).code) (mkT [(h, lsO [a0, a1, a2, a3, a4] ep)] [(a0, tupO (T a0)), (a1, tupO (T a1)), (a2, tupO (T a2)), (a3, tupO (T a3)), (a4, tupO (T a4))]) 1 0 al0 tk0) (.call (.bi 29827172356050333523556529781 [(.ref a1), (.ref a2)]) none 3 23 [] (orcV fun _ => .bool true) fun al1 tk1 => .call (.bi 29827172356050333523556529781 [(.ref a4), (.ref a3)]) none 4 49 [] (orcV fun _ => .bool true) fun al2 tk2 => .call (.bi 29827172356050333523556529781 [(.ref a4), (.ref a1)]) none 4 57 [] (orcV fun _ => .bool true) fun al3 tk3 => .ret (.ok (.ret (.ref a0))) [some (h, lsO [a4, a1, a2, a3] (ep + 1))]), mixB (seg (VV w) 696 trPop5_1 [orcV fun _ => .bool true, orcV fun _ => .bool true, orcV fun _ => .bool false] (X.ctx (popC h)) p [] (denF (X.ctx (popC h)).code) (mkT [(h, lsO [a0, a1, a2, a3, a4] ep)] [(a0, tupO (T a0)), (a1, tupO (T a1)), (a2, tupO (T a2)), (a3, tupO (T a3)), (a4, tupO (T a4))]) 1 0 al0 tk0) (.call (.bi 29827172356050333523556529781 [(.ref a1), (.ref a2)]) none 3 23 [] (orcV fun _ => .bool true) fun al1 tk1 => .call (.bi 29827172356050333523556529781 [(.ref a4), (.ref a3)]) none 4 49 [] (orcV fun _ => .bool true) fun al2 tk2 => .call (.bi 29827172356050333523556529781 [(.ref a4), (.ref a1)]) none 4 57 [] (orcV fun _ => .bool false) fun al3 tk3 => .ret (.ok (.ret (.ref a0))) [some (h, lsO [a1, a4, a2, a3] (ep + 1))]), mixB (seg (VV w) 600 trPop5_2 [orcV fun _ => .bool true, orcV fun _ => .bool false] (X.ctx (popC h)) p [] (denF (X.ctx (popC h)).code) (mkT [(h, lsO [a0, a1, a2, a3, a4] ep)] [(a0, tupO (T a0)), (a1, tupO (T a1)), (a2, tupO (T a2)), (a3, tupO (T a3)), (a4, tupO (T a4))]) 1 0 al0 tk0) (.call (.bi 29827172356050333523556529781 [(.ref a1), (.ref a2)]) none 3 23 [] (orcV fun _ => .bool true) fun al1 tk1 => .call (.bi 29827172356050333523556529781 [(.ref a4), (.ref a3)]) none 4 49 [] (orcV fun _ => .bool false) fun al2 tk2 => .ret (.ok (.ret (.ref a0))) [some (h, lsO [a1, a3, a2, a4] (ep + 1))]), mixB (seg (VV w) 552 trPop5_3 [orcV fun _ => .bool false, orcV fun _ => .bool true] (X.ctx (popC h)) p [] (denF (X.ctx (popC h)).code) (mkT [(h, lsO [a0, a1, a2, a3, a4] ep)] [(a0, tupO (T a0)), (a1, tupO (T a1)), (a2, tupO (T a2)), (a3, tupO (T a3)), (a4, tupO (T a4))]) 1 0 al0 tk0) (.call (.bi 29827172356050333523556529781 [(.ref a1), (.ref a2)]) none 3 23 [] (orcV fun _ => .bool false) fun al1 tk1 => .call (.bi 29827172356050333523556529781 [(.ref a4), (.ref a2)]) none 4 41 [] (orcV fun _ => .bool true) fun al2 tk2 => .ret (.ok (.ret (.ref a0))) [some (h, lsO [a4, a1, a2, a3] (ep + 1))]), mixB (seg (VV w) 514 trPop5_4 [orcV fun _ => .bool false, orcV fun _ => .bool false] (X.ctx (popC h)) p [] (denF (X.ctx (popC h)).code) (mkT [(h, lsO [a0, a1, a2, a3, a4] ep)] [(a0, tupO (T a0)), (a1, tupO (T a1)), (a2, tupO (T a2)), (a3, tupO (T a3)), (a4, tupO (T a4))]) 1 0 al0 tk0) (.call (.bi 29827172356050333523556529781 [(.ref a1), (.ref a2)]) none 3 23 [] (orcV fun _ => .bool false) fun al1 tk1 => .call (.bi 29827172356050333523556529781 [(.ref a4), (.ref a2)]) none 4 41 [] (orcV fun _ => .bool false) fun al2 tk2 => .ret (.ok (.ret (.ref a0))) [some (h, lsO [a2, a1, a4, a3] (ep + 1))])] := by kernel_rfl
noncomputable def trPop6_0 : List Nat := [35, 34, 257, 257, 2, 257, 256, 256, 256, 256, 0, 256, 256, 256, 256, 256, 257, 257, 257, 256, 256, 0, 256, 0, 256, 256, 257, 256, 256, 256, 0, 256, 256, 257, 257, 257, 257, 256, 256, 0, 256, 256, 256, 256, 3, 257, 56, 0, 56, 55, 258, 258, 258, 258, 2, 3, 0, 258, 0, 256, 0, 256, 256, 258, 258, 258, 258, 258, 258, 258, 256, 256, 256, 0, 256, 256, 258, 258, 258, 0, 0, 258, 258, 0, 258, 258, 0, 258, 0, 258, 258, 258, 258, 0, 258, 258, 256, 256, 256, 0, 256, 256, 258, 258, 256, 256, 256, 0, 256, 256, 1257, 1258, 1257, 1, 258, 258, 256, 256, 256, 0, 256, 256, 258, 258, 256, 256, 0, 256, 256, 256, 256, 258, 258, 258, 258, 0, 0, 258, 258, 258, 258, 0, 258, 0, 258, 258, 258, 258, 0, 258, 258, 256, 256, 256, 0, 256, 256, 258, 258, 256, 256, 256, 0, 256, 256, 1259, 1260, 1259, 1, 258, 258, 256, 256, 256, 0, 256, 256, 258, 258, 256, 256, 0, 256, 256, 256, 256, 258, 258, 258, 258, 0, 0, 258, 258, 258, 258, 0, 258, 258, 258, 256, 256, 0, 256, 256, 256, 256, 3, 258, 258, 258, 49, 0, 49, 48, 259, 259, 259, 259, 259, 259, 2, 259, 259, 256, 256, 256, 0, 256, 256, 259, 259, 0, 259, 259, 0, 259, 0, 0, 259, 259, 259, 259, 256, 256, 256, 0, 256, 256, 259, 259, 259, 259, 1261, 1259, 1261, 1, 259, 259, 259, 256, 256, 0, 256, 256, 256, 256, 259, 259, 259, 259, 259, 0, 259, 0, 0, 259, 259, 259, 259, 256, 256, 256, 0, 256, 256, 259, 259, 259, 259, 1261, 1257, 1261, 1, 259, 259, 259, 256, 256, 0, 256, 256, 256, 256, 259, 259, 259, 259, 259, 0, 259, 259, 259, 256, 256, 0, 256, 256, 256, 256, 257]
noncomputable def trPop6_1 : List Nat := [35, 34, 257, 257, 2, 257, 256, 256, 256, 256, 0, 256, 256, 256, 256, 256, 257, 257, 257, 256, 256, 0, 256, 0, 256, 256, 257, 256, 256, 256, 0, 256, 256, 257, 257, 257, 257, 256, 256, 0, 256, 256, 256, 256, 3, 257, 56, 0, 56, 55, 258, 258, 258, 258, 2, 3, 0, 258, 0, 256, 0, 256, 256, 258, 258, 258, 258, 258, 258, 258, 256, 256, 256, 0, 256, 256, 258, 258, 258, 0, 0, 258, 258, 0, 258, 258, 0, 258, 0, 258, 258, 258, 258, 0, 258, 258, 256, 256, 256, 0, 256, 256, 258, 258, 256, 256, 256, 0, 256, 256, 1257, 1258, 1257, 1, 258, 258, 256, 256, 256, 0, 256, 256, 258, 258, 256, 256, 0, 256, 256, 256, 256, 258, 258, 258, 258, 0, 0, 258, 258, 258, 258, 0, 258, 0, 258, 258, 258, 258, 0, 258, 258, 256, 256, 256, 0, 256, 256, 258, 258, 256, 256, 256, 0, 256, 256, 1259, 1260, 1259, 1, 258, 258, 256, 256, 256, 0, 256, 256, 258, 258, 256, 256, 0, 256, 256, 256, 256, 258, 258, 258, 258, 0, 0, 258, 258, 258, 258, 0, 258, 258, 258, 256, 256, 0, 256, 256, 256, 256, 3, 258, 258, 258, 49, 0, 49, 48, 259, 259, 259, 259, 259, 259, 2, 259, 259, 256, 256, 256, 0, 256, 256, 259, 259, 0, 259, 259, 0, 259, 0, 0, 259, 259, 259, 259, 256, 256, 256, 0, 256, 256, 259, 259, 259, 259, 1261, 1259, 1261, 1, 259, 259, 259, 256, 256, 0, 256, 256, 256, 256, 259, 259, 259, 259, 259, 0, 259, 0, 0, 259, 259, 259, 259, 256, 256, 256, 0, 256, 256, 259, 259, 259, 259, 1261, 1257, 1261, 1, 259, 259, 259, 256, 256, 0, 256, 256, 256, 256, 257]
noncomputable def trPop6_2 : List Nat := [35, 34, 257, 257, 2, 257, 256, 256, 256, 256, 0, 256, 256, 256, 256, 256, 257, 257, 257, 256, 256, 0, 256, 0, 256, 256, 257, 256, 256, 256, 0, 256, 256, 257, 257, 257, 257, 256, 256, 0, 256, 256, 256, 256, 3, 257, 56, 0, 56, 55, 258, 258, 258, 258, 2, 3, 0, 258, 0, 256, 0, 256, 256, 258, 258, 258, 258, 258, 258, 258, 256, 256, 256, 0, 256, 256, 258, 258, 258, 0, 0, 258, 258, 0, 258, 258, 0, 258, 0, 258, 258, 258, 258, 0, 258, 258, 256, 256, 256, 0, 256, 256, 258, 258, 256, 256, 256, 0, 256, 256, 1257, 1258, 1257, 1, 258, 258, 256, 256, 256, 0, 256, 256, 258, 258, 256, 256, 0, 256, 256, 256, 256, 258, 258, 258, 258, 0, 0, 258, 258, 258, 258, 0, 258, 0, 258, 258, 258, 258, 0, 258, 258, 256, 256, 256, 0, 256, 256, 258, 258, 256, 256, 256, 0, 256, 256, 1259, 1260, 1259, 1, 258, 258, 256, 256, 256, 0, 256, 256, 258, 258, 256, 256, 0, 256, 256, 256, 256, 258, 258, 258, 258, 0, 0, 258, 258, 258, 258, 0, 258, 258, 258, 256, 256, 0, 256, 256, 256, 256, 3, 258, 258, 258, 49, 0, 49, 48, 259, 259, 259, 259, 259, 259, 2, 259, 259, 256, 256, 256, 0, 256, 256, 259, 259, 0, 259, 259, 0, 259, 0, 0, 259, 259, 259, 259, 256, 256, 256, 0, 256, 256, 259, 259, 259, 259, 1261, 1259, 1261, 1, 259, 259, 259, 256, 256, 0, 256, 256, 256, 256, 257]
noncomputable def trPop6_3 : List Nat := [35, 34, 257, 257, 2, 257, 256, 256, 256, 256, 0, 256, 256, 256, 256, 256, 257, 257, 257, 256, 256, 0, 256, 0, 256, 256, 257, 256, 256, 256, 0, 256, 256, 257, 257, 257, 257, 256, 256, 0, 256, 256, 256, 256, 3, 257, 56, 0, 56, 55, 258, 258, 258, 258, 2, 3, 0, 258, 0, 256, 0, 256, 256, 258, 258, 258, 258, 258, 258, 258, 256, 256, 256, 0, 256, 256, 258, 258, 258, 0, 0, 258, 258, 0, 258, 258, 0, 258, 0, 258, 258, 258, 258, 0, 258, 258, 256, 256, 256, 0, 256, 256, 258, 258, 256, 256, 256, 0, 256, 256, 1257, 1258, 1257, 1, 258, 258, 256, 256, 256, 0, 256, 256, 258, 258, 256, 256, 0, 256, 256, 256, 256, 258, 258, 258, 258, 0, 0, 258, 258, 258, 258, 0, 258, 0, 258, 258, 258, 258, 0, 258, 258, 256, 256, 256, 0, 256, 256, 258, 258, 256, 256, 256, 0, 256, 256, 1259, 1260, 1259, 1, 258, 258, 258, 258, 258, 256, 256, 256, 0, 256, 256, 258, 258, 256, 256, 0, 256, 256, 256, 256, 258, 258, 258, 258, 0, 0, 258, 258, 258, 258, 0, 258, 258, 258, 256, 256, 0, 256, 256, 256, 256, 3, 258, 258, 258, 49, 0, 49, 48, 259, 259, 259, 259, 259, 259, 2, 259, 259, 256, 256, 256, 0, 256, 256, 259, 259, 0, 259, 259, 0, 259, 0, 0, 259, 259, 259, 259, 256, 256, 256, 0, 256, 256, 259, 259, 259, 259, 1261, 1260, 1261, 1, 259, 259, 259, 256, 256, 0, 256, 256, 256, 256, 259, 259, 259, 259, 259, 0, 259, 0, 0, 259, 259, 259, 259, 256, 256, 256, 0, 256, 256, 259, 259, 259, 259, 1261, 1257, 1261, 1, 259, 259, 259, 256, 256, 0, 256, 256, 256, 256, 259, 259, 259, 259, 259, 0, 259, 259, 259, 256, 256, 0, 256, 256, 256, 256, 257]
noncomputable def trPop6_4 : List Nat := [35, 34, 257, 257, 2, 257, 256, 256, 256, 256, 0, 256, 256, 256, 256, 256, 257, 257, 257, 256, 256, 0, 256, 0, 256, 256, 257, 256, 256, 256, 0, 256, 256, 257, 257, 257, 257, 256, 256, 0, 256, 256, 256, 256, 3, 257, 56, 0, 56, 55, 258, 258, 258, 258, 2, 3, 0, 258, 0, 256, 0, 256, 256, 258, 258, 258, 258, 258, 258, 258, 256, 256, 256, 0, 256, 256, 258, 258, 258, 0, 0, 258, 258, 0, 258, 258, 0, 258, 0, 258, 258, 258, 258, 0, 258, 258, 256, 256, 256, 0, 256, 256, 258, 258, 256, 256, 256, 0, 256, 256, 1257, 1258, 1257, 1, 258, 258, 256, 256, 256, 0, 256, 256, 258, 258, 256, 256, 0, 256, 256, 256, 256, 258, 258, 258, 258, 0, 0, 258, 258, 258, 258, 0, 258, 0, 258, 258, 258, 258, 0, 258, 258, 256, 256, 256, 0, 256, 256, 258, 258, 256, 256, 256, 0, 256, 256, 1259, 1260, 1259, 1, 258, 258, 258, 258, 258, 256, 256, 256, 0, 256, 256, 258, 258, 256, 256, 0, 256, 256, 256, 256, 258, 258, 258, 258, 0, 0, 258, 258, 258, 258, 0, 258, 258, 258, 256, 256, 0, 256, 256, 256, 256, 3, 258, 258, 258, 49, 0, 49, 48, 259, 259, 259, 259, 259, 259, 2, 259, 259, 256, 256, 256, 0, 256, 256, 259, 259, 0, 259, 259, 0, 259, 0, 0, 259, 259, 259, 259, 256, 256, 256, 0, 256, 256, 259, 259, 259, 259, 1261, 1260, 1261, 1, 259, 259, 259, 256, 256, 0, 256, 256, 256, 256, 259, 259, 259, 259, 259, 0, 259, 0, 0, 259, 259, 259, 259, 256, 256, 256, 0, 256, 256, 259, 259, 259, 259, 1261, 1257, 1261, 1, 259, 259, 259, 256, 256, 0, 256, 256, 256, 256, 257]
noncomputable def trPop6_5 : List Nat := [35, 34, 257, 257, 2, 257, 256, 256, 256, 256, 0, 256, 256, 256, 256, 256, 257, 257, 257, 256, 256, 0, 256, 0, 256, 256, 257, 256, 256, 256, 0, 256, 256, 257, 257, 257, 257, 256, 256, 0, 256, 256, 256, 256, 3, 257, 56, 0, 56, 55, 258, 258, 258, 258, 2, 3, 0, 258, 0, 256, 0, 256, 256, 258, 258, 258, 258, 258, 258, 258, 256, 256, 256, 0, 256, 256, 258, 258, 258, 0, 0, 258, 258, 0, 258, 258, 0, 258, 0, 258, 258, 258, 258, 0, 258, 258, 256, 256, 256, 0, 256, 256, 258, 258, 256, 256, 256, 0, 256, 256, 1257, 1258, 1257, 1, 258, 258, 256, 256, 256, 0, 256, 256, 258, 258, 256, 256, 0, 256, 256, 256, 256, 258, 258, 258, 258, 0, 0, 258, 258, 258, 258, 0, 258, 0, 258, 258, 258, 258, 0, 258, 258, 256, 256, 256, 0, 256, 256, 258, 258, 256, 256, 256, 0, 256, 256, 1259, 1260, 1259, 1, 258, 258, 258, 258, 258, 256, 256, 256, 0, 256, 256, 258, 258, 256, 256, 0, 256, 256, 256, 256, 258, 258, 258, 258, 0, 0, 258, 258, 258, 258, 0, 258, 258, 258, 256, 256, 0, 256, 256, 256, 256, 3, 258, 258, 258, 49, 0, 49, 48, 259, 259, 259, 259, 259, 259, 2, 259, 259, 256, 256, 256, 0, 256, 256, 259, 259, 0, 259, 259, 0, 259, 0, 0, 259, 259, 259, 259, 256, 256, 256, 0, 256, 256, 259, 259, 259, 259, 1261, 1260, 1261, 1, 259, 259, 259, 256, 256, 0, 256, 256, 256, 256, 257]
noncomputable def trPop6_6 : List Nat := [35, 34, 257, 257, 2, 257, 256, 256, 256, 256, 0, 256, 256, 256, 256, 256, 257, 257, 257, 256, 256, 0, 256, 0, 256, 256, 257, 256, 256, 256, 0, 256, 256, 257, 257, 257, 257, 256, 256, 0, 256, 256, 256, 256, 3, 257, 56, 0, 56, 55, 258, 258, 258, 258, 2, 3, 0, 258, 0, 256, 0, 256, 256, 258, 258, 258, 258, 258, 258, 258, 256, 256, 256, 0, 256, 256, 258, 258, 258, 0, 0, 258, 258, 0, 258, 258, 0, 258, 0, 258, 258, 258, 258, 0, 258, 258, 256, 256, 256, 0, 256, 256, 258, 258, 256, 256, 256, 0, 256, 256, 1257, 1258, 1257, 1, 258, 258, 258, 258, 258, 256, 256, 256, 0, 256, 256, 258, 258, 256, 256, 0, 256, 256, 256, 256, 258, 258, 258, 258, 0, 0, 258, 258, 258, 258, 0, 258, 258, 258, 256, 256, 0, 256, 256, 256, 256, 3, 258, 258, 258, 49, 0, 49, 48, 259, 259, 259, 259, 259, 259, 2, 259, 259, 256, 256, 256, 0, 256, 256, 259, 259, 0, 259, 259, 0, 259, 0, 0, 259, 259, 259, 259, 256, 256, 256, 0, 256, 256, 259, 259, 259, 259, 1261, 1258, 1261, 1, 259, 259, 259, 256, 256, 0, 256, 256, 256, 256, 259, 259, 259, 259, 259, 0, 259, 259, 259, 256, 256, 0, 256, 256, 256, 256, 257]
noncomputable def trPop6_7 : List Nat := [35, 34, 257, 257, 2, 257, 256, 256, 256, 256, 0, 256, 256, 256, 256, 256, 257, 257, 257, 256, 256, 0, 256, 0, 256, 256, 257, 256, 256, 256, 0, 256, 256, 257, 257, 257, 257, 256, 256, 0, 256, 256, 256, 256, 3, 257, 56, 0, 56, 55, 258, 258, 258, 258, 2, 3, 0, 258, 0, 256, 0, 256, 256, 258, 258, 258, 258, 258, 258, 258, 256, 256, 256, 0, 256, 256, 258, 258, 258, 0, 0, 258, 258, 0, 258, 258, 0, 258, 0, 258, 258, 258, 258, 0, 258, 258, 256, 256, 256, 0, 256, 256, 258, 258, 256, 256, 256, 0, 256, 256, 1257, 1258, 1257, 1, 258, 258, 258, 258, 258, 256, 256, 256, 0, 256, 256, 258, 258, 256, 256, 0, 256, 256, 256, 256, 258, 258, 258, 258, 0, 0, 258, 258, 258, 258, 0, 258, 258, 258, 256, 256, 0, 256, 256, 256, 256, 3, 258, 258, 258, 49, 0, 49, 48, 259, 259, 259, 259, 259, 259, 2, 259, 259, 256, 256, 256, 0, 256, 256, 259, 259, 0, 259, 259, 0, 259, 0, 0, 259, 259, 259, 259, 256, 256, 256, 0, 256, 256, 259, 259, 259, 259, 1261, 1258, 1261, 1, 259, 259, 259, 256, 256, 0, 256, 256, 256, 256, 257]
theorem run_pop6 (w : World) (X : CxW) (p : Pos) (h ep ti : Nat) (T : Nat → Tup) (a0 : Nat) (a1 : Nat) (a2 : Nat) (a3 : Nat) (a4 : Nat) (a5 : Nat) (al0 tk0 : Nat → Nat) : [mixA [0] (seg (VV w) 768 trPop6_0 [orcV fun _ => .bool true, orcV fun _ => .bool true, orcV fun _ => .bool true, orcV fun _ => .bool true] (X.ctx (popC h)) p [] (denF (X.ctx (popC h)).code) (mkT [(h, lsO [a0, a1, a2, a3, a4, a5] ep)] [(a0, tupO (T a0)), (a1, tupO (T a1)), (a2, tupO (T a2)), (a3, tupO (T a3)), (a4, tupO (T a4)), (a5, tupO (T a5))]) 1 0 al0 tk0), mixA [0] (seg (VV w) 730 trPop6_1 [orcV fun _ => .bool true, orcV fun _ => .bool true, orcV fun _ => .bool true, orcV fun _ => .bool false] (X.ctx (popC h)) p [] (denF (X.ctx (popC h)).code) (mkT [(h, lsO [a0, a1, a2, a3, a4, a5] ep)] [(a0, tupO (T a0)), (a1, tupO (T a1)), (a2, tupO (T a2)), (a3, tupO (T a3)), (a4, tupO (T a4)), (a5, tupO (T a5))]) 1 0 al0 tk0), mixA [0] (seg (VV w) 634 trPop6_2 [orcV fun _ => .bool true, orcV fun _ => .bool true, orcV fun _ => .bool false] (X.ctx (popC h)) p [] (denF (X.ctx (popC h)).code) (mkT [(h, lsO [a0, a1, a2, a3, a4, a5] ep)] [(a0, tupO (T a0)), (a1, tupO (T a1)), (a2, tupO (T a2)), (a3, tupO (T a3)), (a4, tupO (T a4)), (a5, tupO (T a5))]) 1 0 al0 tk0), mixA [0] (seg (VV w) 778 trPop6_3 [orcV fun _ => .bool true, orcV fun _ => .bool false, orcV fun _ => .bool true, orcV fun _ => .bool true] (X.ctx (popC h)) p [] (denF (X.ctx (popC h)).code) (mkT [(h, lsO [a0, a1, a2, a3, a4, a5] ep)] [(a0, tupO (T a0)), (a1, tupO (T a1)), (a2, tupO (T a2)), (a3, tupO (T a3)), (a4, tupO (T a4)), (a5, tupO (T a5))]) 1 0 al0 tk0), mixA [0] (seg (VV w) 740 trPop6_4 [orcV fun _ => .bool true, orcV fun _ => .bool false, orcV fun _ => .bool true, orcV fun _ => .bool false] (X.ctx (popC h)) p [] (denF (X.ctx (popC h)).code) (mkT [(h, lsO [a0, a1, a2, a3, a4, a5] ep)] [(a0, tupO (T a0)), (a1, tupO (T a1)), (a2, tupO (T a2)), (a3, tupO (T a3)), (a4, tupO (T a4)), (a5, tupO (T a5))]) 1 0 al0 tk0), mixA [0] (seg (VV w) 644 trPop6_5 [orcV fun _ => .bool true, orcV fun _ => .bool false, orcV fun _ => .bool false] (X.ctx (popC h)) p [] (denF (X.ctx (popC h)).code) (mkT [(h, lsO [a0, a1, a2, a3, a4, a5] ep)] [(a0, tupO (T a0)), (a1, tupO (T a1)), (a2, tupO (T a2)), (a3, tupO (T a3)), (a4, tupO (T a4)), (a5, tupO (T a5))]) 1 0 al0 tk0), mixA [0] (seg (VV w) 552 trPop6_6 [orcV fun _ => .bool false, orcV fun _ => .bool true] (X.ctx (popC h)) p [] (denF (X.ctx (popC h)).code) (mkT [(h, lsO [a0, a1, a2, a3, a4, a5] ep)] [(a0, tupO (T a0)), (a1, tupO (T a1)), (a2, tupO (T a2)), (a3, tupO (T a3)), (a4, tupO (T a4)), (a5, tupO (T a5))]) 1 0 al0 tk0), mixA [0] (seg (VV w) 514 trPop6_7 [orcV fun _ => .bool false, orcV fun _ => .bool false] (X.ctx (popC h)) p [] (denF (X.ctx (popC h)).code) (mkT [(h, lsO [a0, a1, a2, a3, a4, a5] ep)] [(a0, tupO (T a0)), (a1, tupO (T a1)), (a2, tupO (T a2)), (a3, tupO (T a3)), (a4, tupO (T a4)), (a5, tupO (T a5))]) 1 0 al0 tk0)] = [mixB (seg (VV w) 768 trPop6_0 [orcV fun _ => .bool true, orcV fun _ => .bool true, orcV fun _ => .bool true, orcV fun _ => .bool true] (X.ctx (popC h)) p [] (denF (X.ctx (popC h)).code) (mkT [(h, lsO [a0, a1, a2, a3, a4, a5] ep)] [(a0, tupO (T a0)), (a1, tupO (T a1)), (a2, tupO (T a2)), (a3, tupO (T a3)), (a4, tupO (T a4)), (a5, tupO (T a5))]) 1 0 al0 tk0) (.call (.bi 29827172356050333523556529781 [(.ref a1), (.ref a2)]) none 3 23 [] (orcV fun _ => .bool true) fun al1 tk1 => .call (.bi 29827172356050333523556529781 [(.ref a3), (.ref a4)]) none 3 33 [] (orcV fun _ => .bool true) fun al2 tk2 => .call (.bi 29827172356050333523556529781 [(.ref a5), (.ref a3)]) none 4 50 [] (orcV fun _ => .bool true) fun al3 tk3 => .call (.bi 29827172356050333523556529781 [(.ref a5), (.ref a1)]) none 4 58 [] (orcV fun _ => .bool true) fun al4 tk4 => .ret (.ok (.ret (.ref a0))) [some (h, lsO [a5, a1, a2, a3, a4] (ep + 1))]), mixB (seg (VV w) 730 trPop6_1 [orcV fun _ => .bool true, orcV fun _ => .bool true, orcV fun _ => .bool true, orcV fun _ => .bool false] (X.ctx (popC h)) p [] (denF (X.ctx (popC h)).code) (mkT [(h, lsO [a0, a1, a2, a3, a4, a5] ep)] [(a0, tupO (T a0)), (a1, tupO (T a1)), (a2, tupO (T a2)), (a3, tupO (T a3)), (a4, tupO (T a4)), (a5, tupO (T a5))]) 1 0 al0 tk0) (.call (.bi 29827172356050333523556529781 [(.ref a1), (.ref a2)]) none 3 23 [] (orcV fun _ => .bool true) fun al1 tk1 => .call (.bi 29827172356050333523556529781 [(.ref a3), (.ref a4)]) none 3 33 [] (orcV fun _ => .bool true) fun al2 tk2 => .call (.bi 29827172356050333523556529781 [(.ref a5), (.ref a3)]) none 4 50 [] (orcV fun _ => .bool true) fun al3 tk3 => .call (.bi 29827172356050333523556529781 [(.ref a5), (.ref a1)]) none 4 58 [] (orcV fun _ => .bool false) fun al4 tk4 => .ret (.ok (.ret (.ref a0))) [some (h, lsO [a1, a5, a2, a3, a4] (ep + 1))]), mixB (seg (VV w) 634 trPop6_2 [orcV fun _ => .bool true, orcV fun _ => .bool true, orcV fun _ => .bool false] (X.ctx (popC h)) p [] (denF (X.ctx (popC h)).code) (mkT [(h, lsO [a0, a1, a2, a3, a4, a5] ep)] [(a0, tupO (T a0)), (a1, tupO (T a1)), (a2, tupO (T a2)), (a3, tupO (T a3)), (a4, tupO (T a4)), (a5, tupO (T a5))]) 1 0 al0 tk0) (.call (.bi 29827172356050333523556529781 [(.ref a1), (.ref a2)]) none 3 23 [] (orcV fun _ => .bool true) fun al1 tk1 => .call (.bi 29827172356050333523556529781 [(.ref a3), (.ref a4)]) none 3 33 [] (orcV fun _ => .bool true) fun al2 tk2 => .call (.bi 29827172356050333523556529781 [(.ref a5), (.ref a3)]) none 4 50 [] (orcV fun _ => .bool false) fun al3 tk3 => .ret (.ok (.ret (.ref a0))) [some (h, lsO [a1, a3, a2, a5, a4] (ep + 1))]), mixB (seg (VV w) 778 trPop6_3 [orcV fun _ => .bool true, orcV fun _ => .bool false, orcV fun _ => .bool true, orcV fun _ => .bool true] (X.ctx (popC h)) p [] (denF (X.ctx (popC h)).code) (mkT [(h, lsO [a0, a1, a2, a3, a4, a5] ep)] [(a0, tupO (T a0)), (a1, tupO (T a1)), (a2, tupO (T a2)), (a3, tupO (T a3)), (a4, tupO (T a4)), (a5, tupO (T a5))]) 1 0 al0 tk0) (.call (.bi 29827172356050333523556529781 [(.ref a1), (.ref a2)]) none 3 23 [] (orcV fun _ => .bool true) fun al1 tk1 => .call (.bi 29827172356050333523556529781 [(.ref a3), (.ref a4)]) none 3 33 [] (orcV fun _ => .bool false) fun al2 tk2 => .call (.bi 29827172356050333523556529781 [(.ref a5), (.ref a4)]) none 4 51 [] (orcV fun _ => .bool true) fun al3 tk3 => .call (.bi 29827172356050333523556529781 [(.ref a5), (.ref a1)]) none 4 59 [] (orcV fun _ => .bool true) fun al4 tk4 => .ret (.ok (.ret (.ref a0))) [some (h, lsO [a5, a1, a2, a3, a4] (ep + 1))]), mixB (seg (VV w) 740 trPop6_4 [orcV fun _ => .bool true, orcV fun _ => .bool false, orcV fun _ => .bool true, orcV fun _ => .bool false] (X.ctx (popC h)) p [] (denF (X.ctx (popC h)).code) (mkT [(h, lsO [a0, a1, a2, a3, a4, a5] ep)] [(a0, tupO (T a0)), (a1, tupO (T a1)), (a2, tupO (T a2)), (a3, tupO (T a3)), (a4, tupO (T a4)), (a5, tupO (T a5))]) 1 0 al0 tk0) (.call (.bi 29827172356050333523556529781 [(.ref a1), (.ref a2)]) none 3 23 [] (orcV fun _ => .bool true) fun al1 tk1 => .call (.bi 29827172356050333523556529781 [(.ref a3), (.ref a4)]) none 3 33 [] (orcV fun _ => .bool false) fun al2 tk2 => .call (.bi 29827172356050333523556529781 [(.ref a5), (.ref a4)]) none 4 51 [] (orcV fun _ => .bool true) fun al3 tk3 => .call (.bi 29827172356050333523556529781 [(.ref a5), (.ref a1)]) none 4 59 [] (orcV fun _ => .bool false) fun al4 tk4 => .ret (.ok (.ret (.ref a0))) [some (h, lsO [a1, a5, a2, a3, a4] (ep + 1))]), mixB (seg (VV w) 644 trPop6_5 [orcV fun _ => .bool true, orcV fun _ => .bool false, orcV fun _ => .bool false] (X.ctx (popC h)) p [] (denF (X.ctx (popC h)).code) (mkT [(h, lsO [a0, a1, a2, a3, a4, a5] ep)] [(a0, tupO (T a0)), (a1, tupO (T a1)), (a2, tupO (T a2)), (a3, tupO (T a3)), (a4, tupO (T a4)), (a5, tupO (T a5))]) 1 0 al0 tk0) (.call (.bi 29827172356050333523556529781 [(.ref a1), (.ref a2)]) none 3 23 [] (orcV fun _ => .bool true) fun al1 tk1 => .call (.bi 29827172356050333523556529781 [(.ref a3), (.ref a4)]) none 3 33 [] (orcV fun _ => .bool false) fun al2 tk2 => .call (.bi 29827172356050333523556529781 [(.ref a5), (.ref a4)]) none 4 51 [] (orcV fun _ => .bool false) fun al3 tk3 => .ret (.ok (.ret (.ref a0))) [some (h, lsO [a1, a4, a2, a3, a5] (ep + 1))]), mixB (seg (VV w) 552 trPop6_6 [orcV fun _ => .bool false, orcV fun _ => .bool true] (X.ctx (popC h)) p [] (denF (X.ctx (popC h)).code) (mkT [(h, lsO [a0, a1, a2, a3, a4, a5] ep)] [(a0, tupO (T a0)), (a1, tupO (T a1)), (a2, tupO (T a2)), (a3, tupO (T a3)), (a4, tupO (T a4)), (a5, tupO (T a5))]) 1 0 al0 tk0) (.call (.bi 29827172356050333523556529781 [(.ref a1), (.ref a2)]) none 3 23 [] (orcV fun _ => .bool false) fun al1 tk1 => .call (.bi 29827172356050333523556529781 [(.ref a5), (.ref a2)]) none 4 41 [] (orcV fun _ => .bool true) fun al2 tk2 => .ret (.ok (.ret (.ref a0))) [some (h, lsO [a5, a1, a2, a3, a4] (ep + 1))]), mixB (seg (VV w) 514 trPop6_7 [orcV fun _ => .bool false, orcV fun _ => .bool false] (X.ctx (popC h)) p [] (denF (X.ctx (popC h)).code) (mkT [(h, lsO [a0, a1, a2, a3, a4, a5] ep)] [(a0, tupO (T a0)), (a1, tupO (T a1)), (a2, tupO (T a2)), (a3, tupO (T a3)), (a4, tupO (T a4)), (a5, tupO (T a5))]) 1 0 al0 tk0) (.call (.bi 29827172356050333523556529781 [(.ref a1), (.ref a2)]) none 3 23 [] (orcV fun _ => .bool false) fun al1 tk1 => .call (.bi 29827172356050333523556529781 [(.ref a5), (.ref a2)]) none 4 41 [] (orcV fun _ => .bool false) fun al2 tk2 => .ret (.ok (.ret (.ref a0))) [some (h, lsO [a2, a1, a5, a3, a4] (ep + 1))])] := by kernel_rfl
noncomputable def trPush0_0 : List Nat := [28, 27, 257, 257, 257, 257, 2, 257, 256, 256, 256, 256, 257, 0, 256, 256, 256, 256, 3, 257, 3, 0, 257, 0, 256, 0, 256, 256, 0, 49, 0, 49, 48, 258, 258, 258, 258, 258, 258, 2, 258, 258, 256, 256, 256, 0, 256, 256, 258, 258, 0, 258, 258, 0, 258, 258, 258, 256, 256, 0, 256, 256, 256, 256]
theorem run_push0 (w : World) (X : CxW) (p : Pos) (h ep ti : Nat) (T : Nat → Tup) (a0 : Nat) (al0 tk0 : Nat → Nat) : [mixA [0] (seg (VV w) 142 trPush0_0 [] (X.ctx (pushC h a0)) p [] (denF (X.ctx (pushC h a0)).code) (mkT [(h, lsO [] ep)] [(a0, tupO (T a0))]) 1 0 al0 tk0)] = [mixB (seg (VV w) 142 trPush0_0 [] (X.ctx (pushC h a0)) p [] (denF (X.ctx (pushC h a0)).code) (mkT [(h, lsO [] ep)] [(a0, tupO (T a0))]) 1 0 al0 tk0) (.ret (.ok (.ret .none)) [some (h, lsO [a0] (ep + 1))])] := by kernel_rfl
noncomputable def trPush1_0 : List Nat := [28, 27, 257, 257, 257, 257, 2, 257, 256, 256, 256, 256, 257, 0, 256, 256, 256, 256, 3, 257, 3, 0, 257, 0, 256, 0, 256, 256, 0, 49, 0, 49, 48, 258, 258, 258, 258, 258, 258, 2, 258, 258, 256, 256, 256, 0, 256, 256, 258, 258, 0, 258, 258, 0, 258, 0, 0, 258, 258, 258, 258, 256, 256, 256, 0, 256, 256, 258, 258, 258, 258, 1257, 1256, 1257, 1, 258, 258, 258, 256, 256, 0, 256, 256, 256, 256, 258, 258, 258, 258, 258, 0, 258, 258, 258, 256, 256, 0, 256, 256, 256, 256]
noncomputable def trPush1_1 : List Nat := [28, 27, 257, 257, 257, 257, 2, 257, 256, 256, 256, 256, 257, 0, 256, 256, 256, 256, 3, 257, 3, 0, 257, 0, 256, 0, 256, 256, 0, 49, 0, 49, 48, 258, 258, 258, 258, 258, 258, 2, 258, 258, 256, 256, 256, 0, 256, 256, 258, 258, 0, 258, 258, 0, 258, 0, 0, 258, 258, 258, 258, 256, 256, 256, 0, 256, 256, 258, 258, 258, 258, 1257, 1256, 1257, 1, 258, 258, 258, 256, 256, 0, 256, 256, 256, 256]
theorem run_push1 (w : World) (X : CxW) (p : Pos) (h ep ti : Nat) (T : Nat → Tup) (a0 : Nat) (a1 : Nat) (al0 tk0 : Nat → Nat) : [mixA [0] (seg (VV w) 238 trPush1_0 [orcV fun _ => .bool true] (X.ctx (pushC h a1)) p [] (denF (X.ctx (pushC h a1)).code) (mkT [(h, lsO [a0] ep)] [(a0, tupO (T a0)), (a1, tupO (T a1))]) 1 0 al0 tk0), mixA [0] (seg (VV w) 200 trPush1_1 [orcV fun _ => .bool false] (X.ctx (pushC h a1)) p [] (denF (X.ctx (pushC h a1)).code) (mkT [(h, lsO [a0] ep)] [(a0, tupO (T a0)), (a1, tupO (T a1))]) 1 0 al0 tk0)] = [mixB (seg (VV w) 238 trPush1_0 [orcV fun _ => .bool true] (X.ctx (pushC h a1)) p [] (denF (X.ctx (pushC h a1)).code) (mkT [(h, lsO [a0] ep)] [(a0, tupO (T a0)), (a1, tupO (T a1))]) 1 0 al0 tk0) (.call (.bi 29827172356050333523556529781 [(.ref a1), (.ref a0)]) none 3 17 [] (orcV fun _ => .bool true) fun al1 tk1 => .ret (.ok (.ret .none)) [some (h, lsO [a1, a0] (ep + 1))]), mixB (seg (VV w) 200 trPush1_1 [orcV fun _ => .bool false] (X.ctx (pushC h a1)) p [] (denF (X.ctx (pushC h a1)).code) (mkT [(h, lsO [a0] ep)] [(a0, tupO (T a0)), (a1, tupO (T a1))]) 1 0 al0 tk0) (.call (.bi 29827172356050333523556529781 [(.ref a1), (.ref a0)]) none 3 17 [] (orcV fun _ => .bool false) fun al1 tk1 => .ret (.ok (.ret .none)) [some (h, lsO [a0, a1] (ep + 1))])] := by kernel_rfl
noncomputable def trPush2_0 : List Nat := [28, 27, 257, 257, 257, 257, 2, 257, 256, 256, 256, 256, 257, 0, 256, 256, 256, 256, 3, 257, 3, 0, 257, 0, 256, 0, 256, 256, 0, 49, 0, 49, 48, 258, 258, 258, 258, 258, 258, 2, 258, 258, 256, 256, 256, 0, 256, 256, 258, 258, 0, 258, 258, 0, 258, 0, 0, 258, 258, 258, 258, 256, 256, 256, 0, 256, 256, 258, 258, 258, 258, 1258, 1256, 1258, 1, 258, 258, 258, 256, 256, 0, 256, 256, 256, 256, 258, 258, 258, 258, 258, 0, 258, 258, 258, 256, 256, 0, 256, 256, 256, 256]
noncomputable def trPush2_1 : List Nat := [28, 27, 257, 257, 257, 257, 2, 257, 256, 256, 256, 256, 257, 0, 256, 256, 256, 256, 3, 257, 3, 0, 257, 0, 256, 0, 256, 256, 0, 49, 0, 49, 48, 258, 258, 258, 258, 258, 258, 2, 258, 258, 256, 256, 256, 0, 256, 256, 258, 258, 0, 258, 258, 0, 258, 0, 0, 258, 258, 258, 258, 256, 256, 256, 0, 256, 256, 258, 258, 258, 258, 1258, 1256, 1258, 1, 258, 258, 258, 256, 256, 0, 256, 256, 256, 256]
theorem run_push2 (w : World) (X : CxW) (p : Pos) (h ep ti : Nat) (T : Nat → Tup) (a0 : Nat) (a1 : Nat) (a2 : Nat) (al0 tk0 : Nat → Nat) : [mixA [0] (seg (VV w) 238 trPush2_0 [orcV fun _ => .bool true] (X.ctx (pushC h a2)) p [] (denF (X.ctx (pushC h a2)).code) (mkT [(h, lsO [a0, a1] ep)] [(a0, tupO (T a0)), (a1, tupO (T a1)), (a2, tupO (T a2))]) 1 0 al0 tk0), mixA [0] (seg (VV w) 200 trPush2_1 [orcV fun _ => .bool false] (X.ctx (pushC h a2)) p [] (denF (X.ctx (pushC h a2)).code) (mkT [(h, lsO [a0, a1] ep)] [(a0, tupO (T a0)), (a1, tupO (T a1)), (a2, tupO (T a2))]) 1 0 al0 tk0)] = [mixB (seg (VV w) 238 trPush2_0 [orcV fun _ => .bool true] (X.ctx (pushC h a2)) p [] (denF (X.ctx (pushC h a2)).code) (mkT [(h, lsO [a0, a1] ep)] [(a0, tupO (T a0)), (a1, tupO (T a1)), (a2, tupO (T a2))]) 1 0 al0 tk0) (.call (.bi 29827172356050333523556529781 [(.ref a2), (.ref a0)]) none 3 17 [] (orcV fun _ => .bool true) fun al1 tk1 => .ret (.ok (.ret .none)) [some (h, lsO [a2, a1, a0] (ep + 1))]), mixB (seg (VV w) 200 trPush2_1 [orcV fun _ => .bool false] (X.ctx (pushC h a2)) p [] (denF (X.ctx (pushC h a2)).code) (mkT [(h, lsO [a0, a1] ep)] [(a0, tupO (T a0)), (a1, tupO (T a1)), (a2, tupO (T a2))]) 1 0 al0 tk0) (.call (.bi 29827172356050333523556529781 [(.ref a2), (.ref a0)]) none 3 17 [] (orcV fun _ => .bool false) fun al1 tk1 => .ret (.ok (.ret .none)) [some (h, lsO [a0, a1, a2] (ep + 1))])] := by kernel_rfl
noncomputable def trPush3_0 : List Nat := [28, 27, 257, 257, 257, 257, 2, 257, 256, 256, 256, 256, 257, 0, 256, 256, 256, 256, 3, 257, 3, 0, 257, 0, 256, 0, 256, 256, 0, 49, 0, 49, 48, 258, 258, 258, 258, 258, 258, 2, 258, 258, 256, 256, 256, 0, 256, 256, 258, 258, 0, 258, 258, 0, 258, 0, 0, 258, 258, 258, 258, 256, 256, 256, 0, 256, 256, 258, 258, 258, 258, 1259, 1257, 1259, 1, 258, 258, 258, 256, 256, 0, 256, 256, 256, 256, 258, 258, 258, 258, 258, 0, 258, 0, 0, 258, 258, 258, 258, 256, 256, 256, 0, 256, 256, 258, 258, 258, 258, 1259, 1256, 1259, 1, 258, 258, 258, 256, 256, 0, 256, 256, 256, 256, 258, 258, 258, 258, 258, 0, 258, 258, 258, 256, 256, 0, 256, 256, 256, 256]
noncomputable def trPush3_1 : List Nat := [28, 27, 257, 257, 257, 257, 2, 257, 256, 256, 256, 256, 257, 0, 256, 256, 256, 256, 3, 257, 3, 0, 257, 0, 256, 0, 256, 256, 0, 49, 0, 49, 48, 258, 258, 258, 258, 258, 258, 2, 258, 258, 256, 256, 256, 0, 256, 256, 258, 258, 0, 258, 258, 0, 258, 0, 0, 258, 258, 258, 258, 256, 256, 256, 0, 256, 256, 258, 258, 258, 258, 1259, 1257, 1259, 1, 258, 258, 258, 256, 256, 0, 256, 256, 256, 256, 258, 258, 258, 258, 258, 0, 258, 0, 0, 258, 258, 258, 258, 256, 256, 256, 0, 256, 256, 258, 258, 258, 258, 1259, 1256, 1259, 1, 258, 258, 258, 256, 256, 0, 256, 256, 256, 256]
noncomputable def trPush3_2 : List Nat := [28, 27, 257, 257, 257, 257, 2, 257, 256, 256, 256, 256, 257, 0, 256, 256, 256, 256, 3, 257, 3, 0, 257, 0, 256, 0, 256, 256, 0, 49, 0, 49, 48, 258, 258, 258, 258, 258, 258, 2, 258, 258, 256, 256, 256, 0, 256, 256, 258, 258, 0, 258, 258, 0, 258, 0, 0, 258, 258, 258, 258, 256, 256, 256, 0, 256, 256, 258, 258, 258, 258, 1259, 1257, 1259, 1, 258, 258, 258, 256, 256, 0, 256, 256, 256, 256]
theorem run_push3 (w : World) (X : CxW) (p : Pos) (h ep ti : Nat) (T : Nat → Tup) (a0 : Nat) (a1 : Nat) (a2 : Nat) (a3 : Nat) (al0 tk0 : Nat → Nat) : [mixA [0] (seg (VV w) 333 trPush3_0 [orcV fun _ => .bool true, orcV fun _ => .bool true] (X.ctx (pushC h a3)) p [] (denF (X.ctx (pushC h a3)).code) (mkT [(h, lsO [a0, a1, a2] ep)] [(a0, tupO (T a0)), (a1, tupO (T a1)), (a2, tupO (T a2)), (a3, tupO (T a3))]) 1 0 al0 tk0), mixA [0] (seg (VV w) 295 trPush3_1 [orcV fun _ => .bool true, orcV fun _ => .bool false] (X.ctx (pushC h a3)) p [] (denF (X.ctx (pushC h a3)).code) (mkT [(h, lsO [a0, a1, a2] ep)] [(a0, tupO (T a0)), (a1, tupO (T a1)), (a2, tupO (T a2)), (a3, tupO (T a3))]) 1 0 al0 tk0), mixA [0] (seg (VV w) 199 trPush3_2 [orcV fun _ => .bool false] (X.ctx (pushC h a3)) p [] (denF (X.ctx (pushC h a3)).code) (mkT [(h, lsO [a0, a1, a2] ep)] [(a0, tupO (T a0)), (a1, tupO (T a1)), (a2, tupO (T a2)), (a3, tupO (T a3))]) 1 0 al0 tk0)] = [mixB (seg (VV w) 333 trPush3_0 [orcV fun _ => .bool true, orcV fun _ => .bool true] (X.ctx (pushC h a3)) p [] (denF (X.ctx (pushC h a3)).code) (mkT [(h, lsO [a0, a1, a2] ep)] [(a0, tupO (T a0)), (a1, tupO (T a1)), (a2, tupO (T a2)), (a3, tupO (T a3))]) 1 0 al0 tk0) (.call (.bi 29827172356050333523556529781 [(.ref a3), (.ref a1)]) none 3 17 [] (orcV fun _ => .bool true) fun al1 tk1 => .call (.bi 29827172356050333523556529781 [(.ref a3), (.ref a0)]) none 3 25 [] (orcV fun _ => .bool true) fun al2 tk2 => .ret (.ok (.ret .none)) [some (h, lsO [a3, a0, a2, a1] (ep + 1))]), mixB (seg (VV w) 295 trPush3_1 [orcV fun _ => .bool true, orcV fun _ => .bool false] (X.ctx (pushC h a3)) p [] (denF (X.ctx (pushC h a3)).code) (mkT [(h, lsO [a0, a1, a2] ep)] [(a0, tupO (T a0)), (a1, tupO (T a1)), (a2, tupO (T a2)), (a3, tupO (T a3))]) 1 0 al0 tk0) (.call (.bi 29827172356050333523556529781 [(.ref a3), (.ref a1)]) none 3 17 [] (orcV fun _ => .bool true) fun al1 tk1 => .call (.bi 29827172356050333523556529781 [(.ref a3), (.ref a0)]) none 3 25 [] (orcV fun _ => .bool false) fun al2 tk2 => .ret (.ok (.ret .none)) [some (h, lsO [a0, a3, a2, a1] (ep + 1))]), mixB (seg (VV w) 199 trPush3_2 [orcV fun _ => .bool false] (X.ctx (pushC h a3)) p [] (denF (X.ctx (pushC h a3)).code) (mkT [(h, lsO [a0, a1, a2] ep)] [(a0, tupO (T a0)), (a1, tupO (T a1)), (a2, tupO (T a2)), (a3, tupO (T a3))]) 1 0 al0 tk0) (.call (.bi 29827172356050333523556529781 [(.ref a3), (.ref a1)]) none 3 17 [] (orcV fun _ => .bool false) fun al1 tk1 => .ret (.ok (.ret .none)) [some (h, lsO [a0, a1, a2, a3] (ep + 1))])] := by kernel_rfl
noncomputable def trPush4_0 : List Nat := [28, 27, 257, 257, 257, 257, 2, 257, 256, 256, 256, 256, 257, 0, 256, 256, 256, 256, 3, 257, 3, 0, 257, 0, 256, 0, 256, 256, 0, 49, 0, 49, 48, 258, 258, 258, 258, 258, 258, 2, 258, 258, 256, 256, 256, 0, 256, 256, 258, 258, 0, 258, 258, 0, 258, 0, 0, 258, 258, 258, 258, 256, 256, 256, 0, 256, 256, 258, 258, 258, 258, 1260, 1257, 1260, 1, 258, 258, 258, 256, 256, 0, 256, 256, 256, 256, 258, 258, 258, 258, 258, 0, 258, 0, 0, 258, 258, 258, 258, 256, 256, 256, 0, 256, 256, 258, 258, 258, 258, 1260, 1256, 1260, 1, 258, 258, 258, 256, 256, 0, 256, 256, 256, 256, 258, 258, 258, 258, 258, 0, 258, 258, 258, 256, 256, 0, 256, 256, 256, 256]
noncomputable def trPush4_1 : List Nat := [28, 27, 257, 257, 257, 257, 2, 257, 256, 256, 256, 256, 257, 0, 256, 256, 256, 256, 3, 257, 3, 0, 257, 0, 256, 0, 256, 256, 0, 49, 0, 49, 48, 258, 258, 258, 258, 258, 258, 2, 258, 258, 256, 256, 256, 0, 256, 256, 258, 258, 0, 258, 258, 0, 258, 0, 0, 258, 258, 258, 258, 256, 256, 256, 0, 256, 256, 258, 258, 258, 258, 1260, 1257, 1260, 1, 258, 258, 258, 256, 256, 0, 256, 256, 256, 256, 258, 258, 258, 258, 258, 0, 258, 0, 0, 258, 258, 258, 258, 256, 256, 256, 0, 256, 256, 258, 258, 258, 258, 1260, 1256, 1260, 1, 258, 258, 258, 256, 256, 0, 256, 256, 256, 256]
noncomputable def trPush4_2 : List Nat := [28, 27, 257, 257, 257, 257, 2, 257, 256, 256, 256, 256, 257, 0, 256, 256, 256, 256, 3, 257, 3, 0, 257, 0, 256, 0, 256, 256, 0, 49, 0, 49, 48, 258, 258, 258, 258, 258, 258, 2, 258, 258, 256, 256, 256, 0, 256, 256, 258, 258, 0, 258, 258, 0, 258, 0, 0, 258, 258, 258, 258, 256, 256, 256, 0, 256, 256, 258, 258, 258, 258, 1260, 1257, 1260, 1, 258, 258, 258, 256, 256, 0, 256, 256, 256, 256]
theorem run_push4 (w : World) (X : CxW) (p : Pos) (h ep ti : Nat) (T : Nat → Tup) (a0 : Nat) (a1 : Nat) (a2 : Nat) (a3 : Nat) (a4 : Nat) (al0 tk0 : Nat → Nat) : [mixA [0] (seg (VV w) 333 trPush4_0 [orcV fun _ => .bool true, orcV fun _ => .bool true] (X.ctx (pushC h a4)) p [] (denF (X.ctx (pushC h a4)).code) (mkT [(h, lsO [a0, a1, a2, a3] ep)] [(a0, tupO (T a0)), (a1, tupO (T a1)), (a2, tupO (T a2)), (a3, tupO (T a3)), (a4, tupO (T a4))]) 1 0 al0 tk0), mixA [0] (seg (VV w) 295 trPush4_1 [orcV fun _ => .bool true, orcV fun _ => .bool false] (X.ctx (pushC h a4)) p [] (denF (X.ctx (pushC h a4)).code) (mkT [(h, lsO [a0, a1, a2, a3] ep)] [(a0, tupO (T a0)), (a1, tupO (T a1)), (a2, tupO (T a2)), (a3, tupO (T a3)), (a4, tupO (T a4))]) 1 0 al0 tk0), mixA [0] (seg (VV w) 199 trPush4_2 [orcV fun _ => .bool false] (X.ctx (pushC h a4)) p [] (denF (X.ctx (pushC h a4)).code) (mkT [(h, lsO [a0, a1, a2, a3] ep)] [(a0, tupO (T a0)), (a1, tupO (T a1)), (a2, tupO (T a2)), (a3, tupO (T a3)), (a4, tupO (T a4))]) 1 0 al0 tk0)] = [mixB (seg (VV w) 333 trPush4_0 [orcV fun _ => .bool true, orcV fun _ => .bool true] (X.ctx (pushC h a4)) p [] (denF (X.ctx (pushC h a4)).code) (mkT [(h, lsO [a0, a1, a2, a3] ep)] [(a0, tupO (T a0)), (a1, tupO (T a1)), (a2, tupO (T a2)), (a3, tupO (T a3)), (a4, tupO (T a4))]) 1 0 al0 tk0) (.call (.bi 29827172356050333523556529781 [(.ref a4), (.ref a1)]) none 3 17 [] (orcV fun _ => .bool true) fun al1 tk1 => .call (.bi 29827172356050333523556529781 [(.ref a4), (.ref a0)]) none 3 25 [] (orcV fun _ => .bool true) fun al2 tk2 => .ret (.ok (.ret .none)) [some (h, lsO [a4, a0, a2, a3, a1] (ep + 1))]), mixB (seg (VV w) 295 trPush4_1 [orcV fun _ => .bool true, orcV fun _ => .bool false] (X.ctx (pushC h a4)) p [] (denF (X.ctx (pushC h a4)).code) (mkT [(h, lsO [a0, a1, a2, a3] ep)] [(a0, tupO (T a0)), (a1, tupO (T a1)), (a2, tupO (T a2)), (a3, tupO (T a3)), (a4, tupO (T a4))]) 1 0 al0 tk0) (.call (.bi 29827172356050333523556529781 [(.ref a4), (.ref a1)]) none 3 17 [] (orcV fun _ => .bool true) fun al1 tk1 => .call (.bi 29827172356050333523556529781 [(.ref a4), (.ref a0)]) none 3 25 [] (orcV fun _ => .bool false) fun al2 tk2 => .ret (.ok (.ret .none)) [some (h, lsO [a0, a4, a2, a3, a1] (ep + 1))]), mixB (seg (VV w) 199 trPush4_2 [orcV fun _ => .bool false] (X.ctx (pushC h a4)) p [] (denF (X.ctx (pushC h a4)).code) (mkT [(h, lsO [a0, a1, a2, a3] ep)] [(a0, tupO (T a0)), (a1, tupO (T a1)), (a2, tupO (T a2)), (a3, tupO (T a3)), (a4, tupO (T a4))]) 1 0 al0 tk0) (.call (.bi 29827172356050333523556529781 [(.ref a4), (.ref a1)]) none 3 17 [] (orcV fun _ => .bool false) fun al1 tk1 => .ret (.ok (.ret .none)) [some (h, lsO [a0, a1, a2, a3, a4] (ep + 1))])] := by kernel_rfl
noncomputable def trPush5_0 : List Nat := [28, 27, 257, 257, 257, 257, 2, 257, 256, 256, 256, 256, 257, 0, 256, 256, 256, 256, 3, 257, 3, 0, 257, 0, 256, 0, 256, 256, 0, 49, 0, 49, 48, 258, 258, 258, 258, 258, 258, 2, 258, 258, 256, 256, 256, 0, 256, 256, 258, 258, 0, 258, 258, 0, 258, 0, 0, 258, 258, 258, 258, 256, 256, 256, 0, 256, 256, 258, 258, 258, 258, 1261, 1258, 1261, 1, 258, 258, 258, 256, 256, 0, 256, 256, 256, 256, 258, 258, 258, 258, 258, 0, 258, 0, 0, 258, 258, 258, 258, 256, 256, 256, 0, 256, 256, 258, 258, 258, 258, 1261, 1256, 1261, 1, 258, 258, 258, 256, 256, 0, 256, 256, 256, 256, 258, 258, 258, 258, 258, 0, 258, 258, 258, 256, 256, 0, 256, 256, 256, 256]
noncomputable def trPush5_1 : List Nat := [28, 27, 257, 257, 257, 257, 2, 257, 256, 256, 256, 256, 257, 0, 256, 256, 256, 256, 3, 257, 3, 0, 257, 0, 256, 0, 256, 256, 0, 49, 0, 49, 48, 258, 258, 258, 258, 258, 258, 2, 258, 258, 256, 256, 256, 0, 256, 256, 258, 258, 0, 258, 258, 0, 258, 0, 0, 258, 258, 258, 258, 256, 256, 256, 0, 256, 256, 258, 258, 258, 258, 1261, 1258, 1261, 1, 258, 258, 258, 256, 256, 0, 256, 256, 256, 256, 258, 258, 258, 258, 258, 0, 258, 0, 0, 258, 258, 258, 258, 256, 256, 256, 0, 256, 256, 258, 258, 258, 258, 1261, 1256, 1261, 1, 258, 258, 258, 256, 256, 0, 256, 256, 256, 256]
noncomputable def trPush5_2 : List Nat := [28, 27, 257, 257, 257, 257, 2, 257, 256, 256, 256, 256, 257, 0, 256, 256, 256, 256, 3, 257, 3, 0, 257, 0, 256, 0, 256, 256, 0, 49, 0, 49, 48, 258, 258, 258, 258, 258, 258, 2, 258, 258, 256, 256, 256, 0, 256, 256, 258, 258, 0, 258, 258, 0, 258, 0, 0, 258, 258, 258, 258, 256, 256, 256, 0, 256, 256, 258, 258, 258, 258, 1261, 1258, 1261, 1, 258, 258, 258, 256, 256, 0, 256, 256, 256, 256]
theorem run_push5 (w : World) (X : CxW) (p : Pos) (h ep ti : Nat) (T : Nat → Tup) (a0 : Nat) (a1 : Nat) (a2 : Nat) (a3 : Nat) (a4 : Nat) (a5 : Nat) (al0 tk0 : Nat → Nat) : [mixA [0] (seg (VV w) 333 trPush5_0 [orcV fun _ => .bool true, orcV fun _ => .bool true] (X.ctx (pushC h a5)) p [] (denF (X.ctx (pushC h a5)).code) (mkT [(h, lsO [a0, a1, a2, a3, a4] ep)] [(a0, tupO (T a0)), (a1, tupO (T a1)), (a2, tupO (T a2)), (a3, tupO (T a3)), (a4, tupO (T a4)), (a5, tupO (T a5))]) 1 0 al0 tk0), mixA [0] (seg (VV w) 295 trPush5_1 [orcV fun _ => .bool true, orcV fun _ => .bool false] (X.ctx (pushC h a5)) p [] (denF (X.ctx (pushC h a5)).code) (mkT [(h, lsO [a0, a1, a2, a3, a4] ep)] [(a0, tupO (T a0)), (a1, tupO (T a1)), (a2, tupO (T a2)), (a3, tupO (T a3)), (a4, tupO (T a4)), (a5, tupO (T a5))]) 1 0 al0 tk0), mixA [0] (seg (VV w) 199 trPush5_2 [orcV fun _ => .bool false] (X.ctx (pushC h a5)) p [] (denF (X.ctx (pushC h a5)).code) (mkT [(h, lsO [a0, a1, a2, a3, a4] ep)] [(a0, tupO (T a0)), (a1, tupO (T a1)), (a2, tupO (T a2)), (a3, tupO (T a3)), (a4, tupO (T a4)), (a5, tupO (T a5))]) 1 0 al0 tk0)] = [mixB (seg (VV w) 333 trPush5_0 [orcV fun _ => .bool true, orcV fun _ => .bool true] (X.ctx (pushC h a5)) p [] (denF (X.ctx (pushC h a5)).code) (mkT [(h, lsO [a0, a1, a2, a3, a4] ep)] [(a0, tupO (T a0)), (a1, tupO (T a1)), (a2, tupO (T a2)), (a3, tupO (T a3)), (a4, tupO (T a4)), (a5, tupO (T a5))]) 1 0 al0 tk0) (.call (.bi 29827172356050333523556529781 [(.ref a5), (.ref a2)]) none 3 17 [] (orcV fun _ => .bool true) fun al1 tk1 => .call (.bi 29827172356050333523556529781 [(.ref a5), (.ref a0)]) none 3 25 [] (orcV fun _ => .bool true) fun al2 tk2 => .ret (.ok (.ret .none)) [some (h, lsO [a5, a1, a0, a3, a4, a2] (ep + 1))]), mixB (seg (VV w) 295 trPush5_1 [orcV fun _ => .bool true, orcV fun _ => .bool false] (X.ctx (pushC h a5)) p [] (denF (X.ctx (pushC h a5)).code) (mkT [(h, lsO [a0, a1, a2, a3, a4] ep)] [(a0, tupO (T a0)), (a1, tupO (T a1)), (a2, tupO (T a2)), (a3, tupO (T a3)), (a4, tupO (T a4)), (a5, tupO (T a5))]) 1 0 al0 tk0) (.call (.bi 29827172356050333523556529781 [(.ref a5), (.ref a2)]) none 3 17 [] (orcV fun _ => .bool true) fun al1 tk1 => .call (.bi 29827172356050333523556529781 [(.ref a5), (.ref a0)]) none 3 25 [] (orcV fun _ => .bool false) fun al2 tk2 => .ret (.ok (.ret .none)) [some (h, lsO [a0, a1, a5, a3, a4, a2] (ep + 1))]), mixB (seg (VV w) 199 trPush5_2 [orcV fun _ => .bool false] (X.ctx (pushC h a5)) p [] (denF (X.ctx (pushC h a5)).code) (mkT [(h, lsO [a0, a1, a2, a3, a4] ep)] [(a0, tupO (T a0)), (a1, tupO (T a1)), (a2, tupO (T a2)), (a3, tupO (T a3)), (a4, tupO (T a4)), (a5, tupO (T a5))]) 1 0 al0 tk0) (.call (.bi 29827172356050333523556529781 [(.ref a5), (.ref a2)]) none 3 17 [] (orcV fun _ => .bool false) fun al1 tk1 => .ret (.ok (.ret .none)) [some (h, lsO [a0, a1, a2, a3, a4, a5] (ep + 1))])] := by kernel_rfl
noncomputable def trUp0_0 : List Nat := [56, 55, 257, 257, 257, 257, 2, 3, 0, 257, 0, 256, 0, 256, 256, 257, 257, 257, 257, 257, 257, 257, 256, 256, 256, 0, 256, 256, 257, 257, 257, 0, 0, 257, 257, 0, 257, 257, 0, 257, 0, 257, 257, 257, 257, 0, 257, 257, 256, 256, 256, 0, 256, 256, 257, 257, 256, 256, 256, 0, 256, 256, 1257, 1258, 1257, 1, 257, 257, 256, 256, 256, 0, 256, 256, 257, 257, 256, 256, 0, 256, 256, 256, 256, 257, 257, 257, 257, 0, 0, 257, 257, 257, 257, 0, 257, 0, 257, 257, 257, 257, 0, 257, 257, 256, 256, 256, 0, 256, 256, 257, 257, 256, 256, 256, 0, 256, 256, 1259, 1260, 1259, 1, 257, 257, 256, 256, 256, 0, 256, 256, 257, 257, 256, 256, 0, 256, 256, 256, 256, 257, 257, 257, 257, 0, 0, 257, 257, 257, 257, 0, 257, 257, 257, 256, 256, 0, 256, 256, 256, 256, 3, 257, 257, 257, 49, 0, 49, 48, 258, 258, 258, 258, 258, 258, 2, 258, 258, 256, 256, 256, 0, 256, 256, 258, 258, 0, 258, 258, 0, 258, 0, 0, 258, 258, 258, 258, 256, 256, 256, 0, 256, 256, 258, 258, 258, 258, 1256, 1259, 1256, 1, 258, 258, 258, 256, 256, 0, 256, 256, 256, 256, 258, 258, 258, 258, 258, 0, 258, 0, 0, 258, 258, 258, 258, 256, 256, 256, 0, 256, 256, 258, 258, 258, 258, 1256, 1257, 1256, 1, 258, 258, 258, 256, 256, 0, 256, 256, 256, 256, 258, 258, 258, 258, 258, 0, 258, 258, 258, 256, 256, 0, 256, 256, 256, 256]
noncomputable def trUp0_1 : List Nat := [56, 55, 257, 257, 257, 257, 2, 3, 0, 257, 0, 256, 0, 256, 256, 257, 257, 257, 257, 257, 257, 257, 256, 256, 256, 0, 256, 256, 257, 257, 257, 0, 0, 257, 257, 0, 257, 257, 0, 257, 0, 257, 257, 257, 257, 0, 257, 257, 256, 256, 256, 0, 256, 256, 257, 257, 256, 256, 256, 0, 256, 256, 1257, 1258, 1257, 1, 257, 257, 256, 256, 256, 0, 256, 256, 257, 257, 256, 256, 0, 256, 256, 256, 256, 257, 257, 257, 257, 0, 0, 257, 257, 257, 257, 0, 257, 0, 257, 257, 257, 257, 0, 257, 257, 256, 256, 256, 0, 256, 256, 257, 257, 256, 256, 256, 0, 256, 256, 1259, 1260, 1259, 1, 257, 257, 256, 256, 256, 0, 256, 256, 257, 257, 256, 256, 0, 256, 256, 256, 256, 257, 257, 257, 257, 0, 0, 257, 257, 257, 257, 0, 257, 257, 257, 256, 256, 0, 256, 256, 256, 256, 3, 257, 257, 257, 49, 0, 49, 48, 258, 258, 258, 258, 258, 258, 2, 258, 258, 256, 256, 256, 0, 256, 256, 258, 258, 0, 258, 258, 0, 258, 0, 0, 258, 258, 258, 258, 256, 256, 256, 0, 256, 256, 258, 258, 258, 258, 1256, 1259, 1256, 1, 258, 258, 258, 256, 256, 0, 256, 256, 256, 256, 258, 258, 258, 258, 258, 0, 258, 0, 0, 258, 258, 258, 258, 256, 256, 256, 0, 256, 256, 258, 258, 258, 258, 1256, 1257, 1256, 1, 258, 258, 258, 256, 256, 0, 256, 256, 256, 256]
noncomputable def trUp0_2 : List Nat := [56, 55, 257, 257, 257, 257, 2, 3, 0, 257, 0, 256, 0, 256, 256, 257, 257, 257, 257, 257, 257, 257, 256, 256, 256, 0, 256, 256, 257, 257, 257, 0, 0, 257, 257, 0, 257, 257, 0, 257, 0, 257, 257, 257, 257, 0, 257, 257, 256, 256, 256, 0, 256, 256, 257, 257, 256, 256, 256, 0, 256, 256, 1257, 1258, 1257, 1, 257, 257, 256, 256, 256, 0, 256, 256, 257, 257, 256, 256, 0, 256, 256, 256, 256, 257, 257, 257, 257, 0, 0, 257, 257, 257, 257, 0, 257, 0, 257, 257, 257, 257, 0, 257, 257, 256, 256, 256, 0, 256, 256, 257, 257, 256, 256, 256, 0, 256, 256, 1259, 1260, 1259, 1, 257, 257, 256, 256, 256, 0, 256, 256, 257, 257, 256, 256, 0, 256, 256, 256, 256, 257, 257, 257, 257, 0, 0, 257, 257, 257, 257, 0, 257, 257, 257, 256, 256, 0, 256, 256, 256, 256, 3, 257, 257, 257, 49, 0, 49, 48, 258, 258, 258, 258, 258, 258, 2, 258, 258, 256, 256, 256, 0, 256, 256, 258, 258, 0, 258, 258, 0, 258, 0, 0, 258, 258, 258, 258, 256, 256, 256, 0, 256, 256, 258, 258, 258, 258, 1256, 1259, 1256, 1, 258, 258, 258, 256, 256, 0, 256, 256, 256, 256]
noncomputable def trUp0_3 : List Nat := [56, 55, 257, 257, 257, 257, 2, 3, 0, 257, 0, 256, 0, 256, 256, 257, 257, 257, 257, 257, 257, 257, 256, 256, 256, 0, 256, 256, 257, 257, 257, 0, 0, 257, 257, 0, 257, 257, 0, 257, 0, 257, 257, 257, 257, 0, 257, 257, 256, 256, 256, 0, 256, 256, 257, 257, 256, 256, 256, 0, 256, 256, 1257, 1258, 1257, 1, 257, 257, 256, 256, 256, 0, 256, 256, 257, 257, 256, 256, 0, 256, 256, 256, 256, 257, 257, 257, 257, 0, 0, 257, 257, 257, 257, 0, 257, 0, 257, 257, 257, 257, 0, 257, 257, 256, 256, 256, 0, 256, 256, 257, 257, 256, 256, 256, 0, 256, 256, 1259, 1260, 1259, 1, 257, 257, 257, 257, 257, 256, 256, 256, 0, 256, 256, 257, 257, 256, 256, 0, 256, 256, 256, 256, 257, 257, 257, 257, 0, 0, 257, 257, 257, 257, 0, 257, 257, 257, 256, 256, 0, 256, 256, 256, 256, 3, 257, 257, 257, 49, 0, 49, 48, 258, 258, 258, 258, 258, 258, 2, 258, 258, 256, 256, 256, 0, 256, 256, 258, 258, 0, 258, 258, 0, 258, 0, 0, 258, 258, 258, 258, 256, 256, 256, 0, 256, 256, 258, 258, 258, 258, 1256, 1260, 1256, 1, 258, 258, 258, 256, 256, 0, 256, 256, 256, 256, 258, 258, 258, 258, 258, 0, 258, 0, 0, 258, 258, 258, 258, 256, 256, 256, 0, 256, 256, 258, 258, 258, 258, 1256, 1257, 1256, 1, 258, 258, 258, 256, 256, 0, 256, 256, 256, 256, 258, 258, 258, 258, 258, 0, 258, 258, 258, 256, 256, 0, 256, 256, 256, 256]
noncomputable def trUp0_4 : List Nat := [56, 55, 257, 257, 257, 257, 2, 3, 0, 257, 0, 256, 0, 256, 256, 257, 257, 257, 257, 257, 257, 257, 256, 256, 256, 0, 256, 256, 257, 257, 257, 0, 0, 257, 257, 0, 257, 257, 0, 257, 0, 257, 257, 257, 257, 0, 257, 257, 256, 256, 256, 0, 256, 256, 257, 257, 256, 256, 256, 0, 256, 256, 1257, 1258, 1257, 1, 257, 257, 256, 256, 256, 0, 256, 256, 257, 257, 256, 256, 0, 256, 256, 256, 256, 257, 257, 257, 257, 0, 0, 257, 257, 257, 257, 0, 257, 0, 257, 257, 257, 257, 0, 257, 257, 256, 256, 256, 0, 256, 256, 257, 257, 256, 256, 256, 0, 256, 256, 1259, 1260, 1259, 1, 257, 257, 257, 257, 257, 256, 256, 256, 0, 256, 256, 257, 257, 256, 256, 0, 256, 256, 256, 256, 257, 257, 257, 257, 0, 0, 257, 257, 257, 257, 0, 257, 257, 257, 256, 256, 0, 256, 256, 256, 256, 3, 257, 257, 257, 49, 0, 49, 48, 258, 258, 258, 258, 258, 258, 2, 258, 258, 256, 256, 256, 0, 256, 256, 258, 258, 0, 258, 258, 0, 258, 0, 0, 258, 258, 258, 258, 256, 256, 256, 0, 256, 256, 258, 258, 258, 258, 1256, 1260, 1256, 1, 258, 258, 258, 256, 256, 0, 256, 256, 256, 256, 258, 258, 258, 258, 258, 0, 258, 0, 0, 258, 258, 258, 258, 256, 256, 256, 0, 256, 256, 258, 258, 258, 258, 1256, 1257, 1256, 1, 258, 258, 258, 256, 256, 0, 256, 256, 256, 256]
noncomputable def trUp0_5 : List Nat := [56, 55, 257, 257, 257, 257, 2, 3, 0, 257, 0, 256, 0, 256, 256, 257, 257, 257, 257, 257, 257, 257, 256, 256, 256, 0, 256, 256, 257, 257, 257, 0, 0, 257, 257, 0, 257, 257, 0, 257, 0, 257, 257, 257, 257, 0, 257, 257, 256, 256, 256, 0, 256, 256, 257, 257, 256, 256, 256, 0, 256, 256, 1257, 1258, 1257, 1, 257, 257, 256, 256, 256, 0, 256, 256, 257, 257, 256, 256, 0, 256, 256, 256, 256, 257, 257, 257, 257, 0, 0, 257, 257, 257, 257, 0, 257, 0, 257, 257, 257, 257, 0, 257, 257, 256, 256, 256, 0, 256, 256, 257, 257, 256, 256, 256, 0, 256, 256, 1259, 1260, 1259, 1, 257, 257, 257, 257, 257, 256, 256, 256, 0, 256, 256, 257, 257, 256, 256, 0, 256, 256, 256, 256, 257, 257, 257, 257, 0, 0, 257, 257, 257, 257, 0, 257, 257, 257, 256, 256, 0, 256, 256, 256, 256, 3, 257, 257, 257, 49, 0, 49, 48, 258, 258, 258, 258, 258, 258, 2, 258, 258, 256, 256, 256, 0, 256, 256, 258, 258, 0, 258, 258, 0, 258, 0, 0, 258, 258, 258, 258, 256, 256, 256, 0, 256, 256, 258, 258, 258, 258, 1256, 1260, 1256, 1, 258, 258, 258, 256, 256, 0, 256, 256, 256, 256]
noncomputable def trUp0_6 : List Nat := [56, 55, 257, 257, 257, 257, 2, 3, 0, 257, 0, 256, 0, 256, 256, 257, 257, 257, 257, 257, 257, 257, 256, 256, 256, 0, 256, 256, 257, 257, 257, 0, 0, 257, 257, 0, 257, 257, 0, 257, 0, 257, 257, 257, 257, 0, 257, 257, 256, 256, 256, 0, 256, 256, 257, 257, 256, 256, 256, 0, 256, 256, 1257, 1258, 1257, 1, 257, 257, 257, 257, 257, 256, 256, 256, 0, 256, 256, 257, 257, 256, 256, 0, 256, 256, 256, 256, 257, 257, 257, 257, 0, 0, 257, 257, 257, 257, 0, 257, 0, 257, 257, 257, 257, 0, 257, 257, 256, 256, 256, 0, 256, 256, 257, 257, 256, 256, 0, 256, 256, 256, 256, 257, 257, 257, 257, 0, 0, 257, 257, 257, 257, 0, 257, 257, 257, 256, 256, 0, 256, 256, 256, 256, 3, 257, 257, 257, 49, 0, 49, 48, 258, 258, 258, 258, 258, 258, 2, 258, 258, 256, 256, 256, 0, 256, 256, 258, 258, 0, 258, 258, 0, 258, 0, 0, 258, 258, 258, 258, 256, 256, 256, 0, 256, 256, 258, 258, 258, 258, 1256, 1261, 1256, 1, 258, 258, 258, 256, 256, 0, 256, 256, 256, 256, 258, 258, 258, 258, 258, 0, 258, 0, 0, 258, 258, 258, 258, 256, 256, 256, 0, 256, 256, 258, 258, 258, 258, 1256, 1258, 1256, 1, 258, 258, 258, 256, 256, 0, 256, 256, 256, 256, 258, 258, 258, 258, 258, 0, 258, 258, 258, 256, 256, 0, 256, 256, 256, 256]
noncomputable def trUp0_7 : List Nat := [56, 55, 257, 257, 257, 257, 2, 3, 0, 257, 0, 256, 0, 256, 256, 257, 257, 257, 257, 257, 257, 257, 256, 256, 256, 0, 256, 256, 257, 257, 257, 0, 0, 257, 257, 0, 257, 257, 0, 257, 0, 257, 257, 257, 257, 0, 257, 257, 256, 256, 256, 0, 256, 256, 257, 257, 256, 256, 256, 0, 256, 256, 1257, 1258, 1257, 1, 257, 257, 257, 257, 257, 256, 256, 256, 0, 256, 256, 257, 257, 256, 256, 0, 256, 256, 256, 256, 257, 257, 257, 257, 0, 0, 257, 257, 257, 257, 0, 257, 0, 257, 257, 257, 257, 0, 257, 257, 256, 256, 256, 0, 256, 256, 257, 257, 256, 256, 0, 256, 256, 256, 256, 257, 257, 257, 257, 0, 0, 257, 257, 257, 257, 0, 257, 257, 257, 256, 256, 0, 256, 256, 256, 256, 3, 257, 257, 257, 49, 0, 49, 48, 258, 258, 258, 258, 258, 258, 2, 258, 258, 256, 256, 256, 0, 256, 256, 258, 258, 0, 258, 258, 0, 258, 0, 0, 258, 258, 258, 258, 256, 256, 256, 0, 256, 256, 258, 258, 258, 258, 1256, 1261, 1256, 1, 258, 258, 258, 256, 256, 0, 256, 256, 256, 256, 258, 258, 258, 258, 258, 0, 258, 0, 0, 258, 258, 258, 258, 256, 256, 256, 0, 256, 256, 258, 258, 258, 258, 1256, 1258, 1256, 1, 258, 258, 258, 256, 256, 0, 256, 256, 256, 256]
noncomputable def trUp0_8 : List Nat := [56, 55, 257, 257, 257, 257, 2, 3, 0, 257, 0, 256, 0, 256, 256, 257, 257, 257, 257, 257, 257, 257, 256, 256, 256, 0, 256, 256, 257, 257, 257, 0, 0, 257, 257, 0, 257, 257, 0, 257, 0, 257, 257, 257, 257, 0, 257, 257, 256, 256, 256, 0, 256, 256, 257, 257, 256, 256, 256, 0, 256, 256, 1257, 1258, 1257, 1, 257, 257, 257, 257, 257, 256, 256, 256, 0, 256, 256, 257, 257, 256, 256, 0, 256, 256, 256, 256, 257, 257, 257, 257, 0, 0, 257, 257, 257, 257, 0, 257, 0, 257, 257, 257, 257, 0, 257, 257, 256, 256, 256, 0, 256, 256, 257, 257, 256, 256, 0, 256, 256, 256, 256, 257, 257, 257, 257, 0, 0, 257, 257, 257, 257, 0, 257, 257, 257, 256, 256, 0, 256, 256, 256, 256, 3, 257, 257, 257, 49, 0, 49, 48, 258, 258, 258, 258, 258, 258, 2, 258, 258, 256, 256, 256, 0, 256, 256, 258, 258, 0, 258, 258, 0, 258, 0, 0, 258, 258, 258, 258, 256, 256, 256, 0, 256, 256, 258, 258, 258, 258, 1256, 1261, 1256, 1, 258, 258, 258, 256, 256, 0, 256, 256, 256, 256]
theorem run_up0 (w : World) (X : CxF) (p : Pos) (h ep ti : Nat) (T : Nat → Tup) (a0 : Nat) (a1 : Nat) (a2 : Nat) (a3 : Nat) (a4 : Nat) (a5 : Nat) (al0 tk0 : Nat → Nat) : [mixA [0] (seg (VV w) 663 trUp0_0 [orcV fun _ => .bool true, orcV fun _ => .bool true, orcV fun _ => .bool true, orcV fun _ => .bool true] (X.ctx (upC h 0 ti)) p [] (denF (X.ctx (upC h 0 ti)).code) (mkT [(h, lsO [a0, a1, a2, a3, a4, a5] ep)] [(a0, tupO (T a0)), (a1, tupO (T a1)), (a2, tupO (T a2)), (a3, tupO (T a3)), (a4, tupO (T a4)), (a5, tupO (T a5))]) 1 0 al0 tk0), mixA [0] (seg (VV w) 625 trUp0_1 [orcV fun _ => .bool true, orcV fun _ => .bool true, orcV fun _ => .bool true, orcV fun _ => .bool false] (X.ctx (upC h 0 ti)) p [] (denF (X.ctx (upC h 0 ti)).code) (mkT [(h, lsO [a0, a1, a2, a3, a4, a5] ep)] [(a0, tupO (T a0)), (a1, tupO (T a1)), (a2, tupO (T a2)), (a3, tupO (T a3)), (a4, tupO (T a4)), (a5, tupO (T a5))]) 1 0 al0 tk0), mixA [0] (seg (VV w) 529 trUp0_2 [orcV fun _ => .bool true, orcV fun _ => .bool true, orcV fun _ => .bool false] (X.ctx (upC h 0 ti)) p [] (denF (X.ctx (upC h 0 ti)).code) (mkT [(h, lsO [a0, a1, a2, a3, a4, a5] ep)] [(a0, tupO (T a0)), (a1, tupO (T a1)), (a2, tupO (T a2)), (a3, tupO (T a3)), (a4, tupO (T a4)), (a5, tupO (T a5))]) 1 0 al0 tk0), mixA [0] (seg (VV w) 673 trUp0_3 [orcV fun _ => .bool true, orcV fun _ => .bool false, orcV fun _ => .bool true, orcV fun _ => .bool true] (X.ctx (upC h 0 ti)) p [] (denF (X.ctx (upC h 0 ti)).code) (mkT [(h, lsO [a0, a1, a2, a3, a4, a5] ep)] [(a0, tupO (T a0)), (a1, tupO (T a1)), (a2, tupO (T a2)), (a3, tupO (T a3)), (a4, tupO (T a4)), (a5, tupO (T a5))]) 1 0 al0 tk0), mixA [0] (seg (VV w) 635 trUp0_4 [orcV fun _ => .bool true, orcV fun _ => .bool false, orcV fun _ => .bool true, orcV fun _ => .bool false] (X.ctx (upC h 0 ti)) p [] (denF (X.ctx (upC h 0 ti)).code) (mkT [(h, lsO [a0, a1, a2, a3, a4, a5] ep)] [(a0, tupO (T a0)), (a1, tupO (T a1)), (a2, tupO (T a2)), (a3, tupO (T a3)), (a4, tupO (T a4)), (a5, tupO (T a5))]) 1 0 al0 tk0), mixA [0] (seg (VV w) 539 trUp0_5 [orcV fun _ => .bool true, orcV fun _ => .bool false, orcV fun _ => .bool false] (X.ctx (upC h 0 ti)) p [] (denF (X.ctx (upC h 0 ti)).code) (mkT [(h, lsO [a0, a1, a2, a3, a4, a5] ep)] [(a0, tupO (T a0)), (a1, tupO (T a1)), (a2, tupO (T a2)), (a3, tupO (T a3)), (a4, tupO (T a4)), (a5, tupO (T a5))]) 1 0 al0 tk0), mixA [0] (seg (VV w) 639 trUp0_6 [orcV fun _ => .bool false, orcV fun _ => .bool true, orcV fun _ => .bool true] (X.ctx (upC h 0 ti)) p [] (denF (X.ctx (upC h 0 ti)).code) (mkT [(h, lsO [a0, a1, a2, a3, a4, a5] ep)] [(a0, tupO (T a0)), (a1, tupO (T a1)), (a2, tupO (T a2)), (a3, tupO (T a3)), (a4, tupO (T a4)), (a5, tupO (T a5))]) 1 0 al0 tk0), mixA [0] (seg (VV w) 601 trUp0_7 [orcV fun _ => .bool false, orcV fun _ => .bool true, orcV fun _ => .bool false] (X.ctx (upC h 0 ti)) p [] (denF (X.ctx (upC h 0 ti)).code) (mkT [(h, lsO [a0, a1, a2, a3, a4, a5] ep)] [(a0, tupO (T a0)), (a1, tupO (T a1)), (a2, tupO (T a2)), (a3, tupO (T a3)), (a4, tupO (T a4)), (a5, tupO (T a5))]) 1 0 al0 tk0), mixA [0] (seg (VV w) 505 trUp0_8 [orcV fun _ => .bool false, orcV fun _ => .bool false] (X.ctx (upC h 0 ti)) p [] (denF (X.ctx (upC h 0 ti)).code) (mkT [(h, lsO [a0, a1, a2, a3, a4, a5] ep)] [(a0, tupO (T a0)), (a1, tupO (T a1)), (a2, tupO (T a2)), (a3, tupO (T a3)), (a4, tupO (T a4)), (a5, tupO (T a5))]) 1 0 al0 tk0)] = [mixB (seg (VV w) 663 trUp0_0 [orcV fun _ => .bool true, orcV fun _ => .bool true, orcV fun _ => .bool true, orcV fun _ => .bool true] (X.ctx (upC h 0 ti)) p [] (denF (X.ctx (upC h 0 ti)).code) (mkT [(h, lsO [a0, a1, a2, a3, a4, a5] ep)] [(a0, tupO (T a0)), (a1, tupO (T a1)), (a2, tupO (T a2)), (a3, tupO (T a3)), (a4, tupO (T a4)), (a5, tupO (T a5))]) 1 0 al0 tk0) (.call (.bi 29827172356050333523556529781 [(.ref a1), (.ref a2)]) none 2 15 [] (orcV fun _ => .bool true) fun al1 tk1 => .call (.bi 29827172356050333523556529781 [(.ref a3), (.ref a4)]) none 2 25 [] (orcV fun _ => .bool true) fun al2 tk2 => .call (.bi 29827172356050333523556529781 [(.ref a0), (.ref a3)]) none 3 42 [] (orcV fun _ => .bool true) fun al3 tk3 => .call (.bi 29827172356050333523556529781 [(.ref a0), (.ref a1)]) none 3 50 [] (orcV fun _ => .bool true) fun al4 tk4 => .ret (.ok (.ret .none)) [some (h, lsO [a0, a1, a2, a3, a4, a5] ep)]), mixB (seg (VV w) 625 trUp0_1 [orcV fun _ => .bool true, orcV fun _ => .bool true, orcV fun _ => .bool true, orcV fun _ => .bool false] (X.ctx (upC h 0 ti)) p [] (denF (X.ctx (upC h 0 ti)).code) (mkT [(h, lsO [a0, a1, a2, a3, a4, a5] ep)] [(a0, tupO (T a0)), (a1, tupO (T a1)), (a2, tupO (T a2)), (a3, tupO (T a3)), (a4, tupO (T a4)), (a5, tupO (T a5))]) 1 0 al0 tk0) (.call (.bi 29827172356050333523556529781 [(.ref a1), (.ref a2)]) none 2 15 [] (orcV fun _ => .bool true) fun al1 tk1 => .call (.bi 29827172356050333523556529781 [(.ref a3), (.ref a4)]) none 2 25 [] (orcV fun _ => .bool true) fun al2 tk2 => .call (.bi 29827172356050333523556529781 [(.ref a0), (.ref a3)]) none 3 42 [] (orcV fun _ => .bool true) fun al3 tk3 => .call (.bi 29827172356050333523556529781 [(.ref a0), (.ref a1)]) none 3 50 [] (orcV fun _ => .bool false) fun al4 tk4 => .ret (.ok (.ret .none)) [some (h, lsO [a1, a0, a2, a3, a4, a5] ep)]), mixB (seg (VV w) 529 trUp0_2 [orcV fun _ => .bool true, orcV fun _ => .bool true, orcV fun _ => .bool false] (X.ctx (upC h 0 ti)) p [] (denF (X.ctx (upC h 0 ti)).code) (mkT [(h, lsO [a0, a1, a2, a3, a4, a5] ep)] [(a0, tupO (T a0)), (a1, tupO (T a1)), (a2, tupO (T a2)), (a3, tupO (T a3)), (a4, tupO (T a4)), (a5, tupO (T a5))]) 1 0 al0 tk0) (.call (.bi 29827172356050333523556529781 [(.ref a1), (.ref a2)]) none 2 15 [] (orcV fun _ => .bool true) fun al1 tk1 => .call (.bi 29827172356050333523556529781 [(.ref a3), (.ref a4)]) none 2 25 [] (orcV fun _ => .bool true) fun al2 tk2 => .call (.bi 29827172356050333523556529781 [(.ref a0), (.ref a3)]) none 3 42 [] (orcV fun _ => .bool false) fun al3 tk3 => .ret (.ok (.ret .none)) [some (h, lsO [a1, a3, a2, a0, a4, a5] ep)]), mixB (seg (VV w) 673 trUp0_3 [orcV fun _ => .bool true, orcV fun _ => .bool false, orcV fun _ => .bool true, orcV fun _ => .bool true] (X.ctx (upC h 0 ti)) p [] (denF (X.ctx (upC h 0 ti)).code) (mkT [(h, lsO [a0, a1, a2, a3, a4, a5] ep)] [(a0, tupO (T a0)), (a1, tupO (T a1)), (a2, tupO (T a2)), (a3, tupO (T a3)), (a4, tupO (T a4)), (a5, tupO (T a5))]) 1 0 al0 tk0) (.call (.bi 29827172356050333523556529781 [(.ref a1), (.ref a2)]) none 2 15 [] (orcV fun _ => .bool true) fun al1 tk1 => .call (.bi 29827172356050333523556529781 [(.ref a3), (.ref a4)]) none 2 25 [] (orcV fun _ => .bool false) fun al2 tk2 => .call (.bi 29827172356050333523556529781 [(.ref a0), (.ref a4)]) none 3 43 [] (orcV fun _ => .bool true) fun al3 tk3 => .call (.bi 29827172356050333523556529781 [(.ref a0), (.ref a1)]) none 3 51 [] (orcV fun _ => .bool true) fun al4 tk4 => .ret (.ok (.ret .none)) [some (h, lsO [a0, a1, a2, a3, a4, a5] ep)]), mixB (seg (VV w) 635 trUp0_4 [orcV fun _ => .bool true, orcV fun _ => .bool false, orcV fun _ => .bool true, orcV fun _ => .bool false] (X.ctx (upC h 0 ti)) p [] (denF (X.ctx (upC h 0 ti)).code) (mkT [(h, lsO [a0, a1, a2, a3, a4, a5] ep)] [(a0, tupO (T a0)), (a1, tupO (T a1)), (a2, tupO (T a2)), (a3, tupO (T a3)), (a4, tupO (T a4)), (a5, tupO (T a5))]) 1 0 al0 tk0) (.call (.bi 29827172356050333523556529781 [(.ref a1), (.ref a2)]) none 2 15 [] (orcV fun _ => .bool true) fun al1 tk1 => .call (.bi 29827172356050333523556529781 [(.ref a3), (.ref a4)]) none 2 25 [] (orcV fun _ => .bool false) fun al2 tk2 => .call (.bi 29827172356050333523556529781 [(.ref a0), (.ref a4)]) none 3 43 [] (orcV fun _ => .bool true) fun al3 tk3 => .call (.bi 29827172356050333523556529781 [(.ref a0), (.ref a1)]) none 3 51 [] (orcV fun _ => .bool false) fun al4 tk4 => .ret (.ok (.ret .none)) [some (h, lsO [a1, a0, a2, a3, a4, a5] ep)]), mixB (seg (VV w) 539 trUp0_5 [orcV fun _ => .bool true, orcV fun _ => .bool false, orcV fun _ => .bool false] (X.ctx (upC h 0 ti)) p [] (denF (X.ctx (upC h 0 ti)).code) (mkT [(h, lsO [a0, a1, a2, a3, a4, a5] ep)] [(a0, tupO (T a0)), (a1, tupO (T a1)), (a2, tupO (T a2)), (a3, tupO (T a3)), (a4, tupO (T a4)), (a5, tupO (T a5))]) 1 0 al0 tk0) (.call (.bi 29827172356050333523556529781 [(.ref a1), (.ref a2)]) none 2 15 [] (orcV fun _ => .bool true) fun al1 tk1 => .call (.bi 29827172356050333523556529781 [(.ref a3), (.ref a4)]) none 2 25 [] (orcV fun _ => .bool false) fun al2 tk2 => .call (.bi 29827172356050333523556529781 [(.ref a0), (.ref a4)]) none 3 43 [] (orcV fun _ => .bool false) fun al3 tk3 => .ret (.ok (.ret .none)) [some (h, lsO [a1, a4, a2, a3, a0, a5] ep)]), mixB (seg (VV w) 639 trUp0_6 [orcV fun _ => .bool false, orcV fun _ => .bool true, orcV fun _ => .bool true] (X.ctx (upC h 0 ti)) p [] (denF (X.ctx (upC h 0 ti)).code) (mkT [(h, lsO [a0, a1, a2, a3, a4, a5] ep)] [(a0, tupO (T a0)), (a1, tupO (T a1)), (a2, tupO (T a2)), (a3, tupO (T a3)), (a4, tupO (T a4)), (a5, tupO (T a5))]) 1 0 al0 tk0) (.call (.bi 29827172356050333523556529781 [(.ref a1), (.ref a2)]) none 2 15 [] (orcV fun _ => .bool false) fun al1 tk1 => .call (.bi 29827172356050333523556529781 [(.ref a0), (.ref a5)]) none 3 42 [] (orcV fun _ => .bool true) fun al2 tk2 => .call (.bi 29827172356050333523556529781 [(.ref a0), (.ref a2)]) none 3 50 [] (orcV fun _ => .bool true) fun al3 tk3 => .ret (.ok (.ret .none)) [some (h, lsO [a0, a1, a2, a3, a4, a5] ep)]), mixB (seg (VV w) 601 trUp0_7 [orcV fun _ => .bool false, orcV fun _ => .bool true, orcV fun _ => .bool false] (X.ctx (upC h 0 ti)) p [] (denF (X.ctx (upC h 0 ti)).code) (mkT [(h, lsO [a0, a1, a2, a3, a4, a5] ep)] [(a0, tupO (T a0)), (a1, tupO (T a1)), (a2, tupO (T a2)), (a3, tupO (T a3)), (a4, tupO (T a4)), (a5, tupO (T a5))]) 1 0 al0 tk0) (.call (.bi 29827172356050333523556529781 [(.ref a1), (.ref a2)]) none 2 15 [] (orcV fun _ => .bool false) fun al1 tk1 => .call (.bi 29827172356050333523556529781 [(.ref a0), (.ref a5)]) none 3 42 [] (orcV fun _ => .bool true) fun al2 tk2 => .call (.bi 29827172356050333523556529781 [(.ref a0), (.ref a2)]) none 3 50 [] (orcV fun _ => .bool false) fun al3 tk3 => .ret (.ok (.ret .none)) [some (h, lsO [a2, a1, a0, a3, a4, a5] ep)]), mixB (seg (VV w) 505 trUp0_8 [orcV fun _ => .bool false, orcV fun _ => .bool false] (X.ctx (upC h 0 ti)) p [] (denF (X.ctx (upC h 0 ti)).code) (mkT [(h, lsO [a0, a1, a2, a3, a4, a5] ep)] [(a0, tupO (T a0)), (a1, tupO (T a1)), (a2, tupO (T a2)), (a3, tupO (T a3)), (a4, tupO (T a4)), (a5, tupO (T a5))]) 1 0 al0 tk0) (.call (.bi 29827172356050333523556529781 [(.ref a1), (.ref a2)]) none 2 15 [] (orcV fun _ => .bool false) fun al1 tk1 => .call (.bi 29827172356050333523556529781 [(.ref a0), (.ref a5)]) none 3 42 [] (orcV fun _ => .bool false) fun al2 tk2 => .ret (.ok (.ret .none)) [some (h, lsO [a2, a1, a5, a3, a4, a0] ep)])] := by kernel_rfl
noncomputable def trUp1_0 : List Nat := [56, 55, 257, 257, 257, 257, 2, 3, 0, 257, 0, 256, 0, 256, 256, 257, 257, 257, 257, 257, 257, 257, 256, 256, 256, 0, 256, 256, 257, 257, 257, 0, 0, 257, 257, 0, 257, 257, 0, 257, 0, 257, 257, 257, 257, 0, 257, 257, 256, 256, 256, 0, 256, 256, 257, 257, 256, 256, 256, 0, 256, 256, 1259, 1260, 1259, 1, 257, 257, 256, 256, 256, 0, 256, 256, 257, 257, 256, 256, 0, 256, 256, 256, 256, 257, 257, 257, 257, 0, 0, 257, 257, 257, 257, 0, 257, 257, 257, 256, 256, 0, 256, 256, 256, 256, 3, 257, 257, 257, 49, 0, 49, 48, 258, 258, 258, 258, 258, 258, 2, 258, 258, 256, 256, 256, 0, 256, 256, 258, 258, 0, 258, 258, 0, 258, 0, 0, 258, 258, 258, 258, 256, 256, 256, 0, 256, 256, 258, 258, 258, 258, 1257, 1259, 1257, 1, 258, 258, 258, 256, 256, 0, 256, 256, 256, 256, 258, 258, 258, 258, 258, 0, 258, 258, 258, 256, 256, 0, 256, 256, 256, 256]
noncomputable def trUp1_1 : List Nat := [56, 55, 257, 257, 257, 257, 2, 3, 0, 257, 0, 256, 0, 256, 256, 257, 257, 257, 257, 257, 257, 257, 256, 256, 256, 0, 256, 256, 257, 257, 257, 0, 0, 257, 257, 0, 257, 257, 0, 257, 0, 257, 257, 257, 257, 0, 257, 257, 256, 256, 256, 0, 256, 256, 257, 257, 256, 256, 256, 0, 256, 256, 1259, 1260, 1259, 1, 257, 257, 256, 256, 256, 0, 256, 256, 257, 257, 256, 256, 0, 256, 256, 256, 256, 257, 257, 257, 257, 0, 0, 257, 257, 257, 257, 0, 257, 257, 257, 256, 256, 0, 256, 256, 256, 256, 3, 257, 257, 257, 49, 0, 49, 48, 258, 258, 258, 258, 258, 258, 2, 258, 258, 256, 256, 256, 0, 256, 256, 258, 258, 0, 258, 258, 0, 258, 0, 0, 258, 258, 258, 258, 256, 256, 256, 0, 256, 256, 258, 258, 258, 258, 1257, 1259, 1257, 1, 258, 258, 258, 256, 256, 0, 256, 256, 256, 256]
noncomputable def trUp1_2 : List Nat := [56, 55, 257, 257, 257, 257, 2, 3, 0, 257, 0, 256, 0, 256, 256, 257, 257, 257, 257, 257, 257, 257, 256, 256, 256, 0, 256, 256, 257, 257, 257, 0, 0, 257, 257, 0, 257, 257, 0, 257, 0, 257, 257, 257, 257, 0, 257, 257, 256, 256, 256, 0, 256, 256, 257, 257, 256, 256, 256, 0, 256, 256, 1259, 1260, 1259, 1, 257, 257, 257, 257, 257, 256, 256, 256, 0, 256, 256, 257, 257, 256, 256, 0, 256, 256, 256, 256, 257, 257, 257, 257, 0, 0, 257, 257, 257, 257, 0, 257, 257, 257, 256, 256, 0, 256, 256, 256, 256, 3, 257, 257, 257, 49, 0, 49, 48, 258, 258, 258, 258, 258, 258, 2, 258, 258, 256, 256, 256, 0, 256, 256, 258, 258, 0, 258, 258, 0, 258, 0, 0, 258, 258, 258, 258, 256, 256, 256, 0, 256, 256, 258, 258, 258, 258, 1257, 1260, 1257, 1, 258, 258, 258, 256, 256, 0, 256, 256, 256, 256, 258, 258, 258, 258, 258, 0, 258, 258, 258, 256, 256, 0, 256, 256, 256, 256]
noncomputable def trUp1_3 : List Nat := [56, 55, 257, 257, 257, 257, 2, 3, 0, 257, 0, 256, 0, 256, 256, 257, 257, 257, 257, 257, 257, 257, 256, 256, 256, 0, 256, 256, 257, 257, 257, 0, 0, 257, 257, 0, 257, 257, 0, 257, 0, 257, 257, 257, 257, 0, 257, 257, 256, 256, 256, 0, 256, 256, 257, 257, 256, 256, 256, 0, 256, 256, 1259, 1260, 1259, 1, 257, 257, 257, 257, 257, 256, 256, 256, 0, 256, 256, 257, 257, 256, 256, 0, 256, 256, 256, 256, 257, 257, 257, 257, 0, 0, 257, 257, 257, 257, 0, 257, 257, 257, 256, 256, 0, 256, 256, 256, 256, 3, 257, 257, 257, 49, 0, 49, 48, 258, 258, 258, 258, 258, 258, 2, 258, 258, 256, 256, 256, 0, 256, 256, 258, 258, 0, 258, 258, 0, 258, 0, 0, 258, 258, 258, 258, 256, 256, 256, 0, 256, 256, 258, 258, 258, 258, 1257, 1260, 1257, 1, 258, 258, 258, 256, 256, 0, 256, 256, 256, 256]
theorem run_up1 (w : World) (X : CxF) (p : Pos) (h ep ti : Nat) (T : Nat → Tup) (a0 : Nat) (a1 : Nat) (a2 : Nat) (a3 : Nat) (a4 : Nat) (a5 : Nat) (al0 tk0 : Nat → Nat) : [mixA [0] (seg (VV w) 436 trUp1_0 [orcV fun _ => .bool true, orcV fun _ => .bool true] (X.ctx (upC h 1 ti)) p [] (denF (X.ctx (upC h 1 ti)).code) (mkT [(h, lsO [a0, a1, a2, a3, a4, a5] ep)] [(a0, tupO (T a0)), (a1, tupO (T a1)), (a2, tupO (T a2)), (a3, tupO (T a3)), (a4, tupO (T a4)), (a5, tupO (T a5))]) 1 0 al0 tk0), mixA [0] (seg (VV w) 398 trUp1_1 [orcV fun _ => .bool true, orcV fun _ => .bool false] (X.ctx (upC h 1 ti)) p [] (denF (X.ctx (upC h 1 ti)).code) (mkT [(h, lsO [a0, a1, a2, a3, a4, a5] ep)] [(a0, tupO (T a0)), (a1, tupO (T a1)), (a2, tupO (T a2)), (a3, tupO (T a3)), (a4, tupO (T a4)), (a5, tupO (T a5))]) 1 0 al0 tk0), mixA [0] (seg (VV w) 446 trUp1_2 [orcV fun _ => .bool false, orcV fun _ => .bool true] (X.ctx (upC h 1 ti)) p [] (denF (X.ctx (upC h 1 ti)).code) (mkT [(h, lsO [a0, a1, a2, a3, a4, a5] ep)] [(a0, tupO (T a0)), (a1, tupO (T a1)), (a2, tupO (T a2)), (a3, tupO (T a3)), (a4, tupO (T a4)), (a5, tupO (T a5))]) 1 0 al0 tk0), mixA [0] (seg (VV w) 408 trUp1_3 [orcV fun _ => .bool false, orcV fun _ => .bool false] (X.ctx (upC h 1 ti)) p [] (denF (X.ctx (upC h 1 ti)).code) (mkT [(h, lsO [a0, a1, a2, a3, a4, a5] ep)] [(a0, tupO (T a0)), (a1, tupO (T a1)), (a2, tupO (T a2)), (a3, tupO (T a3)), (a4, tupO (T a4)), (a5, tupO (T a5))]) 1 0 al0 tk0)] = [mixB (seg (VV w) 436 trUp1_0 [orcV fun _ => .bool true, orcV fun _ => .bool true] (X.ctx (upC h 1 ti)) p [] (denF (X.ctx (upC h 1 ti)).code) (mkT [(h, lsO [a0, a1, a2, a3, a4, a5] ep)] [(a0, tupO (T a0)), (a1, tupO (T a1)), (a2, tupO (T a2)), (a3, tupO (T a3)), (a4, tupO (T a4)), (a5, tupO (T a5))]) 1 0 al0 tk0) (.call (.bi 29827172356050333523556529781 [(.ref a3), (.ref a4)]) none 2 15 [] (orcV fun _ => .bool true) fun al1 tk1 => .call (.bi 29827172356050333523556529781 [(.ref a1), (.ref a3)]) none 3 32 [] (orcV fun _ => .bool true) fun al2 tk2 => .ret (.ok (.ret .none)) [some (h, lsO [a0, a1, a2, a3, a4, a5] ep)]), mixB (seg (VV w) 398 trUp1_1 [orcV fun _ => .bool true, orcV fun _ => .bool false] (X.ctx (upC h 1 ti)) p [] (denF (X.ctx (upC h 1 ti)).code) (mkT [(h, lsO [a0, a1, a2, a3, a4, a5] ep)] [(a0, tupO (T a0)), (a1, tupO (T a1)), (a2, tupO (T a2)), (a3, tupO (T a3)), (a4, tupO (T a4)), (a5, tupO (T a5))]) 1 0 al0 tk0) (.call (.bi 29827172356050333523556529781 [(.ref a3), (.ref a4)]) none 2 15 [] (orcV fun _ => .bool true) fun al1 tk1 => .call (.bi 29827172356050333523556529781 [(.ref a1), (.ref a3)]) none 3 32 [] (orcV fun _ => .bool false) fun al2 tk2 => .ret (.ok (.ret .none)) [some (h, lsO [a0, a3, a2, a1, a4, a5] ep)]), mixB (seg (VV w) 446 trUp1_2 [orcV fun _ => .bool false, orcV fun _ => .bool true] (X.ctx (upC h 1 ti)) p [] (denF (X.ctx (upC h 1 ti)).code) (mkT [(h, lsO [a0, a1, a2, a3, a4, a5] ep)] [(a0, tupO (T a0)), (a1, tupO (T a1)), (a2, tupO (T a2)), (a3, tupO (T a3)), (a4, tupO (T a4)), (a5, tupO (T a5))]) 1 0 al0 tk0) (.call (.bi 29827172356050333523556529781 [(.ref a3), (.ref a4)]) none 2 15 [] (orcV fun _ => .bool false) fun al1 tk1 => .call (.bi 29827172356050333523556529781 [(.ref a1), (.ref a4)]) none 3 33 [] (orcV fun _ => .bool true) fun al2 tk2 => .ret (.ok (.ret .none)) [some (h, lsO [a0, a1, a2, a3, a4, a5] ep)]), mixB (seg (VV w) 408 trUp1_3 [orcV fun _ => .bool false, orcV fun _ => .bool false] (X.ctx (upC h 1 ti)) p [] (denF (X.ctx (upC h 1 ti)).code) (mkT [(h, lsO [a0, a1, a2, a3, a4, a5] ep)] [(a0, tupO (T a0)), (a1, tupO (T a1)), (a2, tupO (T a2)), (a3, tupO (T a3)), (a4, tupO (T a4)), (a5, tupO (T a5))]) 1 0 al0 tk0) (.call (.bi 29827172356050333523556529781 [(.ref a3), (.ref a4)]) none 2 15 [] (orcV fun _ => .bool false) fun al1 tk1 => .call (.bi 29827172356050333523556529781 [(.ref a1), (.ref a4)]) none 3 33 [] (orcV fun _ => .bool false) fun al2 tk2 => .ret (.ok (.ret .none)) [some (h, lsO [a0, a4, a2, a3, a1, a5] ep)])] := by kernel_rfl
noncomputable def trUp2_0 : List Nat := [56, 55, 257, 257, 257, 257, 2, 3, 0, 257, 0, 256, 0, 256, 256, 257, 257, 257, 257, 257, 257, 257, 256, 256, 256, 0, 256, 256, 257, 257, 257, 0, 0, 257, 257, 0, 257, 257, 0, 257, 0, 257, 257, 257, 257, 0, 257, 257, 256, 256, 256, 0, 256, 256, 257, 257, 256, 256, 0, 256, 256, 256, 256, 257, 257, 257, 257, 0, 0, 257, 257, 257, 257, 0, 257, 257, 257, 256, 256, 0, 256, 256, 256, 256, 3, 257, 257, 257, 49, 0, 49, 48, 258, 258, 258, 258, 258, 258, 2, 258, 258, 256, 256, 256, 0, 256, 256, 258, 258, 0, 258, 258, 0, 258, 0, 0, 258, 258, 258, 258, 256, 256, 256, 0, 256, 256, 258, 258, 258, 258, 1258, 1261, 1258, 1, 258, 258, 258, 256, 256, 0, 256, 256, 256, 256, 258, 258, 258, 258, 258, 0, 258, 258, 258, 256, 256, 0, 256, 256, 256, 256]
noncomputable def trUp2_1 : List Nat := [56, 55, 257, 257, 257, 257, 2, 3, 0, 257, 0, 256, 0, 256, 256, 257, 257, 257, 257, 257, 257, 257, 256, 256, 256, 0, 256, 256, 257, 257, 257, 0, 0, 257, 257, 0, 257, 257, 0, 257, 0, 257, 257, 257, 257, 0, 257, 257, 256, 256, 256, 0, 256, 256, 257, 257, 256, 256, 0, 256, 256, 256, 256, 257, 257, 257, 257, 0, 0, 257, 257, 257, 257, 0, 257, 257, 257, 256, 256, 0, 256, 256, 256, 256, 3, 257, 257, 257, 49, 0, 49, 48, 258, 258, 258, 258, 258, 258, 2, 258, 258, 256, 256, 256, 0, 256, 256, 258, 258, 0, 258, 258, 0, 258, 0, 0, 258, 258, 258, 258, 256, 256, 256, 0, 256, 256, 258, 258, 258, 258, 1258, 1261, 1258, 1, 258, 258, 258, 256, 256, 0, 256, 256, 256, 256]
theorem run_up2 (w : World) (X : CxF) (p : Pos) (h ep ti : Nat) (T : Nat → Tup) (a0 : Nat) (a1 : Nat) (a2 : Nat) (a3 : Nat) (a4 : Nat) (a5 : Nat) (al0 tk0 : Nat → Nat) : [mixA [0] (seg (VV w) 402 trUp2_0 [orcV fun _ => .bool true] (X.ctx (upC h 2 ti)) p [] (denF (X.ctx (upC h 2 ti)).code) (mkT [(h, lsO [a0, a1, a2, a3, a4, a5] ep)] [(a0, tupO (T a0)), (a1, tupO (T a1)), (a2, tupO (T a2)), (a3, tupO (T a3)), (a4, tupO (T a4)), (a5, tupO (T a5))]) 1 0 al0 tk0), mixA [0] (seg (VV w) 364 trUp2_1 [orcV fun _ => .bool false] (X.ctx (upC h 2 ti)) p [] (denF (X.ctx (upC h 2 ti)).code) (mkT [(h, lsO [a0, a1, a2, a3, a4, a5] ep)] [(a0, tupO (T a0)), (a1, tupO (T a1)), (a2, tupO (T a2)), (a3, tupO (T a3)), (a4, tupO (T a4)), (a5, tupO (T a5))]) 1 0 al0 tk0)] = [mixB (seg (VV w) 402 trUp2_0 [orcV fun _ => .bool true] (X.ctx (upC h 2 ti)) p [] (denF (X.ctx (upC h 2 ti)).code) (mkT [(h, lsO [a0, a1, a2, a3, a4, a5] ep)] [(a0, tupO (T a0)), (a1, tupO (T a1)), (a2, tupO (T a2)), (a3, tupO (T a3)), (a4, tupO (T a4)), (a5, tupO (T a5))]) 1 0 al0 tk0) (.call (.bi 29827172356050333523556529781 [(.ref a2), (.ref a5)]) none 3 31 [] (orcV fun _ => .bool true) fun al1 tk1 => .ret (.ok (.ret .none)) [some (h, lsO [a0, a1, a2, a3, a4, a5] ep)]), mixB (seg (VV w) 364 trUp2_1 [orcV fun _ => .bool false] (X.ctx (upC h 2 ti)) p [] (denF (X.ctx (upC h 2 ti)).code) (mkT [(h, lsO [a0, a1, a2, a3, a4, a5] ep)] [(a0, tupO (T a0)), (a1, tupO (T a1)), (a2, tupO (T a2)), (a3, tupO (T a3)), (a4, tupO (T a4)), (a5, tupO (T a5))]) 1 0 al0 tk0) (.call (.bi 29827172356050333523556529781 [(.ref a2), (.ref a5)]) none 3 31 [] (orcV fun _ => .bool false) fun al1 tk1 => .ret (.ok (.ret .none)) [some (h, lsO [a0, a1, a5, a3, a4, a2] ep)])] := by kernel_rfl
end Mine
namespace Mine
open PySem PySem.W PySem.W.X
open Sem (wp finPost)
/-! heappop, heappush, _siftup on a heap of at most six -/
theorem pop_1 {w : World} {X : CxW} {p : Pos} {s : Shared} {h ep ti : Nat} {T : Nat → Tup} {a0 : Nat} (H : HeapIn w s h T [a0] ep) :
    ∃ as' s', Returns (model prog w) (X.ctx (popC h)) p s (.ok (.ret (.ref a0))) s' ∧ s'.heap.get? h = some (lsO as' (ep + 1)) ∧ Step s s' [h] ∧ (∀ f : Nat → Nat, f a0 + (as'.map f).sum = ([a0].map f).sum) ∧ (IsH ([a0].map fun a => tkey (T a)) → IsH (as'.map fun a => tkey (T a)) ∧ ∀ b ∈ [a0], tkey (T a0) ≤ tkey (T b)) := by
  have D0 := H.rep
  obtain ⟨r, s', hr, rfl, g, st⟩ := run_mix (fs := [0]) (R := fun r s' => r = .ok (.ret (.ref a0)) ∧ s'.heap.get? h = some (lsO [] (ep + 1)) ∧ Step s s' [h]) (isM w) (skip_ok _ w) D0 ((List.cons.inj (run_pop1 w X p h ep ti T a0 _ _)).1)
    (fun s' hn hc => ⟨rfl, hc.1, hn.step⟩)
  exact ⟨_, s', hr, g, st, fun f => by simp only [List.map, List.sum_cons, List.sum_nil] <;> omega, fun hk => by first | (simp only [IsH, List.map, List.forall_mem_cons, List.not_mem_nil, false_imp_iff, implies_true, and_true] at hk ⊢; omega) | (simp [IsH] at hk ⊢ <;> omega)⟩
theorem pop_2 {w : World} {X : CxW} {p : Pos} {s : Shared} {h ep ti : Nat} {T : Nat → Tup} {a0 : Nat} {a1 : Nat} (H : HeapIn w s h T [a0, a1] ep) :
    ∃ as' s', Returns (model prog w) (X.ctx (popC h)) p s (.ok (.ret (.ref a0))) s' ∧ s'.heap.get? h = some (lsO as' (ep + 1)) ∧ Step s s' [h] ∧ (∀ f : Nat → Nat, f a0 + (as'.map f).sum = ([a0, a1].map f).sum) ∧ (IsH ([a0, a1].map fun a => tkey (T a)) → IsH (as'.map fun a => tkey (T a)) ∧ ∀ b ∈ [a0, a1], tkey (T a0) ≤ tkey (T b)) := by
  have D0 := H.rep
  obtain ⟨r, s', hr, rfl, g, st⟩ := run_mix (fs := [0]) (R := fun r s' => r = .ok (.ret (.ref a0)) ∧ s'.heap.get? h = some (lsO [a1] (ep + 1)) ∧ Step s s' [h]) (isM w) (skip_ok _ w) D0 ((List.cons.inj (run_pop2 w X p h ep ti T a0 a1 _ _)).1)
    (fun s' hn hc => ⟨rfl, hc.1, hn.step⟩)
  exact ⟨_, s', hr, g, st, fun f => by simp only [List.map, List.sum_cons, List.sum_nil] <;> omega, fun hk => by first | (simp only [IsH, List.map, List.forall_mem_cons, List.not_mem_nil, false_imp_iff, implies_true, and_true] at hk ⊢; omega) | (simp [IsH] at hk ⊢ <;> omega)⟩
theorem pop_3 {w : World} {X : CxW} {p : Pos} {s : Shared} {h ep ti : Nat} {T : Nat → Tup} {a0 : Nat} {a1 : Nat} {a2 : Nat} (H : HeapIn w s h T [a0, a1, a2] ep) :
    ∃ as' s', Returns (model prog w) (X.ctx (popC h)) p s (.ok (.ret (.ref a0))) s' ∧ s'.heap.get? h = some (lsO as' (ep + 1)) ∧ Step s s' [h] ∧ (∀ f : Nat → Nat, f a0 + (as'.map f).sum = ([a0, a1, a2].map f).sum) ∧ (IsH ([a0, a1, a2].map fun a => tkey (T a)) → IsH (as'.map fun a => tkey (T a)) ∧ ∀ b ∈ [a0, a1, a2], tkey (T a0) ≤ tkey (T b)) := by
  have D0 := H.rep
  cases q0 : tupLt (T a2) (T a1) with
  | true =>
    obtain ⟨r, s', hr, rfl, g, st⟩ := run_mix (fs := [0]) (R := fun r s' => r = .ok (.ret (.ref a0)) ∧ s'.heap.get? h = some (lsO [a2, a1] (ep + 1)) ∧ Step s s' [h]) (isM w) (skip_ok _ w) D0 ((List.cons.inj (run_pop3 w X p h ep ti T a0 a1 a2 _ _)).1)
      (okr_tlt true (H.tup a2 (by simp)) (H.tup a1 (by simp)) q0 rfl fun al1 tk1 => fun s' hn hc => ⟨rfl, hc.1, hn.step⟩)
    have z0 := H.lt (a := a2) (b := a1) (by simp) (by simp) q0
    simp only [decide_eq_true_eq, decide_eq_false_iff_not] at z0
    exact ⟨_, s', hr, g, st, fun f => by simp only [List.map, List.sum_cons, List.sum_nil] <;> omega, fun hk => by first | (simp only [IsH, List.map, List.forall_mem_cons, List.not_mem_nil, false_imp_iff, implies_true, and_true] at hk ⊢; omega) | (simp [IsH] at hk ⊢ <;> omega)⟩
  | false =>
    obtain ⟨r, s', hr, rfl, g, st⟩ := run_mix (fs := [0]) (R := fun r s' => r = .ok (.ret (.ref a0)) ∧ s'.heap.get? h = some (lsO [a1, a2] (ep + 1)) ∧ Step s s' [h]) (isM w) (skip_ok _ w) D0 ((List.cons.inj ((List.cons.inj (run_pop3 w X p h ep ti T a0 a1 a2 _ _)).2)).1)
      (okr_tlt false (H.tup a2 (by simp)) (H.tup a1 (by simp)) q0 rfl fun al1 tk1 => fun s' hn hc => ⟨rfl, hc.1, hn.step⟩)
    have z0 := H.lt (a := a2) (b := a1) (by simp) (by simp) q0
    simp only [decide_eq_true_eq, decide_eq_false_iff_not] at z0
    exact ⟨_, s', hr, g, st, fun f => by simp only [List.map, List.sum_cons, List.sum_nil] <;> omega, fun hk => by first | (simp only [IsH, List.map, List.forall_mem_cons, List.not_mem_nil, false_imp_iff, implies_true, and_true] at hk ⊢; omega) | (simp [IsH] at hk ⊢ <;> omega)⟩
theorem pop_4 {w : World} {X : CxW} {p : Pos} {s : Shared} {h ep ti : Nat} {T : Nat → Tup} {a0 : Nat} {a1 : Nat} {a2 : Nat} {a3 : Nat} (H : HeapIn w s h T [a0, a1, a2, a3] ep) :
    ∃ as' s', Returns (model prog w) (X.ctx (popC h)) p s (.ok (.ret (.ref a0))) s' ∧ s'.heap.get? h = some (lsO as' (ep + 1)) ∧ Step s s' [h] ∧ (∀ f : Nat → Nat, f a0 + (as'.map f).sum = ([a0, a1, a2, a3].map f).sum) ∧ (IsH ([a0, a1, a2, a3].map fun a => tkey (T a)) → IsH (as'.map fun a => tkey (T a)) ∧ ∀ b ∈ [a0, a1, a2, a3], tkey (T a0) ≤ tkey (T b)) := by
  have D0 := H.rep
  cases q0 : tupLt (T a1) (T a2) with
  | true =>
    cases q1 : tupLt (T a3) (T a1) with
    | true =>
      obtain ⟨r, s', hr, rfl, g, st⟩ := run_mix (fs := [0]) (R := fun r s' => r = .ok (.ret (.ref a0)) ∧ s'.heap.get? h = some (lsO [a3, a1, a2] (ep + 1)) ∧ Step s s' [h]) (isM w) (skip_ok _ w) D0 ((List.cons.inj (run_pop4 w X p h ep ti T a0 a1 a2 a3 _ _)).1)
        (okr_tlt true (H.tup a1 (by simp)) (H.tup a2 (by simp)) q0 rfl fun al1 tk1 => okr_tlt true (H.tup a3 (by simp)) (H.tup a1 (by simp)) q1 rfl fun al2 tk2 => fun s' hn hc => ⟨rfl, hc.1, hn.step⟩)
      have z0 := H.lt (a := a1) (b := a2) (by simp) (by simp) q0
      have z1 := H.lt (a := a3) (b := a1) (by simp) (by simp) q1
      simp only [decide_eq_true_eq, decide_eq_false_iff_not] at z0 z1
      exact ⟨_, s', hr, g, st, fun f => by simp only [List.map, List.sum_cons, List.sum_nil] <;> omega, fun hk => by first | (simp only [IsH, List.map, List.forall_mem_cons, List.not_mem_nil, false_imp_iff, implies_true, and_true] at hk ⊢; omega) | (simp [IsH] at hk ⊢ <;> omega)⟩
    | false =>
      obtain ⟨r, s', hr, rfl, g, st⟩ := run_mix (fs := [0]) (R := fun r s' => r = .ok (.ret (.ref a0)) ∧ s'.heap.get? h = some (lsO [a1, a3, a2] (ep + 1)) ∧ Step s s' [h]) (isM w) (skip_ok _ w) D0 ((List.cons.inj ((List.cons.inj (run_pop4 w X p h ep ti T a0 a1 a2 a3 _ _)).2)).1)
        (okr_tlt true (H.tup a1 (by simp)) (H.tup a2 (by simp)) q0 rfl fun al1 tk1 => okr_tlt false (H.tup a3 (by simp)) (H.tup a1 (by simp)) q1 rfl fun al2 tk2 => fun s' hn hc => ⟨rfl, hc.1, hn.step⟩)
      have z0 := H.lt (a := a1) (b := a2) (by simp) (by simp) q0
      have z1 := H.lt (a := a3) (b := a1) (by simp) (by simp) q1
      simp only [decide_eq_true_eq, decide_eq_false_iff_not] at z0 z1
      exact ⟨_, s', hr, g, st, fun f => by simp only [List.map, List.sum_cons, List.sum_nil] <;> omega, fun hk => by first | (simp only [IsH, List.map, List.forall_mem_cons, List.not_mem_nil, false_imp_iff, implies_true, and_true] at hk ⊢; omega) | (simp [IsH] at hk ⊢ <;> omega)⟩
  | false =>
    cases q1 : tupLt (T a3) (T a2) with
    | true =>
      obtain ⟨r, s', hr, rfl, g, st⟩ := run_mix (fs := [0]) (R := fun r s' => r = .ok (.ret (.ref a0)) ∧ s'.heap.get? h = some (lsO [a3, a1, a2] (ep + 1)) ∧ Step s s' [h]) (isM w) (skip_ok _ w) D0 ((List.cons.inj ((List.cons.inj ((List.cons.inj (run_pop4 w X p h ep ti T a0 a1 a2 a3 _ _)).2)).2)).1)
        (okr_tlt false (H.tup a1 (by simp)) (H.tup a2 (by simp)) q0 rfl fun al1 tk1 => okr_tlt true (H.tup a3 (by simp)) (H.tup a2 (by simp)) q1 rfl fun al2 tk2 => fun s' hn hc => ⟨rfl, hc.1, hn.step⟩)
      have z0 := H.lt (a := a1) (b := a2) (by simp) (by simp) q0
      have z1 := H.lt (a := a3) (b := a2) (by simp) (by simp) q1
      simp only [decide_eq_true_eq, decide_eq_false_iff_not] at z0 z1
      exact ⟨_, s', hr, g, st, fun f => by simp only [List.map, List.sum_cons, List.sum_nil] <;> omega, fun hk => by first | (simp only [IsH, List.map, List.forall_mem_cons, List.not_mem_nil, false_imp_iff, implies_true, and_true] at hk ⊢; omega) | (simp [IsH] at hk ⊢ <;> omega)⟩
    | false =>
      obtain ⟨r, s', hr, rfl, g, st⟩ := run_mix (fs := [0]) (R := fun r s' => r = .ok (.ret (.ref a0)) ∧ s'.heap.get? h = some (lsO [a2, a1, a3] (ep + 1)) ∧ Step s s' [h]) (isM w) (skip_ok _ w) D0 ((List.cons.inj ((List.cons.inj ((List.cons.inj ((List.cons.inj (run_pop4 w X p h ep ti T a0 a1 a2 a3 _ _)).2)).2)).2)).1)
        (okr_tlt false (H.tup a1 (by simp)) (H.tup a2 (by simp)) q0 rfl fun al1 tk1 => okr_tlt false (H.tup a3 (by simp)) (H.tup a2 (by simp)) q1 rfl fun al2 tk2 => fun s' hn hc => ⟨rfl, hc.1, hn.step⟩)
      have z0 := H.lt (a := a1) (b := a2) (by simp) (by simp) q0
      have z1 := H.lt (a := a3) (b := a2) (by simp) (by simp) q1
      simp only [decide_eq_true_eq, decide_eq_false_iff_not] at z0 z1
      exact ⟨_, s', hr, g, st, fun f => by simp only [List.map, List.sum_cons, List.sum_nil] <;> omega, fun hk => by first | (simp only [IsH, List.map, List.forall_mem_cons, List.not_mem_nil, false_imp_iff, implies_true, and_true] at hk ⊢; omega) | (simp [IsH] at hk ⊢ <;> omega)⟩
theorem pop_5 {w : World} {X : CxW} {p : Pos} {s : Shared} {h ep ti : Nat} {T : Nat → Tup} {a0 : Nat} {a1 : Nat} {a2 : Nat} {a3 : Nat} {a4 : Nat} (H : HeapIn w s h T [a0, a1, a2, a3, a4] ep) :
    ∃ as' s', Returns (model prog w) (X.ctx (popC h)) p s (.ok (.ret (.ref a0))) s' ∧ s'.heap.get? h = some (lsO as' (ep + 1)) ∧ Step s s' [h] ∧ (∀ f : Nat → Nat, f a0 + (as'.map f).sum = ([a0, a1, a2, a3, a4].map f).sum) ∧ (IsH ([a0, a1, a2, a3, a4].map fun a => tkey (T a)) → IsH (as'.map fun a => tkey (T a)) ∧ ∀ b ∈ [a0, a1, a2, a3, a4], tkey (T a0) ≤ tkey (T b)) := by
  have D0 := H.rep
  cases q0 : tupLt (T a1) (T a2) with
  | true =>
    cases q1 : tupLt (T a4) (T a3) with
    | true =>
      cases q2 : tupLt (T a4) (T a1) with
      | true =>
        obtain ⟨r, s', hr, rfl, g, st⟩ := run_mix (fs := [0]) (R := fun r s' => r = .ok (.ret (.ref a0)) ∧ s'.heap.get? h = some (lsO [a4, a1, a2, a3] (ep + 1)) ∧ Step s s' [h]) (isM w) (skip_ok _ w) D0 ((List.cons.inj (run_pop5 w X p h ep ti T a0 a1 a2 a3 a4 _ _)).1)
          (okr_tlt true (H.tup a1 (by simp)) (H.tup a2 (by simp)) q0 rfl fun al1 tk1 => okr_tlt true (H.tup a4 (by simp)) (H.tup a3 (by simp)) q1 rfl fun al2 tk2 => okr_tlt true (H.tup a4 (by simp)) (H.tup a1 (by simp)) q2 rfl fun al3 tk3 => fun s' hn hc => ⟨rfl, hc.1, hn.step⟩)
        have z0 := H.lt (a := a1) (b := a2) (by simp) (by simp) q0
        have z1 := H.lt (a := a4) (b := a3) (by simp) (by simp) q1
        have z2 := H.lt (a := a4) (b := a1) (by simp) (by simp) q2
        simp only [decide_eq_true_eq, decide_eq_false_iff_not] at z0 z1 z2
        exact ⟨_, s', hr, g, st, fun f => by simp only [List.map, List.sum_cons, List.sum_nil] <;> omega, fun hk => by first | (simp only [IsH, List.map, List.forall_mem_cons, List.not_mem_nil, false_imp_iff, implies_true, and_true] at hk ⊢; omega) | (simp [IsH] at hk ⊢ <;> omega)⟩
      | false =>
        obtain ⟨r, s', hr, rfl, g, st⟩ := run_mix (fs := [0]) (R := fun r s' => r = .ok (.ret (.ref a0)) ∧ s'.heap.get? h = some (lsO [a1, a4, a2, a3] (ep + 1)) ∧ Step s s' [h]) (isM w) (skip_ok _ w) D0 ((List.cons.inj ((List.cons.inj (run_pop5 w X p h ep ti T a0 a1 a2 a3 a4 _ _)).2)).1)
          (okr_tlt true (H.tup a1 (by simp)) (H.tup a2 (by simp)) q0 rfl fun al1 tk1 => okr_tlt true (H.tup a4 (by simp)) (H.tup a3 (by simp)) q1 rfl fun al2 tk2 => okr_tlt false (H.tup a4 (by simp)) (H.tup a1 (by simp)) q2 rfl fun al3 tk3 => fun s' hn hc => ⟨rfl, hc.1, hn.step⟩)
        have z0 := H.lt (a := a1) (b := a2) (by simp) (by simp) q0
        have z1 := H.lt (a := a4) (b := a3) (by simp) (by simp) q1
        have z2 := H.lt (a := a4) (b := a1) (by simp) (by simp) q2
        simp only [decide_eq_true_eq, decide_eq_false_iff_not] at z0 z1 z2
        exact ⟨_, s', hr, g, st, fun f => by simp only [List.map, List.sum_cons, List.sum_nil] <;> omega, fun hk => by first | (simp only [IsH, List.map, List.forall_mem_cons, List.not_mem_nil, false_imp_iff, implies_true, and_true] at hk ⊢; omega) | (simp [IsH] at hk ⊢ <;> omega)⟩
    | false =>
      obtain ⟨r, s', hr, rfl, g, st⟩ := run_mix (fs := [0]) (R := fun r s' => r = .ok (.ret (.ref a0)) ∧ s'.heap.get? h = some (lsO [a1, a3, a2, a4] (ep + 1)) ∧ Step s s' [h]) (isM w) (skip_ok _ w) D0 ((List.cons.inj ((List.cons.inj ((List.cons.inj (run_pop5 w X p h ep ti T a0 a1 a2 a3 a4 _ _)).2)).2)).1)
        (okr_tlt true (H.tup a1 (by simp)) (H.tup a2 (by simp)) q0 rfl fun al1 tk1 => okr_tlt false (H.tup a4 (by simp)) (H.tup a3 (by simp)) q1 rfl fun al2 tk2 => fun s' hn hc => ⟨rfl, hc.1, hn.step⟩)
      have z0 := H.lt (a := a1) (b := a2) (by simp) (by simp) q0
      have z1 := H.lt (a := a4) (b := a3) (by simp) (by simp) q1
      simp only [decide_eq_true_eq, decide_eq_false_iff_not] at z0 z1
      exact ⟨_, s', hr, g, st, fun f => by simp only [List.map, List.sum_cons, List.sum_nil] <;> omega, fun hk => by first | (simp only [IsH, List.map, List.forall_mem_cons, List.not_mem_nil, false_imp_iff, implies_true, and_true] at hk ⊢; omega) | (simp [IsH] at hk ⊢ <;> omega)⟩
  | false =>
    cases q1 : tupLt (T a4) (T a2) with
    | true =>
      obtain ⟨r, s', hr, rfl, g, st⟩ := run_mix (fs := [0]) (R := fun r s' => r = .ok (.ret (.ref a0)) ∧ s'.heap.get? h = some (lsO [a4, a1, a2, a3] (ep + 1)) ∧ Step s s' [h]) (isM w) (skip_ok _ w) D0 ((List.cons.inj ((List.cons.inj ((List.cons.inj ((List.cons.inj (run_pop5 w X p h ep ti T a0 a1 a2 a3 a4 _ _)).2)).2)).2)).1)
        (okr_tlt false (H.tup a1 (by simp)) (H.tup a2 (by simp)) q0 rfl fun al1 tk1 => okr_tlt true (H.tup a4 (by simp)) (H.tup a2 (by simp)) q1 rfl fun al2 tk2 => fun s' hn hc => ⟨rfl, hc.1, hn.step⟩)
      have z0 := H.lt (a := a1) (b := a2) (by simp) (by simp) q0
      have z1 := H.lt (a := a4) (b := a2) (by simp) (by simp) q1
      simp only [decide_eq_true_eq, decide_eq_false_iff_not] at z0 z1
      exact ⟨_, s', hr, g, st, fun f => by simp only [List.map, List.sum_cons, List.sum_nil] <;> omega, fun hk => by first | (simp only [IsH, List.map, List.forall_mem_cons, List.not_mem_nil, false_imp_iff, implies_true, and_true] at hk ⊢; omega) | (simp [IsH] at hk ⊢ <;> omega)⟩
    | false =>
      obtain ⟨r, s', hr, rfl, g, st⟩ := run_mix (fs := [0]) (R := fun r s' => r = .ok (.ret (.ref a0)) ∧ s'.heap.get? h = some (lsO [a2, a1, a4, a3] (ep + 1)) ∧ Step s s' [h]) (isM w) (skip_ok _ w) D0 ((List.cons.inj ((List.cons.inj ((List.cons.inj ((List.cons.inj ((List.cons.inj (run_pop5 w X p h ep ti T a0 a1 a2 a3 a4 _ _)).2)).2)).2)).2)).1)
        (okr_tlt false (H.tup a1 (by simp)) (H.tup a2 (by simp)) q0 rfl fun al1 tk1 => okr_tlt false (H.tup a4 (by simp)) (H.tup a2 (by simp)) q1 rfl fun al2 tk2 => fun s' hn hc => ⟨rfl, hc.1, hn.step⟩)
      have z0 := H.lt (a := a1) (b := a2) (by simp) (by simp) q0
      have z1 := H.lt (a := a4) (b := a2) (by simp) (by simp) q1
      simp only [decide_eq_true_eq, decide_eq_false_iff_not] at z0 z1
      exact ⟨_, s', hr, g, st, fun f => by simp only [List.map, List.sum_cons, List.sum_nil] <;> omega, fun hk => by first | (simp only [IsH, List.map, List.forall_mem_cons, List.not_mem_nil, false_imp_iff, implies_true, and_true] at hk ⊢; omega) | (simp [IsH] at hk ⊢ <;> omega)⟩
theorem pop_6 {w : World} {X : CxW} {p : Pos} {s : Shared} {h ep ti : Nat} {T : Nat → Tup} {a0 : Nat} {a1 : Nat} {a2 : Nat} {a3 : Nat} {a4 : Nat} {a5 : Nat} (H : HeapIn w s h T [a0, a1, a2, a3, a4, a5] ep) :
    ∃ as' s', Returns (model prog w) (X.ctx (popC h)) p s (.ok (.ret (.ref a0))) s' ∧ s'.heap.get? h = some (lsO as' (ep + 1)) ∧ Step s s' [h] ∧ (∀ f : Nat → Nat, f a0 + (as'.map f).sum = ([a0, a1, a2, a3, a4, a5].map f).sum) ∧ (IsH ([a0, a1, a2, a3, a4, a5].map fun a => tkey (T a)) → IsH (as'.map fun a => tkey (T a)) ∧ ∀ b ∈ [a0, a1, a2, a3, a4, a5], tkey (T a0) ≤ tkey (T b)) := by
  have D0 := H.rep
  cases q0 : tupLt (T a1) (T a2) with
  | true =>
    cases q1 : tupLt (T a3) (T a4) with
    | true =>
      cases q2 : tupLt (T a5) (T a3) with
      | true =>
        cases q3 : tupLt (T a5) (T a1) with
        | true =>
          obtain ⟨r, s', hr, rfl, g, st⟩ := run_mix (fs := [0]) (R := fun r s' => r = .ok (.ret (.ref a0)) ∧ s'.heap.get? h = some (lsO [a5, a1, a2, a3, a4] (ep + 1)) ∧ Step s s' [h]) (isM w) (skip_ok _ w) D0 ((List.cons.inj (run_pop6 w X p h ep ti T a0 a1 a2 a3 a4 a5 _ _)).1)
            (okr_tlt true (H.tup a1 (by simp)) (H.tup a2 (by simp)) q0 rfl fun al1 tk1 => okr_tlt true (H.tup a3 (by simp)) (H.tup a4 (by simp)) q1 rfl fun al2 tk2 => okr_tlt true (H.tup a5 (by simp)) (H.tup a3 (by simp)) q2 rfl fun al3 tk3 => okr_tlt true (H.tup a5 (by simp)) (H.tup a1 (by simp)) q3 rfl fun al4 tk4 => fun s' hn hc => ⟨rfl, hc.1, hn.step⟩)
          have z0 := H.lt (a := a1) (b := a2) (by simp) (by simp) q0
          have z1 := H.lt (a := a3) (b := a4) (by simp) (by simp) q1
          have z2 := H.lt (a := a5) (b := a3) (by simp) (by simp) q2
          have z3 := H.lt (a := a5) (b := a1) (by simp) (by simp) q3
          simp only [decide_eq_true_eq, decide_eq_false_iff_not] at z0 z1 z2 z3
          exact ⟨_, s', hr, g, st, fun f => by simp only [List.map, List.sum_cons, List.sum_nil] <;> omega, fun hk => by first | (simp only [IsH, List.map, List.forall_mem_cons, List.not_mem_nil, false_imp_iff, implies_true, and_true] at hk ⊢; omega) | (simp [IsH] at hk ⊢ <;> omega)⟩
        | false =>
          obtain ⟨r, s', hr, rfl, g, st⟩ := run_mix (fs := [0]) (R := fun r s' => r = .ok (.ret (.ref a0)) ∧ s'.heap.get? h = some (lsO [a1, a5, a2, a3, a4] (ep + 1)) ∧ Step s s' [h]) (isM w) (skip_ok _ w) D0 ((List.cons.inj ((List.cons.inj (run_pop6 w X p h ep ti T a0 a1 a2 a3 a4 a5 _ _)).2)).1)
            (okr_tlt true (H.tup a1 (by simp)) (H.tup a2 (by simp)) q0 rfl fun al1 tk1 => okr_tlt true (H.tup a3 (by simp)) (H.tup a4 (by simp)) q1 rfl fun al2 tk2 => okr_tlt true (H.tup a5 (by simp)) (H.tup a3 (by simp)) q2 rfl fun al3 tk3 => okr_tlt false (H.tup a5 (by simp)) (H.tup a1 (by simp)) q3 rfl fun al4 tk4 => fun s' hn hc => ⟨rfl, hc.1, hn.step⟩)
          have z0 := H.lt (a := a1) (b := a2) (by simp) (by simp) q0
          have z1 := H.lt (a := a3) (b := a4) (by simp) (by simp) q1
          have z2 := H.lt (a := a5) (b := a3) (by simp) (by simp) q2
          have z3 := H.lt (a := a5) (b := a1) (by simp) (by simp) q3
          simp only [decide_eq_true_eq, decide_eq_false_iff_not] at z0 z1 z2 z3
          exact ⟨_, s', hr, g, st, fun f => by simp only [List.map, List.sum_cons, List.sum_nil] <;> omega, fun hk => by first | (simp only [IsH, List.map, List.forall_mem_cons, List.not_mem_nil, false_imp_iff, implies_true, and_true] at hk ⊢; omega) | (simp [IsH] at hk ⊢ <;> omega)⟩
      | false =>
        obtain ⟨r, s', hr, rfl, g, st⟩ := run_mix (fs := [0]) (R := fun r s' => r = .ok (.ret (.ref a0)) ∧ s'.heap.get? h = some (lsO [a1, a3, a2, a5, a4] (ep + 1)) ∧ Step s s' [h]) (isM w) (skip_ok _ w) D0 ((List.cons.inj ((List.cons.inj ((List.cons.inj (run_pop6 w X p h ep ti T a0 a1 a2 a3 a4 a5 _ _)).2)).2)).1)
          (okr_tlt true (H.tup a1 (by simp)) (H.tup a2 (by simp)) q0 rfl fun al1 tk1 => okr_tlt true (H.tup a3 (by simp)) (H.tup a4 (by simp)) q1 rfl fun al2 tk2 => okr_tlt false (H.tup a5 (by simp)) (H.tup a3 (by simp)) q2 rfl fun al3 tk3 => fun s' hn hc => ⟨rfl, hc.1, hn.step⟩)
        have z0 := H.lt (a := a1) (b := a2) (by simp) (by simp) q0
        have z1 := H.lt (a := a3) (b := a4) (by simp) (by simp) q1
        have z2 := H.lt (a := a5) (b := a3) (by simp) (by simp) q2
        simp only [decide_eq_true_eq, decide_eq_false_iff_not] at z0 z1 z2
        exact ⟨_, s', hr, g, st, fun f => by simp only [List.map, List.sum_cons, List.sum_nil] <;> omega, fun hk => by first | (simp only [IsH, List.map, List.forall_mem_cons, List.not_mem_nil, false_imp_iff, implies_true, and_true] at hk ⊢; omega) | (simp [IsH] at hk ⊢ <;> omega)⟩
    | false =>
      cases q2 : tupLt (T a5) (T a4) with
      | true =>
        cases q3 : tupLt (T a5) (T a1) with
        | true =>
          obtain ⟨r, s', hr, rfl, g, st⟩ := run_mix (fs := [0]) (R := fun r s' => r = .ok (.ret (.ref a0)) ∧ s'.heap.get? h = some (lsO [a5, a1, a2, a3, a4] (ep + 1)) ∧ Step s s' [h]) (isM w) (skip_ok _ w) D0 ((List.cons.inj ((List.cons.inj ((List.cons.inj ((List.cons.inj (run_pop6 w X p h ep ti T a0 a1 a2 a3 a4 a5 _ _)).2)).2)).2)).1)
            (okr_tlt true (H.tup a1 (by simp)) (H.tup a2 (by simp)) q0 rfl fun al1 tk1 => okr_tlt false (H.tup a3 (by simp)) (H.tup a4 (by simp)) q1 rfl fun al2 tk2 => okr_tlt true (H.tup a5 (by simp)) (H.tup a4 (by simp)) q2 rfl fun al3 tk3 => okr_tlt true (H.tup a5 (by simp)) (H.tup a1 (by simp)) q3 rfl fun al4 tk4 => fun s' hn hc => ⟨rfl, hc.1, hn.step⟩)
          have z0 := H.lt (a := a1) (b := a2) (by simp) (by simp) q0
          have z1 := H.lt (a := a3) (b := a4) (by simp) (by simp) q1
          have z2 := H.lt (a := a5) (b := a4) (by simp) (by simp) q2
          have z3 := H.lt (a := a5) (b := a1) (by simp) (by simp) q3
          simp only [decide_eq_true_eq, decide_eq_false_iff_not] at z0 z1 z2 z3
          exact ⟨_, s', hr, g, st, fun f => by simp only [List.map, List.sum_cons, List.sum_nil] <;> omega, fun hk => by first | (simp only [IsH, List.map, List.forall_mem_cons, List.not_mem_nil, false_imp_iff, implies_true, and_true] at hk ⊢; omega) | (simp [IsH] at hk ⊢ <;> omega)⟩
        | false =>
          obtain ⟨r, s', hr, rfl, g, st⟩ := run_mix (fs := [0]) (R := fun r s' => r = .ok (.ret (.ref a0)) ∧ s'.heap.get? h = some (lsO [a1, a5, a2, a3, a4] (ep + 1)) ∧ Step s s' [h]) (isM w) (skip_ok _ w) D0 ((List.cons.inj ((List.cons.inj ((List.cons.inj ((List.cons.inj ((List.cons.inj (run_pop6 w X p h ep ti T a0 a1 a2 a3 a4 a5 _ _)).2)).2)).2)).2)).1)
            (okr_tlt true (H.tup a1 (by simp)) (H.tup a2 (by simp)) q0 rfl fun al1 tk1 => okr_tlt false (H.tup a3 (by simp)) (H.tup a4 (by simp)) q1 rfl fun al2 tk2 => okr_tlt true (H.tup a5 (by simp)) (H.tup a4 (by simp)) q2 rfl fun al3 tk3 => okr_tlt false (H.tup a5 (by simp)) (H.tup a1 (by simp)) q3 rfl fun al4 tk4 => fun s' hn hc => ⟨rfl, hc.1, hn.step⟩)
          have z0 := H.lt (a := a1) (b := a2) (by simp) (by simp) q0
          have z1 := H.lt (a := a3) (b := a4) (by simp) (by simp) q1
          have z2 := H.lt (a := a5) (b := a4) (by simp) (by simp) q2
          have z3 := H.lt (a := a5) (b := a1) (by simp) (by simp) q3
          simp only [decide_eq_true_eq, decide_eq_false_iff_not] at z0 z1 z2 z3
          exact ⟨_, s', hr, g, st, fun f => by simp only [List.map, List.sum_cons, List.sum_nil] <;> omega, fun hk => by first | (simp only [IsH, List.map, List.forall_mem_cons, List.not_mem_nil, false_imp_iff, implies_true, and_true] at hk ⊢; omega) | (simp [IsH] at hk ⊢ <;> omega)⟩
      | false =>
        obtain ⟨r, s', hr, rfl, g, st⟩ := run_mix (fs := [0]) (R := fun r s' => r = .ok (.ret (.ref a0)) ∧ s'.heap.get? h = some (lsO [a1, a4, a2, a3, a5] (ep + 1)) ∧ Step s s' [h]) (isM w) (skip_ok _ w) D0 ((List.cons.inj ((List.cons.inj ((List.cons.inj ((List.cons.inj ((List.cons.inj ((List.cons.inj (run_pop6 w X p h ep ti T a0 a1 a2 a3 a4 a5 _ _)).2)).2)).2)).2)).2)).1)
          (okr_tlt true (H.tup a1 (by simp)) (H.tup a2 (by simp)) q0 rfl fun al1 tk1 => okr_tlt false (H.tup a3 (by simp)) (H.tup a4 (by simp)) q1 rfl fun al2 tk2 => okr_tlt false (H.tup a5 (by simp)) (H.tup a4 (by simp)) q2 rfl fun al3 tk3 => fun s' hn hc => ⟨rfl, hc.1, hn.step⟩)
        have z0 := H.lt (a := a1) (b := a2) (by simp) (by simp) q0
        have z1 := H.lt (a := a3) (b := a4) (by simp) (by simp) q1
        have z2 := H.lt (a := a5) (b := a4) (by simp) (by simp) q2
        simp only [decide_eq_true_eq, decide_eq_false_iff_not] at z0 z1 z2
        exact ⟨_, s', hr, g, st, fun f => by simp only [List.map, List.sum_cons, List.sum_nil] <;> omega, fun hk => by first | (simp only [IsH, List.map, List.forall_mem_cons, List.not_mem_nil, false_imp_iff, implies_true, and_true] at hk ⊢; omega) | (simp [IsH] at hk ⊢ <;> omega)⟩
  | false =>
    cases q1 : tupLt (T a5) (T a2) with
    | true =>
      obtain ⟨r, s', hr, rfl, g, st⟩ := run_mix (fs := [0]) (R := fun r s' => r = .ok (.ret (.ref a0)) ∧ s'.heap.get? h = some (lsO [a5, a1, a2, a3, a4] (ep + 1)) ∧ Step s s' [h]) (isM w) (skip_ok _ w) D0 ((List.cons.inj ((List.cons.inj ((List.cons.inj ((List.cons.inj ((List.cons.inj ((List.cons.inj ((List.cons.inj (run_pop6 w X p h ep ti T a0 a1 a2 a3 a4 a5 _ _)).2)).2)).2)).2)).2)).2)).1)
        (okr_tlt false (H.tup a1 (by simp)) (H.tup a2 (by simp)) q0 rfl fun al1 tk1 => okr_tlt true (H.tup a5 (by simp)) (H.tup a2 (by simp)) q1 rfl fun al2 tk2 => fun s' hn hc => ⟨rfl, hc.1, hn.step⟩)
      have z0 := H.lt (a := a1) (b := a2) (by simp) (by simp) q0
      have z1 := H.lt (a := a5) (b := a2) (by simp) (by simp) q1
      simp only [decide_eq_true_eq, decide_eq_false_iff_not] at z0 z1
      exact ⟨_, s', hr, g, st, fun f => by simp only [List.map, List.sum_cons, List.sum_nil] <;> omega, fun hk => by first | (simp only [IsH, List.map, List.forall_mem_cons, List.not_mem_nil, false_imp_iff, implies_true, and_true] at hk ⊢; omega) | (simp [IsH] at hk ⊢ <;> omega)⟩
    | false =>
      obtain ⟨r, s', hr, rfl, g, st⟩ := run_mix (fs := [0]) (R := fun r s' => r = .ok (.ret (.ref a0)) ∧ s'.heap.get? h = some (lsO [a2, a1, a5, a3, a4] (ep + 1)) ∧ Step s s' [h]) (isM w) (skip_ok _ w) D0 ((List.cons.inj ((List.cons.inj ((List.cons.inj ((List.cons.inj ((List.cons.inj ((List.cons.inj ((List.cons.inj ((List.cons.inj (run_pop6 w X p h ep ti T a0 a1 a2 a3 a4 a5 _ _)).2)).2)).2)).2)).2)).2)).2)).1)
        (okr_tlt false (H.tup a1 (by simp)) (H.tup a2 (by simp)) q0 rfl fun al1 tk1 => okr_tlt false (H.tup a5 (by simp)) (H.tup a2 (by simp)) q1 rfl fun al2 tk2 => fun s' hn hc => ⟨rfl, hc.1, hn.step⟩)
      have z0 := H.lt (a := a1) (b := a2) (by simp) (by simp) q0
      have z1 := H.lt (a := a5) (b := a2) (by simp) (by simp) q1
      simp only [decide_eq_true_eq, decide_eq_false_iff_not] at z0 z1
      exact ⟨_, s', hr, g, st, fun f => by simp only [List.map, List.sum_cons, List.sum_nil] <;> omega, fun hk => by first | (simp only [IsH, List.map, List.forall_mem_cons, List.not_mem_nil, false_imp_iff, implies_true, and_true] at hk ⊢; omega) | (simp [IsH] at hk ⊢ <;> omega)⟩
theorem push_0 {w : World} {X : CxW} {p : Pos} {s : Shared} {h ep ti : Nat} {T : Nat → Tup} {a0 : Nat} (H : HeapInP w s h T [] a0 ep) :
    ∃ as' s', Returns (model prog w) (X.ctx (pushC h a0)) p s (.ok (.ret .none)) s' ∧ s'.heap.get? h = some (lsO as' (ep + 1)) ∧ Step s s' [h] ∧ (∀ f : Nat → Nat, (as'.map f).sum = f a0 + ([].map f).sum) ∧ (IsH ([].map fun a => tkey (T a)) → IsH (as'.map fun a => tkey (T a))) := by
  have D0 := H.rep
  obtain ⟨r, s', hr, rfl, g, st⟩ := run_mix (fs := [0]) (R := fun r s' => r = .ok (.ret .none) ∧ s'.heap.get? h = some (lsO [a0] (ep + 1)) ∧ Step s s' [h]) (isM w) (skip_ok _ w) D0 ((List.cons.inj (run_push0 w X p h ep ti T a0 _ _)).1)
    (fun s' hn hc => ⟨rfl, hc.1, hn.step⟩)
  exact ⟨_, s', hr, g, st, fun f => by simp only [List.map, List.sum_cons, List.sum_nil] <;> omega, fun hk => by first | (simp only [IsH, List.map] at hk ⊢; omega) | (simp [IsH] at hk ⊢ <;> omega) | simp [IsH]⟩
theorem push_1 {w : World} {X : CxW} {p : Pos} {s : Shared} {h ep ti : Nat} {T : Nat → Tup} {a0 : Nat} {a1 : Nat} (H : HeapInP w s h T [a0] a1 ep) :
    ∃ as' s', Returns (model prog w) (X.ctx (pushC h a1)) p s (.ok (.ret .none)) s' ∧ s'.heap.get? h = some (lsO as' (ep + 1)) ∧ Step s s' [h] ∧ (∀ f : Nat → Nat, (as'.map f).sum = f a1 + ([a0].map f).sum) ∧ (IsH ([a0].map fun a => tkey (T a)) → IsH (as'.map fun a => tkey (T a))) := by
  have D0 := H.rep
  cases q0 : tupLt (T a1) (T a0) with
  | true =>
    obtain ⟨r, s', hr, rfl, g, st⟩ := run_mix (fs := [0]) (R := fun r s' => r = .ok (.ret .none) ∧ s'.heap.get? h = some (lsO [a1, a0] (ep + 1)) ∧ Step s s' [h]) (isM w) (skip_ok _ w) D0 ((List.cons.inj (run_push1 w X p h ep ti T a0 a1 _ _)).1)
      (okr_tlt true (H.tup a1 (by simp)) (H.tup a0 (by simp)) q0 rfl fun al1 tk1 => fun s' hn hc => ⟨rfl, hc.1, hn.step⟩)
    have z0 := H.lt (a := a1) (b := a0) (by simp) (by simp) q0
    simp only [decide_eq_true_eq, decide_eq_false_iff_not] at z0
    exact ⟨_, s', hr, g, st, fun f => by simp only [List.map, List.sum_cons, List.sum_nil] <;> omega, fun hk => by first | (simp only [IsH, List.map] at hk ⊢; omega) | (simp [IsH] at hk ⊢ <;> omega) | simp [IsH]⟩
  | false =>
    obtain ⟨r, s', hr, rfl, g, st⟩ := run_mix (fs := [0]) (R := fun r s' => r = .ok (.ret .none) ∧ s'.heap.get? h = some (lsO [a0, a1] (ep + 1)) ∧ Step s s' [h]) (isM w) (skip_ok _ w) D0 ((List.cons.inj ((List.cons.inj (run_push1 w X p h ep ti T a0 a1 _ _)).2)).1)
      (okr_tlt false (H.tup a1 (by simp)) (H.tup a0 (by simp)) q0 rfl fun al1 tk1 => fun s' hn hc => ⟨rfl, hc.1, hn.step⟩)
    have z0 := H.lt (a := a1) (b := a0) (by simp) (by simp) q0
    simp only [decide_eq_true_eq, decide_eq_false_iff_not] at z0
    exact ⟨_, s', hr, g, st, fun f => by simp only [List.map, List.sum_cons, List.sum_nil] <;> omega, fun hk => by first | (simp only [IsH, List.map] at hk ⊢; omega) | (simp [IsH] at hk ⊢ <;> omega) | simp [IsH]⟩
theorem push_2 {w : World} {X : CxW} {p : Pos} {s : Shared} {h ep ti : Nat} {T : Nat → Tup} {a0 : Nat} {a1 : Nat} {a2 : Nat} (H : HeapInP w s h T [a0, a1] a2 ep) :
    ∃ as' s', Returns (model prog w) (X.ctx (pushC h a2)) p s (.ok (.ret .none)) s' ∧ s'.heap.get? h = some (lsO as' (ep + 1)) ∧ Step s s' [h] ∧ (∀ f : Nat → Nat, (as'.map f).sum = f a2 + ([a0, a1].map f).sum) ∧ (IsH ([a0, a1].map fun a => tkey (T a)) → IsH (as'.map fun a => tkey (T a))) := by
  have D0 := H.rep
  cases q0 : tupLt (T a2) (T a0) with
  | true =>
    obtain ⟨r, s', hr, rfl, g, st⟩ := run_mix (fs := [0]) (R := fun r s' => r = .ok (.ret .none) ∧ s'.heap.get? h = some (lsO [a2, a1, a0] (ep + 1)) ∧ Step s s' [h]) (isM w) (skip_ok _ w) D0 ((List.cons.inj (run_push2 w X p h ep ti T a0 a1 a2 _ _)).1)
      (okr_tlt true (H.tup a2 (by simp)) (H.tup a0 (by simp)) q0 rfl fun al1 tk1 => fun s' hn hc => ⟨rfl, hc.1, hn.step⟩)
    have z0 := H.lt (a := a2) (b := a0) (by simp) (by simp) q0
    simp only [decide_eq_true_eq, decide_eq_false_iff_not] at z0
    exact ⟨_, s', hr, g, st, fun f => by simp only [List.map, List.sum_cons, List.sum_nil] <;> omega, fun hk => by first | (simp only [IsH, List.map] at hk ⊢; omega) | (simp [IsH] at hk ⊢ <;> omega) | simp [IsH]⟩
  | false =>
    obtain ⟨r, s', hr, rfl, g, st⟩ := run_mix (fs := [0]) (R := fun r s' => r = .ok (.ret .none) ∧ s'.heap.get? h = some (lsO [a0, a1, a2] (ep + 1)) ∧ Step s s' [h]) (isM w) (skip_ok _ w) D0 ((List.cons.inj ((List.cons.inj (run_push2 w X p h ep ti T a0 a1 a2 _ _)).2)).1)
      (okr_tlt false (H.tup a2 (by simp)) (H.tup a0 (by simp)) q0 rfl fun al1 tk1 => fun s' hn hc => ⟨rfl, hc.1, hn.step⟩)
    have z0 := H.lt (a := a2) (b := a0) (by simp) (by simp) q0
    simp only [decide_eq_true_eq, decide_eq_false_iff_not] at z0
    exact ⟨_, s', hr, g, st, fun f => by simp only [List.map, List.sum_cons, List.sum_nil] <;> omega, fun hk => by first | (simp only [IsH, List.map] at hk ⊢; omega) | (simp [IsH] at hk ⊢ <;> omega) | simp [IsH]⟩
theorem push_3 {w : World} {X : CxW} {p : Pos} {s : Shared} {h ep ti : Nat} {T : Nat → Tup} {a0 : Nat} {a1 : Nat} {a2 : Nat} {a3 : Nat} (H : HeapInP w s h T [a0, a1, a2] a3 ep) :
    ∃ as' s', Returns (model prog w) (X.ctx (pushC h a3)) p s (.ok (.ret .none)) s' ∧ s'.heap.get? h = some (lsO as' (ep + 1)) ∧ Step s s' [h] ∧ (∀ f : Nat → Nat, (as'.map f).sum = f a3 + ([a0, a1, a2].map f).sum) ∧ (IsH ([a0, a1, a2].map fun a => tkey (T a)) → IsH (as'.map fun a => tkey (T a))) := by
  have D0 := H.rep
  cases q0 : tupLt (T a3) (T a1) with
  | true =>
    cases q1 : tupLt (T a3) (T a0) with
    | true =>
      obtain ⟨r, s', hr, rfl, g, st⟩ := run_mix (fs := [0]) (R := fun r s' => r = .ok (.ret .none) ∧ s'.heap.get? h = some (lsO [a3, a0, a2, a1] (ep + 1)) ∧ Step s s' [h]) (isM w) (skip_ok _ w) D0 ((List.cons.inj (run_push3 w X p h ep ti T a0 a1 a2 a3 _ _)).1)
        (okr_tlt true (H.tup a3 (by simp)) (H.tup a1 (by simp)) q0 rfl fun al1 tk1 => okr_tlt true (H.tup a3 (by simp)) (H.tup a0 (by simp)) q1 rfl fun al2 tk2 => fun s' hn hc => ⟨rfl, hc.1, hn.step⟩)
      have z0 := H.lt (a := a3) (b := a1) (by simp) (by simp) q0
      have z1 := H.lt (a := a3) (b := a0) (by simp) (by simp) q1
      simp only [decide_eq_true_eq, decide_eq_false_iff_not] at z0 z1
      exact ⟨_, s', hr, g, st, fun f => by simp only [List.map, List.sum_cons, List.sum_nil] <;> omega, fun hk => by first | (simp only [IsH, List.map] at hk ⊢; omega) | (simp [IsH] at hk ⊢ <;> omega) | simp [IsH]⟩
    | false =>
      obtain ⟨r, s', hr, rfl, g, st⟩ := run_mix (fs := [0]) (R := fun r s' => r = .ok (.ret .none) ∧ s'.heap.get? h = some (lsO [a0, a3, a2, a1] (ep + 1)) ∧ Step s s' [h]) (isM w) (skip_ok _ w) D0 ((List.cons.inj ((List.cons.inj (run_push3 w X p h ep ti T a0 a1 a2 a3 _ _)).2)).1)
        (okr_tlt true (H.tup a3 (by simp)) (H.tup a1 (by simp)) q0 rfl fun al1 tk1 => okr_tlt false (H.tup a3 (by simp)) (H.tup a0 (by simp)) q1 rfl fun al2 tk2 => fun s' hn hc => ⟨rfl, hc.1, hn.step⟩)
      have z0 := H.lt (a := a3) (b := a1) (by simp) (by simp) q0
      have z1 := H.lt (a := a3) (b := a0) (by simp) (by simp) q1
      simp only [decide_eq_true_eq, decide_eq_false_iff_not] at z0 z1
      exact ⟨_, s', hr, g, st, fun f => by simp only [List.map, List.sum_cons, List.sum_nil] <;> omega, fun hk => by first | (simp only [IsH, List.map] at hk ⊢; omega) | (simp [IsH] at hk ⊢ <;> omega) | simp [IsH]⟩
  | false =>
    obtain ⟨r, s', hr, rfl, g, st⟩ := run_mix (fs := [0]) (R := fun r s' => r = .ok (.ret .none) ∧ s'.heap.get? h = some (lsO [a0, a1, a2, a3] (ep + 1)) ∧ Step s s' [h]) (isM w) (skip_ok _ w) D0 ((List.cons.inj ((List.cons.inj ((List.cons.inj (run_push3 w X p h ep ti T a0 a1 a2 a3 _ _)).2)).2)).1)
      (okr_tlt false (H.tup a3 (by simp)) (H.tup a1 (by simp)) q0 rfl fun al1 tk1 => fun s' hn hc => ⟨rfl, hc.1, hn.step⟩)
    have z0 := H.lt (a := a3) (b := a1) (by simp) (by simp) q0
    simp only [decide_eq_true_eq, decide_eq_false_iff_not] at z0
    exact ⟨_, s', hr, g, st, fun f => by simp only [List.map, List.sum_cons, List.sum_nil] <;> omega, fun hk => by first | (simp only [IsH, List.map] at hk ⊢; omega) | (simp [IsH] at hk ⊢ <;> omega) | simp [IsH]⟩
theorem push_4 {w : World} {X : CxW} {p : Pos} {s : Shared} {h ep ti : Nat} {T : Nat → Tup} {a0 : Nat} {a1 : Nat} {a2 : Nat} {a3 : Nat} {a4 : Nat} (H : HeapInP w s h T [a0, a1, a2, a3] a4 ep) :
    ∃ as' s', Returns (model prog w) (X.ctx (pushC h a4)) p s (.ok (.ret .none)) s' ∧ s'.heap.get? h = some (lsO as' (ep + 1)) ∧ Step s s' [h] ∧ (∀ f : Nat → Nat, (as'.map f).sum = f a4 + ([a0, a1, a2, a3].map f).sum) ∧ (IsH ([a0, a1, a2, a3].map fun a => tkey (T a)) → IsH (as'.map fun a => tkey (T a))) := by
  have D0 := H.rep
  cases q0 : tupLt (T a4) (T a1) with
  | true =>
    cases q1 : tupLt (T a4) (T a0) with
    | true =>
      obtain ⟨r, s', hr, rfl, g, st⟩ := run_mix (fs := [0]) (R := fun r s' => r = .ok (.ret .none) ∧ s'.heap.get? h = some (lsO [a4, a0, a2, a3, a1] (ep + 1)) ∧ Step s s' [h]) (isM w) (skip_ok _ w) D0 ((List.cons.inj (run_push4 w X p h ep ti T a0 a1 a2 a3 a4 _ _)).1)
        (okr_tlt true (H.tup a4 (by simp)) (H.tup a1 (by simp)) q0 rfl fun al1 tk1 => okr_tlt true (H.tup a4 (by simp)) (H.tup a0 (by simp)) q1 rfl fun al2 tk2 => fun s' hn hc => ⟨rfl, hc.1, hn.step⟩)
      have z0 := H.lt (a := a4) (b := a1) (by simp) (by simp) q0
      have z1 := H.lt (a := a4) (b := a0) (by simp) (by simp) q1
      simp only [decide_eq_true_eq, decide_eq_false_iff_not] at z0 z1
      exact ⟨_, s', hr, g, st, fun f => by simp only [List.map, List.sum_cons, List.sum_nil] <;> omega, fun hk => by first | (simp only [IsH, List.map] at hk ⊢; omega) | (simp [IsH] at hk ⊢ <;> omega) | simp [IsH]⟩
    | false =>
      obtain ⟨r, s', hr, rfl, g, st⟩ := run_mix (fs := [0]) (R := fun r s' => r = .ok (.ret .none) ∧ s'.heap.get? h = some (lsO [a0, a4, a2, a3, a1] (ep + 1)) ∧ Step s s' [h]) (isM w) (skip_ok _ w) D0 ((List.cons.inj ((List.cons.inj (run_push4 w X p h ep ti T a0 a1 a2 a3 a4 _ _)).2)).1)
        (okr_tlt true (H.tup a4 (by simp)) (H.tup a1 (by simp)) q0 rfl fun al1 tk1 => okr_tlt false (H.tup a4 (by simp)) (H.tup a0 (by simp)) q1 rfl fun al2 tk2 => fun s' hn hc => ⟨rfl, hc.1, hn.step⟩)
      have z0 := H.lt (a := a4) (b := a1) (by simp) (by simp) q0
      have z1 := H.lt (a := a4) (b := a0) (by simp) (by simp) q1
      simp only [decide_eq_true_eq, decide_eq_false_iff_not] at z0 z1
      exact ⟨_, s', hr, g, st, fun f => by simp only [List.map, List.sum_cons, List.sum_nil] <;> omega, fun hk => by first | (simp only [IsH, List.map] at hk ⊢; omega) | (simp [IsH] at hk ⊢ <;> omega) | simp [IsH]⟩
  | false =>
    obtain ⟨r, s', hr, rfl, g, st⟩ := run_mix (fs := [0]) (R := fun r s' => r = .ok (.ret .none) ∧ s'.heap.get? h = some (lsO [a0, a1, a2, a3, a4] (ep + 1)) ∧ Step s s' [h]) (isM w) (skip_ok _ w) D0 ((List.cons.inj ((List.cons.inj ((List.cons.inj (run_push4 w X p h ep ti T a0 a1 a2 a3 a4 _ _)).2)).2)).1)
      (okr_tlt false (H.tup a4 (by simp)) (H.tup a1 (by simp)) q0 rfl fun al1 tk1 => fun s' hn hc => ⟨rfl, hc.1, hn.step⟩)
    have z0 := H.lt (a := a4) (b := a1) (by simp) (by simp) q0
    simp only [decide_eq_true_eq, decide_eq_false_iff_not] at z0
    exact ⟨_, s', hr, g, st, fun f => by simp only [List.map, List.sum_cons, List.sum_nil] <;> omega, fun hk => by first | (simp only [IsH, List.map] at hk ⊢; omega) | (simp [IsH] at hk ⊢ <;> omega) | simp [IsH]⟩
theorem push_5 {w : World} {X : CxW} {p : Pos} {s : Shared} {h ep ti : Nat} {T : Nat → Tup} {a0 : Nat} {a1 : Nat} {a2 : Nat} {a3 : Nat} {a4 : Nat} {a5 : Nat} (H : HeapInP w s h T [a0, a1, a2, a3, a4] a5 ep) :
    ∃ as' s', Returns (model prog w) (X.ctx (pushC h a5)) p s (.ok (.ret .none)) s' ∧ s'.heap.get? h = some (lsO as' (ep + 1)) ∧ Step s s' [h] ∧ (∀ f : Nat → Nat, (as'.map f).sum = f a5 + ([a0, a1, a2, a3, a4].map f).sum) ∧ (IsH ([a0, a1, a2, a3, a4].map fun a => tkey (T a)) → IsH (as'.map fun a => tkey (T a))) := by
  have D0 := H.rep
  cases q0 : tupLt (T a5) (T a2) with
  | true =>
    cases q1 : tupLt (T a5) (T a0) with
    | true =>
      obtain ⟨r, s', hr, rfl, g, st⟩ := run_mix (fs := [0]) (R := fun r s' => r = .ok (.ret .none) ∧ s'.heap.get? h = some (lsO [a5, a1, a0, a3, a4, a2] (ep + 1)) ∧ Step s s' [h]) (isM w) (skip_ok _ w) D0 ((List.cons.inj (run_push5 w X p h ep ti T a0 a1 a2 a3 a4 a5 _ _)).1)
        (okr_tlt true (H.tup a5 (by simp)) (H.tup a2 (by simp)) q0 rfl fun al1 tk1 => okr_tlt true (H.tup a5 (by simp)) (H.tup a0 (by simp)) q1 rfl fun al2 tk2 => fun s' hn hc => ⟨rfl, hc.1, hn.step⟩)
      have z0 := H.lt (a := a5) (b := a2) (by simp) (by simp) q0
      have z1 := H.lt (a := a5) (b := a0) (by simp) (by simp) q1
      simp only [decide_eq_true_eq, decide_eq_false_iff_not] at z0 z1
      exact ⟨_, s', hr, g, st, fun f => by simp only [List.map, List.sum_cons, List.sum_nil] <;> omega, fun hk => by first | (simp only [IsH, List.map] at hk ⊢; omega) | (simp [IsH] at hk ⊢ <;> omega) | simp [IsH]⟩
    | false =>
      obtain ⟨r, s', hr, rfl, g, st⟩ := run_mix (fs := [0]) (R := fun r s' => r = .ok (.ret .none) ∧ s'.heap.get? h = some (lsO [a0, a1, a5, a3, a4, a2] (ep + 1)) ∧ Step s s' [h]) (isM w) (skip_ok _ w) D0 ((List.cons.inj ((List.cons.inj (run_push5 w X p h ep ti T a0 a1 a2 a3 a4 a5 _ _)).2)).1)
        (okr_tlt true (H.tup a5 (by simp)) (H.tup a2 (by simp)) q0 rfl fun al1 tk1 => okr_tlt false (H.tup a5 (by simp)) (H.tup a0 (by simp)) q1 rfl fun al2 tk2 => fun s' hn hc => ⟨rfl, hc.1, hn.step⟩)
      have z0 := H.lt (a := a5) (b := a2) (by simp) (by simp) q0
      have z1 := H.lt (a := a5) (b := a0) (by simp) (by simp) q1
      simp only [decide_eq_true_eq, decide_eq_false_iff_not] at z0 z1
      exact ⟨_, s', hr, g, st, fun f => by simp only [List.map, List.sum_cons, List.sum_nil] <;> omega, fun hk => by first | (simp only [IsH, List.map] at hk ⊢; omega) | (simp [IsH] at hk ⊢ <;> omega) | simp [IsH]⟩
  | false =>
    obtain ⟨r, s', hr, rfl, g, st⟩ := run_mix (fs := [0]) (R := fun r s' => r = .ok (.ret .none) ∧ s'.heap.get? h = some (lsO [a0, a1, a2, a3, a4, a5] (ep + 1)) ∧ Step s s' [h]) (isM w) (skip_ok _ w) D0 ((List.cons.inj ((List.cons.inj ((List.cons.inj (run_push5 w X p h ep ti T a0 a1 a2 a3 a4 a5 _ _)).2)).2)).1)
      (okr_tlt false (H.tup a5 (by simp)) (H.tup a2 (by simp)) q0 rfl fun al1 tk1 => fun s' hn hc => ⟨rfl, hc.1, hn.step⟩)
    have z0 := H.lt (a := a5) (b := a2) (by simp) (by simp) q0
    simp only [decide_eq_true_eq, decide_eq_false_iff_not] at z0
    exact ⟨_, s', hr, g, st, fun f => by simp only [List.map, List.sum_cons, List.sum_nil] <;> omega, fun hk => by first | (simp only [IsH, List.map] at hk ⊢; omega) | (simp [IsH] at hk ⊢ <;> omega) | simp [IsH]⟩
theorem up_0 {w : World} {X : CxF} {p : Pos} {s : Shared} {h ep ti : Nat} {T : Nat → Tup} {a0 : Nat} {a1 : Nat} {a2 : Nat} {a3 : Nat} {a4 : Nat} {a5 : Nat} (H : HeapIn w s h T [a0, a1, a2, a3, a4, a5] ep) :
    ∃ as' s', Returns (model prog w) (X.ctx (upC h 0 ti)) p s (.ok (.ret .none)) s' ∧ s'.heap.get? h = some (lsO as' ep) ∧ Step s s' [h] ∧ (∀ f : Nat → Nat, (as'.map f).sum = ([a0, a1, a2, a3, a4, a5].map f).sum) ∧ (IsH1 ([a0, a1, a2, a3, a4, a5].map fun a => tkey (T a)) → IsH (as'.map fun a => tkey (T a))) := by
  have D0 := H.rep
  cases q0 : tupLt (T a1) (T a2) with
  | true =>
    cases q1 : tupLt (T a3) (T a4) with
    | true =>
      cases q2 : tupLt (T a0) (T a3) with
      | true =>
        cases q3 : tupLt (T a0) (T a1) with
        | true =>
          obtain ⟨r, s', hr, rfl, g, st⟩ := run_mix (fs := [0]) (R := fun r s' => r = .ok (.ret .none) ∧ s'.heap.get? h = some (lsO [a0, a1, a2, a3, a4, a5] ep) ∧ Step s s' [h]) (isM w) (skip_ok _ w) D0 ((List.cons.inj (run_up0 w X p h ep ti T a0 a1 a2 a3 a4 a5 _ _)).1)
            (okr_tlt true (H.tup a1 (by simp)) (H.tup a2 (by simp)) q0 rfl fun al1 tk1 => okr_tlt true (H.tup a3 (by simp)) (H.tup a4 (by simp)) q1 rfl fun al2 tk2 => okr_tlt true (H.tup a0 (by simp)) (H.tup a3 (by simp)) q2 rfl fun al3 tk3 => okr_tlt true (H.tup a0 (by simp)) (H.tup a1 (by simp)) q3 rfl fun al4 tk4 => fun s' hn hc => ⟨rfl, hc.1, hn.step⟩)
          have z0 := H.lt (a := a1) (b := a2) (by simp) (by simp) q0
          have z1 := H.lt (a := a3) (b := a4) (by simp) (by simp) q1
          have z2 := H.lt (a := a0) (b := a3) (by simp) (by simp) q2
          have z3 := H.lt (a := a0) (b := a1) (by simp) (by simp) q3
          simp only [decide_eq_true_eq, decide_eq_false_iff_not] at z0 z1 z2 z3
          exact ⟨_, s', hr, g, st, fun f => by simp only [List.map, List.sum_cons, List.sum_nil] <;> omega, fun hk => by simp only [IsH, IsH1, IsH2, List.map] at hk ⊢; omega⟩
        | false =>
          obtain ⟨r, s', hr, rfl, g, st⟩ := run_mix (fs := [0]) (R := fun r s' => r = .ok (.ret .none) ∧ s'.heap.get? h = some (lsO [a1, a0, a2, a3, a4, a5] ep) ∧ Step s s' [h]) (isM w) (skip_ok _ w) D0 ((List.cons.inj ((List.cons.inj (run_up0 w X p h ep ti T a0 a1 a2 a3 a4 a5 _ _)).2)).1)
            (okr_tlt true (H.tup a1 (by simp)) (H.tup a2 (by simp)) q0 rfl fun al1 tk1 => okr_tlt true (H.tup a3 (by simp)) (H.tup a4 (by simp)) q1 rfl fun al2 tk2 => okr_tlt true (H.tup a0 (by simp)) (H.tup a3 (by simp)) q2 rfl fun al3 tk3 => okr_tlt false (H.tup a0 (by simp)) (H.tup a1 (by simp)) q3 rfl fun al4 tk4 => fun s' hn hc => ⟨rfl, hc.1, hn.step⟩)
          have z0 := H.lt (a := a1) (b := a2) (by simp) (by simp) q0
          have z1 := H.lt (a := a3) (b := a4) (by simp) (by simp) q1
          have z2 := H.lt (a := a0) (b := a3) (by simp) (by simp) q2
          have z3 := H.lt (a := a0) (b := a1) (by simp) (by simp) q3
          simp only [decide_eq_true_eq, decide_eq_false_iff_not] at z0 z1 z2 z3
          exact ⟨_, s', hr, g, st, fun f => by simp only [List.map, List.sum_cons, List.sum_nil] <;> omega, fun hk => by simp only [IsH, IsH1, IsH2, List.map] at hk ⊢; omega⟩
      | false =>
        obtain ⟨r, s', hr, rfl, g, st⟩ := run_mix (fs := [0]) (R := fun r s' => r = .ok (.ret .none) ∧ s'.heap.get? h = some (lsO [a1, a3, a2, a0, a4, a5] ep) ∧ Step s s' [h]) (isM w) (skip_ok _ w) D0 ((List.cons.inj ((List.cons.inj ((List.cons.inj (run_up0 w X p h ep ti T a0 a1 a2 a3 a4 a5 _ _)).2)).2)).1)
          (okr_tlt true (H.tup a1 (by simp)) (H.tup a2 (by simp)) q0 rfl fun al1 tk1 => okr_tlt true (H.tup a3 (by simp)) (H.tup a4 (by simp)) q1 rfl fun al2 tk2 => okr_tlt false (H.tup a0 (by simp)) (H.tup a3 (by simp)) q2 rfl fun al3 tk3 => fun s' hn hc => ⟨rfl, hc.1, hn.step⟩)
        have z0 := H.lt (a := a1) (b := a2) (by simp) (by simp) q0
        have z1 := H.lt (a := a3) (b := a4) (by simp) (by simp) q1
        have z2 := H.lt (a := a0) (b := a3) (by simp) (by simp) q2
        simp only [decide_eq_true_eq, decide_eq_false_iff_not] at z0 z1 z2
        exact ⟨_, s', hr, g, st, fun f => by simp only [List.map, List.sum_cons, List.sum_nil] <;> omega, fun hk => by simp only [IsH, IsH1, IsH2, List.map] at hk ⊢; omega⟩
    | false =>
      cases q2 : tupLt (T a0) (T a4) with
      | true =>
        cases q3 : tupLt (T a0) (T a1) with
        | true =>
          obtain ⟨r, s', hr, rfl, g, st⟩ := run_mix (fs := [0]) (R := fun r s' => r = .ok (.ret .none) ∧ s'.heap.get? h = some (lsO [a0, a1, a2, a3, a4, a5] ep) ∧ Step s s' [h]) (isM w) (skip_ok _ w) D0 ((List.cons.inj ((List.cons.inj ((List.cons.inj ((List.cons.inj (run_up0 w X p h ep ti T a0 a1 a2 a3 a4 a5 _ _)).2)).2)).2)).1)
            (okr_tlt true (H.tup a1 (by simp)) (H.tup a2 (by simp)) q0 rfl fun al1 tk1 => okr_tlt false (H.tup a3 (by simp)) (H.tup a4 (by simp)) q1 rfl fun al2 tk2 => okr_tlt true (H.tup a0 (by simp)) (H.tup a4 (by simp)) q2 rfl fun al3 tk3 => okr_tlt true (H.tup a0 (by simp)) (H.tup a1 (by simp)) q3 rfl fun al4 tk4 => fun s' hn hc => ⟨rfl, hc.1, hn.step⟩)
          have z0 := H.lt (a := a1) (b := a2) (by simp) (by simp) q0
          have z1 := H.lt (a := a3) (b := a4) (by simp) (by simp) q1
          have z2 := H.lt (a := a0) (b := a4) (by simp) (by simp) q2
          have z3 := H.lt (a := a0) (b := a1) (by simp) (by simp) q3
          simp only [decide_eq_true_eq, decide_eq_false_iff_not] at z0 z1 z2 z3
          exact ⟨_, s', hr, g, st, fun f => by simp only [List.map, List.sum_cons, List.sum_nil] <;> omega, fun hk => by simp only [IsH, IsH1, IsH2, List.map] at hk ⊢; omega⟩
        | false =>
          obtain ⟨r, s', hr, rfl, g, st⟩ := run_mix (fs := [0]) (R := fun r s' => r = .ok (.ret .none) ∧ s'.heap.get? h = some (lsO [a1, a0, a2, a3, a4, a5] ep) ∧ Step s s' [h]) (isM w) (skip_ok _ w) D0 ((List.cons.inj ((List.cons.inj ((List.cons.inj ((List.cons.inj ((List.cons.inj (run_up0 w X p h ep ti T a0 a1 a2 a3 a4 a5 _ _)).2)).2)).2)).2)).1)
            (okr_tlt true (H.tup a1 (by simp)) (H.tup a2 (by simp)) q0 rfl fun al1 tk1 => okr_tlt false (H.tup a3 (by simp)) (H.tup a4 (by simp)) q1 rfl fun al2 tk2 => okr_tlt true (H.tup a0 (by simp)) (H.tup a4 (by simp)) q2 rfl fun al3 tk3 => okr_tlt false (H.tup a0 (by simp)) (H.tup a1 (by simp)) q3 rfl fun al4 tk4 => fun s' hn hc => ⟨rfl, hc.1, hn.step⟩)
          have z0 := H.lt (a := a1) (b := a2) (by simp) (by simp) q0
          have z1 := H.lt (a := a3) (b := a4) (by simp) (by simp) q1
          have z2 := H.lt (a := a0) (b := a4) (by simp) (by simp) q2
          have z3 := H.lt (a := a0) (b := a1) (by simp) (by simp) q3
          simp only [decide_eq_true_eq, decide_eq_false_iff_not] at z0 z1 z2 z3
          exact ⟨_, s', hr, g, st, fun f => by simp only [List.map, List.sum_cons, List.sum_nil] <;> omega, fun hk => by simp only [IsH, IsH1, IsH2, List.map] at hk ⊢; omega⟩
      | false =>
        obtain ⟨r, s', hr, rfl, g, st⟩ := run_mix (fs := [0]) (R := fun r s' => r = .ok (.ret .none) ∧ s'.heap.get? h = some (lsO [a1, a4, a2, a3, a0, a5] ep) ∧ Step s s' [h]) (isM w) (skip_ok _ w) D0 ((List.cons.inj ((List.cons.inj ((List.cons.inj ((List.cons.inj ((List.cons.inj ((List.cons.inj (run_up0 w X p h ep ti T a0 a1 a2 a3 a4 a5 _ _)).2)).2)).2)).2)).2)).1)
          (okr_tlt true (H.tup a1 (by simp)) (H.tup a2 (by simp)) q0 rfl fun al1 tk1 => okr_tlt false (H.tup a3 (by simp)) (H.tup a4 (by simp)) q1 rfl fun al2 tk2 => okr_tlt false (H.tup a0 (by simp)) (H.tup a4 (by simp)) q2 rfl fun al3 tk3 => fun s' hn hc => ⟨rfl, hc.1, hn.step⟩)
        have z0 := H.lt (a := a1) (b := a2) (by simp) (by simp) q0
        have z1 := H.lt (a := a3) (b := a4) (by simp) (by simp) q1
        have z2 := H.lt (a := a0) (b := a4) (by simp) (by simp) q2
        simp only [decide_eq_true_eq, decide_eq_false_iff_not] at z0 z1 z2
        exact ⟨_, s', hr, g, st, fun f => by simp only [List.map, List.sum_cons, List.sum_nil] <;> omega, fun hk => by simp only [IsH, IsH1, IsH2, List.map] at hk ⊢; omega⟩
  | false =>
    cases q1 : tupLt (T a0) (T a5) with
    | true =>
      cases q2 : tupLt (T a0) (T a2) with
      | true =>
        obtain ⟨r, s', hr, rfl, g, st⟩ := run_mix (fs := [0]) (R := fun r s' => r = .ok (.ret .none) ∧ s'.heap.get? h = some (lsO [a0, a1, a2, a3, a4, a5] ep) ∧ Step s s' [h]) (isM w) (skip_ok _ w) D0 ((List.cons.inj ((List.cons.inj ((List.cons.inj ((List.cons.inj ((List.cons.inj ((List.cons.inj ((List.cons.inj (run_up0 w X p h ep ti T a0 a1 a2 a3 a4 a5 _ _)).2)).2)).2)).2)).2)).2)).1)
          (okr_tlt false (H.tup a1 (by simp)) (H.tup a2 (by simp)) q0 rfl fun al1 tk1 => okr_tlt true (H.tup a0 (by simp)) (H.tup a5 (by simp)) q1 rfl fun al2 tk2 => okr_tlt true (H.tup a0 (by simp)) (H.tup a2 (by simp)) q2 rfl fun al3 tk3 => fun s' hn hc => ⟨rfl, hc.1, hn.step⟩)
        have z0 := H.lt (a := a1) (b := a2) (by simp) (by simp) q0
        have z1 := H.lt (a := a0) (b := a5) (by simp) (by simp) q1
        have z2 := H.lt (a := a0) (b := a2) (by simp) (by simp) q2
        simp only [decide_eq_true_eq, decide_eq_false_iff_not] at z0 z1 z2
        exact ⟨_, s', hr, g, st, fun f => by simp only [List.map, List.sum_cons, List.sum_nil] <;> omega, fun hk => by simp only [IsH, IsH1, IsH2, List.map] at hk ⊢; omega⟩
      | false =>
        obtain ⟨r, s', hr, rfl, g, st⟩ := run_mix (fs := [0]) (R := fun r s' => r = .ok (.ret .none) ∧ s'.heap.get? h = some (lsO [a2, a1, a0, a3, a4, a5] ep) ∧ Step s s' [h]) (isM w) (skip_ok _ w) D0 ((List.cons.inj ((List.cons.inj ((List.cons.inj ((List.cons.inj ((List.cons.inj ((List.cons.inj ((List.cons.inj ((List.cons.inj (run_up0 w X p h ep ti T a0 a1 a2 a3 a4 a5 _ _)).2)).2)).2)).2)).2)).2)).2)).1)
          (okr_tlt false (H.tup a1 (by simp)) (H.tup a2 (by simp)) q0 rfl fun al1 tk1 => okr_tlt true (H.tup a0 (by simp)) (H.tup a5 (by simp)) q1 rfl fun al2 tk2 => okr_tlt false (H.tup a0 (by simp)) (H.tup a2 (by simp)) q2 rfl fun al3 tk3 => fun s' hn hc => ⟨rfl, hc.1, hn.step⟩)
        have z0 := H.lt (a := a1) (b := a2) (by simp) (by simp) q0
        have z1 := H.lt (a := a0) (b := a5) (by simp) (by simp) q1
        have z2 := H.lt (a := a0) (b := a2) (by simp) (by simp) q2
        simp only [decide_eq_true_eq, decide_eq_false_iff_not] at z0 z1 z2
        exact ⟨_, s', hr, g, st, fun f => by simp only [List.map, List.sum_cons, List.sum_nil] <;> omega, fun hk => by simp only [IsH, IsH1, IsH2, List.map] at hk ⊢; omega⟩
    | false =>
      obtain ⟨r, s', hr, rfl, g, st⟩ := run_mix (fs := [0]) (R := fun r s' => r = .ok (.ret .none) ∧ s'.heap.get? h = some (lsO [a2, a1, a5, a3, a4, a0] ep) ∧ Step s s' [h]) (isM w) (skip_ok _ w) D0 ((List.cons.inj ((List.cons.inj ((List.cons.inj ((List.cons.inj ((List.cons.inj ((List.cons.inj ((List.cons.inj ((List.cons.inj ((List.cons.inj (run_up0 w X p h ep ti T a0 a1 a2 a3 a4 a5 _ _)).2)).2)).2)).2)).2)).2)).2)).2)).1)
        (okr_tlt false (H.tup a1 (by simp)) (H.tup a2 (by simp)) q0 rfl fun al1 tk1 => okr_tlt false (H.tup a0 (by simp)) (H.tup a5 (by simp)) q1 rfl fun al2 tk2 => fun s' hn hc => ⟨rfl, hc.1, hn.step⟩)
      have z0 := H.lt (a := a1) (b := a2) (by simp) (by simp) q0
      have z1 := H.lt (a := a0) (b := a5) (by simp) (by simp) q1
      simp only [decide_eq_true_eq, decide_eq_false_iff_not] at z0 z1
      exact ⟨_, s', hr, g, st, fun f => by simp only [List.map, List.sum_cons, List.sum_nil] <;> omega, fun hk => by simp only [IsH, IsH1, IsH2, List.map] at hk ⊢; omega⟩
theorem up_1 {w : World} {X : CxF} {p : Pos} {s : Shared} {h ep ti : Nat} {T : Nat → Tup} {a0 : Nat} {a1 : Nat} {a2 : Nat} {a3 : Nat} {a4 : Nat} {a5 : Nat} (H : HeapIn w s h T [a0, a1, a2, a3, a4, a5] ep) :
    ∃ as' s', Returns (model prog w) (X.ctx (upC h 1 ti)) p s (.ok (.ret .none)) s' ∧ s'.heap.get? h = some (lsO as' ep) ∧ Step s s' [h] ∧ (∀ f : Nat → Nat, (as'.map f).sum = ([a0, a1, a2, a3, a4, a5].map f).sum) ∧ (IsH2 ([a0, a1, a2, a3, a4, a5].map fun a => tkey (T a)) → IsH1 (as'.map fun a => tkey (T a))) := by
  have D0 := H.rep
  cases q0 : tupLt (T a3) (T a4) with
  | true =>
    cases q1 : tupLt (T a1) (T a3) with
    | true =>
      obtain ⟨r, s', hr, rfl, g, st⟩ := run_mix (fs := [0]) (R := fun r s' => r = .ok (.ret .none) ∧ s'.heap.get? h = some (lsO [a0, a1, a2, a3, a4, a5] ep) ∧ Step s s' [h]) (isM w) (skip_ok _ w) D0 ((List.cons.inj (run_up1 w X p h ep ti T a0 a1 a2 a3 a4 a5 _ _)).1)
        (okr_tlt true (H.tup a3 (by simp)) (H.tup a4 (by simp)) q0 rfl fun al1 tk1 => okr_tlt true (H.tup a1 (by simp)) (H.tup a3 (by simp)) q1 rfl fun al2 tk2 => fun s' hn hc => ⟨rfl, hc.1, hn.step⟩)
      have z0 := H.lt (a := a3) (b := a4) (by simp) (by simp) q0
      have z1 := H.lt (a := a1) (b := a3) (by simp) (by simp) q1
      simp only [decide_eq_true_eq, decide_eq_false_iff_not] at z0 z1
      exact ⟨_, s', hr, g, st, fun f => by simp only [List.map, List.sum_cons, List.sum_nil] <;> omega, fun hk => by simp only [IsH, IsH1, IsH2, List.map] at hk ⊢; omega⟩
    | false =>
      obtain ⟨r, s', hr, rfl, g, st⟩ := run_mix (fs := [0]) (R := fun r s' => r = .ok (.ret .none) ∧ s'.heap.get? h = some (lsO [a0, a3, a2, a1, a4, a5] ep) ∧ Step s s' [h]) (isM w) (skip_ok _ w) D0 ((List.cons.inj ((List.cons.inj (run_up1 w X p h ep ti T a0 a1 a2 a3 a4 a5 _ _)).2)).1)
        (okr_tlt true (H.tup a3 (by simp)) (H.tup a4 (by simp)) q0 rfl fun al1 tk1 => okr_tlt false (H.tup a1 (by simp)) (H.tup a3 (by simp)) q1 rfl fun al2 tk2 => fun s' hn hc => ⟨rfl, hc.1, hn.step⟩)
      have z0 := H.lt (a := a3) (b := a4) (by simp) (by simp) q0
      have z1 := H.lt (a := a1) (b := a3) (by simp) (by simp) q1
      simp only [decide_eq_true_eq, decide_eq_false_iff_not] at z0 z1
      exact ⟨_, s', hr, g, st, fun f => by simp only [List.map, List.sum_cons, List.sum_nil] <;> omega, fun hk => by simp only [IsH, IsH1, IsH2, List.map] at hk ⊢; omega⟩
  | false =>
    cases q1 : tupLt (T a1) (T a4) with
    | true =>
      obtain ⟨r, s', hr, rfl, g, st⟩ := run_mix (fs := [0]) (R := fun r s' => r = .ok (.ret .none) ∧ s'.heap.get? h = some (lsO [a0, a1, a2, a3, a4, a5] ep) ∧ Step s s' [h]) (isM w) (skip_ok _ w) D0 ((List.cons.inj ((List.cons.inj ((List.cons.inj (run_up1 w X p h ep ti T a0 a1 a2 a3 a4 a5 _ _)).2)).2)).1)
        (okr_tlt false (H.tup a3 (by simp)) (H.tup a4 (by simp)) q0 rfl fun al1 tk1 => okr_tlt true (H.tup a1 (by simp)) (H.tup a4 (by simp)) q1 rfl fun al2 tk2 => fun s' hn hc => ⟨rfl, hc.1, hn.step⟩)
      have z0 := H.lt (a := a3) (b := a4) (by simp) (by simp) q0
      have z1 := H.lt (a := a1) (b := a4) (by simp) (by simp) q1
      simp only [decide_eq_true_eq, decide_eq_false_iff_not] at z0 z1
      exact ⟨_, s', hr, g, st, fun f => by simp only [List.map, List.sum_cons, List.sum_nil] <;> omega, fun hk => by simp only [IsH, IsH1, IsH2, List.map] at hk ⊢; omega⟩
    | false =>
      obtain ⟨r, s', hr, rfl, g, st⟩ := run_mix (fs := [0]) (R := fun r s' => r = .ok (.ret .none) ∧ s'.heap.get? h = some (lsO [a0, a4, a2, a3, a1, a5] ep) ∧ Step s s' [h]) (isM w) (skip_ok _ w) D0 ((List.cons.inj ((List.cons.inj ((List.cons.inj ((List.cons.inj (run_up1 w X p h ep ti T a0 a1 a2 a3 a4 a5 _ _)).2)).2)).2)).1)
        (okr_tlt false (H.tup a3 (by simp)) (H.tup a4 (by simp)) q0 rfl fun al1 tk1 => okr_tlt false (H.tup a1 (by simp)) (H.tup a4 (by simp)) q1 rfl fun al2 tk2 => fun s' hn hc => ⟨rfl, hc.1, hn.step⟩)
      have z0 := H.lt (a := a3) (b := a4) (by simp) (by simp) q0
      have z1 := H.lt (a := a1) (b := a4) (by simp) (by simp) q1
      simp only [decide_eq_true_eq, decide_eq_false_iff_not] at z0 z1
      exact ⟨_, s', hr, g, st, fun f => by simp only [List.map, List.sum_cons, List.sum_nil] <;> omega, fun hk => by simp only [IsH, IsH1, IsH2, List.map] at hk ⊢; omega⟩
theorem up_2 {w : World} {X : CxF} {p : Pos} {s : Shared} {h ep ti : Nat} {T : Nat → Tup} {a0 : Nat} {a1 : Nat} {a2 : Nat} {a3 : Nat} {a4 : Nat} {a5 : Nat} (H : HeapIn w s h T [a0, a1, a2, a3, a4, a5] ep) :
    ∃ as' s', Returns (model prog w) (X.ctx (upC h 2 ti)) p s (.ok (.ret .none)) s' ∧ s'.heap.get? h = some (lsO as' ep) ∧ Step s s' [h] ∧ (∀ f : Nat → Nat, (as'.map f).sum = ([a0, a1, a2, a3, a4, a5].map f).sum) ∧ (True → IsH2 (as'.map fun a => tkey (T a))) := by
  have D0 := H.rep
  cases q0 : tupLt (T a2) (T a5) with
  | true =>
    obtain ⟨r, s', hr, rfl, g, st⟩ := run_mix (fs := [0]) (R := fun r s' => r = .ok (.ret .none) ∧ s'.heap.get? h = some (lsO [a0, a1, a2, a3, a4, a5] ep) ∧ Step s s' [h]) (isM w) (skip_ok _ w) D0 ((List.cons.inj (run_up2 w X p h ep ti T a0 a1 a2 a3 a4 a5 _ _)).1)
      (okr_tlt true (H.tup a2 (by simp)) (H.tup a5 (by simp)) q0 rfl fun al1 tk1 => fun s' hn hc => ⟨rfl, hc.1, hn.step⟩)
    have z0 := H.lt (a := a2) (b := a5) (by simp) (by simp) q0
    simp only [decide_eq_true_eq, decide_eq_false_iff_not] at z0
    exact ⟨_, s', hr, g, st, fun f => by simp only [List.map, List.sum_cons, List.sum_nil] <;> omega, fun hk => by simp only [IsH, IsH1, IsH2, List.map] at hk ⊢; omega⟩
  | false =>
    obtain ⟨r, s', hr, rfl, g, st⟩ := run_mix (fs := [0]) (R := fun r s' => r = .ok (.ret .none) ∧ s'.heap.get? h = some (lsO [a0, a1, a5, a3, a4, a2] ep) ∧ Step s s' [h]) (isM w) (skip_ok _ w) D0 ((List.cons.inj ((List.cons.inj (run_up2 w X p h ep ti T a0 a1 a2 a3 a4 a5 _ _)).2)).1)
      (okr_tlt false (H.tup a2 (by simp)) (H.tup a5 (by simp)) q0 rfl fun al1 tk1 => fun s' hn hc => ⟨rfl, hc.1, hn.step⟩)
    have z0 := H.lt (a := a2) (b := a5) (by simp) (by simp) q0
    simp only [decide_eq_true_eq, decide_eq_false_iff_not] at z0
    exact ⟨_, s', hr, g, st, fun f => by simp only [List.map, List.sum_cons, List.sum_nil] <;> omega, fun hk => by simp only [IsH, IsH1, IsH2, List.map] at hk ⊢; omega⟩
end Mine
namespace Mine
open PySem PySem.W PySem.W.X
open Sem (wp finPost)
/-! heappop, heappush, _siftup in one statement each -/
section
variable {w : World} {p : Pos} {s : Shared} {h ep ti : Nat} {T : Nat → Tup}
theorem pop_any {X : CxW} {a : Nat} {rest : List Nat} (H : HeapIn w s h T (a :: rest) ep) (h6 : rest.length ≤ 5) :
    ∃ as' s', Returns (model prog w) (X.ctx (popC h)) p s (.ok (.ret (.ref a))) s' ∧ s'.heap.get? h = some (lsO as' (ep + 1)) ∧ Step s s' [h] ∧ (∀ f : Nat → Nat, f a + (as'.map f).sum = ((a :: rest).map f).sum) ∧ (IsH ((a :: rest).map fun a => tkey (T a)) → IsH (as'.map fun a => tkey (T a)) ∧ ∀ b ∈ a :: rest, tkey (T a) ≤ tkey (T b)) := by
  match rest, h6, H with
  | [], _, H => exact pop_1 (ti := 0) H
  | [a1], _, H => exact pop_2 (ti := 0) H
  | [a1, a2], _, H => exact pop_3 (ti := 0) H
  | [a1, a2, a3], _, H => exact pop_4 (ti := 0) H
  | [a1, a2, a3, a4], _, H => exact pop_5 (ti := 0) H
  | [a1, a2, a3, a4, a5], _, H => exact pop_6 (ti := 0) H
  | _ :: _ :: _ :: _ :: _ :: _ :: _, h6, _ => simp only [List.length_cons] at h6; omega
theorem push_any {X : CxW} {as : List Nat} {an : Nat} (H : HeapInP w s h T as an ep) (h6 : as.length ≤ 5) :
    ∃ as' s', Returns (model prog w) (X.ctx (pushC h an)) p s (.ok (.ret .none)) s' ∧ s'.heap.get? h = some (lsO as' (ep + 1)) ∧ Step s s' [h] ∧ (∀ f : Nat → Nat, (as'.map f).sum = f an + (as.map f).sum) ∧ (IsH (as.map fun a => tkey (T a)) → IsH (as'.map fun a => tkey (T a))) := by
  match as, h6, H with
  | [], _, H => exact push_0 (ti := 0) H
  | [a0], _, H => exact push_1 (ti := 0) H
  | [a0, a1], _, H => exact push_2 (ti := 0) H
  | [a0, a1, a2], _, H => exact push_3 (ti := 0) H
  | [a0, a1, a2, a3], _, H => exact push_4 (ti := 0) H
  | [a0, a1, a2, a3, a4], _, H => exact push_5 (ti := 0) H
  | _ :: _ :: _ :: _ :: _ :: _ :: _, h6, _ => simp only [List.length_cons] at h6; omega
theorem len6 {as : List Nat} (h : as.length = 6) : ∃ a0 a1 a2 a3 a4 a5, as = [a0, a1, a2, a3, a4, a5] := by
  match as, h with
  | [a0, a1, a2, a3, a4, a5], _ => exact ⟨_, _, _, _, _, _, rfl⟩
noncomputable def HpB : Nat → List Int → Prop
  | 2, _ => True
  | 1, l => IsH2 l
  | 0, l => IsH1 l
  | _, _ => False
noncomputable def HpA : Nat → List Int → Prop
  | 2, l => IsH2 l
  | 1, l => IsH1 l
  | 0, l => IsH l
  | _, _ => False
theorem up_any {X : CxF} {as : List Nat} (i : Nat) (hi : i ≤ 2) (H : HeapIn w s h T as ep) (h6 : as.length = 6) :
    ∃ as' s', Returns (model prog w) (X.ctx (upC h i ti)) p s (.ok (.ret .none)) s' ∧ s'.heap.get? h = some (lsO as' ep) ∧ Step s s' [h] ∧ (∀ f : Nat → Nat, (as'.map f).sum = (as.map f).sum) ∧ (HpB i (as.map fun a => tkey (T a)) → HpA i (as'.map fun a => tkey (T a))) := by
  obtain ⟨a0, a1, a2, a3, a4, a5, rfl⟩ := len6 h6
  match i, hi with
  | 0, _ => exact up_0 H
  | 1, _ => exact up_1 H
  | 2, _ => exact up_2 H
end
theorem sum_len {as bs : List Nat} (h : ∀ f : Nat → Nat, (as.map f).sum = (bs.map f).sum) : as.length = bs.length := by
  have e : ∀ l : List Nat, (l.map fun _ => 1).sum = l.length := fun l => by
    induction l with
    | nil => rfl
    | cons a l ih => rw [List.map_cons, List.sum_cons, ih, List.length_cons]; omega
  have := h fun _ => 1
  rwa [e, e] at this
theorem sum_mem {as bs : List Nat} (h : ∀ f : Nat → Nat, (as.map f).sum = (bs.map f).sum) {a : Nat} (ha : a ∈ as) : a ∈ bs := by
  by_cases hb : a ∈ bs
  · exact hb
  · have := h fun x => if x = a then 1 else 0
    have z : (bs.map fun x => if x = a then 1 else 0).sum = 0 := by
      clear this h ha
      induction bs with
      | nil => rfl
      | cons b bs ih =>
        rw [List.map_cons, List.sum_cons, ih (fun q => hb (.tail _ q)), if_neg (fun q => hb (by rw [q]; exact .head _))]
    have y : ∀ l : List Nat, a ∈ l → 0 < (l.map fun x => if x = a then 1 else 0).sum := by
      intro l hl
      induction l with
      | nil => cases hl
      | cons b l ih =>
        rw [List.map_cons, List.sum_cons]
        rcases List.mem_cons.mp hl with q | q
        · rw [if_pos q.symm]; omega
        · have := ih q; omega
    have := y as ha
    omega
end Mine
namespace Mine
open PySem PySem.W PySem.W.X
open Sem (wp finPost)
/-! heapify of six -/
structure CxO where
  e2 : Env
  e3 : Env
  b2 : List Stmt
  b3 : List Stmt
  p2 : Pos
  p3 : Pos
  p4 : Pos
noncomputable def CxO.ctx (X : CxO) (c : Code) : Ctx := ⟨c, none, none, [(.func X.b2 X.e2, X.p2), (.func X.b3 X.e3, X.p3), (.builtin "claim.caller" {}, X.p4)], none⟩
noncomputable def forTg (s : Stmt) : PySem.Expr := match s with
  | .For t _ _ _ _ => t
  | _ => default
noncomputable def forB (s : Stmt) : List Stmt := match s with
  | .For _ _ b _ _ => b
  | _ => []
noncomputable def forO (s : Stmt) : List Stmt := match s with
  | .For _ _ _ o _ => o
  | _ => []
noncomputable def fyX (X : CxO) (f it : Nat) : CxF := { tg := forTg (nthS (fnBody (st 5)) 1), it := .ref it, wb := forB (nthS (fnBody (st 5)) 1), wo := forO (nthS (fnBody (st 5)) 1), we := envF (st 5) "heapify.<locals>." 42 f, e1 := envF (st 5) "heapify.<locals>." 42 f, b1 := fnBody (st 5), e2 := X.e2, b2 := X.b2, e3 := X.e3, b3 := X.b3, p0 := ⟨36, 8, 36, 21⟩, p1 := ⟨35, 13, 35, 36⟩, p2 := X.p2, p3 := X.p3, p4 := X.p4 }
noncomputable def oUp (ep : Nat) : Orc := { ctx := true, sel := [0], r := (fun _ _ _ _ _ => .ok (.ret .none)), upd := (fun _ _ i _ tk => [some (lsO (decN (tk i)) ep)]), di := 1 }
theorem okr_up {w : World} {s₀ : Shared} {R : Result → Shared → Prop} {m i : Nat} {next : (Nat → Nat) → (Nat → Nat) → RLog} {X : CxF} {p0 : Pos} {h ep ti : Nat} {T : Nat → Tup} {as L : List Nat} (j : Nat) (hj : j ≤ 2) (H : HeapIn w s₀ h T as ep) (h6 : as.length = 6) (hL : ∀ f : Nat → Nat, (L.map f).sum = (as.map f).sum) (hm : m ≤ 1000)
    (hb : HpB j (L.map fun a => tkey (T a)))
    (ok : ∀ al tk, (∀ f : Nat → Nat, ((decN (tk i)).map f).sum = (as.map f).sum) → HpA j ((decN (tk i)).map fun a => tkey (T a)) → OkR (VV w) (model prog w) s₀ [h] R (next al tk)) :
    OkR (VV w) (model prog w) s₀ [h] R (.call (.fn 56 [.ref h, .int j ti]) (some (X.ctx (upC h j ti), p0)) m i [some (h, lsO L ep)] (oUp ep) next) := by
  refine okr_gen fun c Γ p e1 e2 e3 s hnow hc => ?_
  obtain ⟨rfl, rfl⟩ := Prod.mk.inj (e3 _ rfl)
  refine viaG fun G hG => ?_
  have H' : HeapIn w s h T L ep := ⟨hnow.top, H.low, hc.1, fun a ha => ⟨hnow.keep a _ (H.tup a (sum_mem hL ha)).1 (H.tup a (sum_mem hL ha)).2, (H.tup a (sum_mem hL ha)).2⟩, fun a ha => H.ok a (sum_mem hL ha)⟩
  obtain ⟨L', s', hr, hg, st, hs, hk⟩ := up_any (X := X) (p := p0) (ti := ti) j hj H' ((sum_len hL).trans h6)
  have t0 : alOf i [encN L'] s'.toks i = encN L' := alOf_at i [encN L'] _ 0 (by simp)
  refine hG ⟨s', [], [encN L'], rfl, rfl, _, _, rfl, rfl, hr, rfl, ?_, st, ⟨rfl, by simpa [oUp] using hm, fun k ob e => (by cases e), fun k hk => (by cases hk), fun k k' hk => (by cases hk)⟩, fun k a ob e => (by cases e), ok _ _ ?_ ?_⟩
  · show s'.heap.get? h = some (lsO (decN (alOf i [encN L'] s'.toks i)) ep) ∧ True
    rw [t0, decN_enc]; exact ⟨hg, trivial⟩
  · rw [t0, decN_enc]; exact fun f => (hs f).trans (hL f)
  · rw [t0, decN_enc]; exact hk hb
noncomputable def trFy : List Nat := [42, 41, 257, 257, 2, 3, 0, 257, 0, 256, 0, 256, 256, 257, 257, 3, 0, 3, 0, 257, 0, 0, 0, 258, 258, 0, 258, 258, 0, 0, 258, 0, 258, 258, 258, 258, 259, 259, 259, 0, 259, 259, 0, 259, 0, 259, 259, 259, 259, 259, 259, 259, 259, 257, 257, 3, 257, 257, 56, 1, 259, 0, 259, 259, 259, 259, 259, 259, 259, 259, 257, 257, 3, 257, 257, 56, 1, 259, 0, 259, 259, 259, 259, 259, 259, 259, 259, 257, 257, 3, 257, 257, 56, 1, 259, 0, 259, 259, 259, 259, 261]
noncomputable def fyC (h : Nat) : Code := .call (.ref 42) ⟨[.ref h], []⟩
noncomputable def eFy (X : CxO) (h ep a0 a1 a2 a3 a4 a5 : Nat) (al0 tk0 : Nat → Nat) : RLog :=
  .call (.fn 56 [.ref h, .int 2 (tk0 8)]) (some ((fyX X (al0 1) (al0 3)).ctx (upC h 2 (tk0 8)), ⟨36, 8, 36, 21⟩)) 4 10 [some (h, lsO [a0, a1, a2, a3, a4, a5] ep)] (oUp ep) fun al1 tk1 =>
  .call (.fn 56 [.ref h, .int 1 (tk1 11)]) (some ((fyX X (al0 1) (al0 3)).ctx (upC h 1 (tk1 11)), ⟨36, 8, 36, 21⟩)) 4 13 [some (h, lsO (decN (tk1 10)) ep)] (oUp ep) fun al2 tk2 =>
  .call (.fn 56 [.ref h, .int 0 (tk2 14)]) (some ((fyX X (al0 1) (al0 3)).ctx (upC h 0 (tk2 14)), ⟨36, 8, 36, 21⟩)) 4 16 [some (h, lsO (decN (tk2 13)) ep)] (oUp ep) fun al3 tk3 =>
  .ret (.ok (.ret .none)) [some (h, lsO (decN (tk3 16)) ep)]
theorem run_fy (w : World) (X : CxO) (p : Pos) (h ep : Nat) (T : Nat → Tup) (a0 a1 a2 a3 a4 a5 : Nat) (al0 tk0 : Nat → Nat) :
    mixA [0] (seg (VV w) 218 trFy [oUp ep, oUp ep, oUp ep] (X.ctx (fyC h)) p [] (denF (X.ctx (fyC h)).code) (mkT [(h, lsO [a0, a1, a2, a3, a4, a5] ep)] [(a0, tupO (T a0)), (a1, tupO (T a1)), (a2, tupO (T a2)), (a3, tupO (T a3)), (a4, tupO (T a4)), (a5, tupO (T a5))]) 1 0 al0 tk0) =
    mixB (seg (VV w) 218 trFy [oUp ep, oUp ep, oUp ep] (X.ctx (fyC h)) p [] (denF (X.ctx (fyC h)).code) (mkT [(h, lsO [a0, a1, a2, a3, a4, a5] ep)] [(a0, tupO (T a0)), (a1, tupO (T a1)), (a2, tupO (T a2)), (a3, tupO (T a3)), (a4, tupO (T a4)), (a5, tupO (T a5))]) 1 0 al0 tk0) (eFy X h ep a0 a1 a2 a3 a4 a5 al0 tk0) := by kernel_rfl
theorem fy_ret {w : World} {X : CxO} {p : Pos} {s : Shared} {h ep : Nat} {T : Nat → Tup} {as : List Nat} (H : HeapIn w s h T as ep) (h6 : as.length = 6) :
    ∃ as' s', Returns (model prog w) (X.ctx (fyC h)) p s (.ok (.ret .none)) s' ∧ s'.heap.get? h = some (lsO as' ep) ∧ Step s s' [h] ∧ (∀ f : Nat → Nat, (as'.map f).sum = (as.map f).sum) ∧ IsH (as'.map fun a => tkey (T a)) := by
  obtain ⟨a0, a1, a2, a3, a4, a5, rfl⟩ := len6 h6
  obtain ⟨r, s', hr, rfl, as', g, st, h1, h2⟩ := run_mix (fs := [0]) (R := fun r s' => r = .ok (.ret .none) ∧ ∃ as', s'.heap.get? h = some (lsO as' ep) ∧ Step s s' [h] ∧ (∀ f : Nat → Nat, (as'.map f).sum = ([a0, a1, a2, a3, a4, a5].map f).sum) ∧ IsH (as'.map fun a => tkey (T a))) (isM w) (skip_ok _ w) H.rep (run_fy w X p h ep T a0 a1 a2 a3 a4 a5 _ _)
    (okr_up 2 (by decide) H rfl (fun f => rfl) (by decide) trivial fun al1 tk1 s1 k1 => okr_up 1 (by decide) H rfl s1 (by decide) k1 fun al2 tk2 s2 k2 => okr_up 0 (by decide) H rfl s2 (by decide) k2 fun al3 tk3 s3 k3 => fun s' hn hc => ⟨rfl, _, hc.1, hn.step, s3, k3⟩)
  exact ⟨as', s', hr, g, st, h1, h2⟩
end Mine
namespace Mine
open PySem PySem.W PySem.W.X
open Sem (wp finPost)
/-! contracts of two ints whose result is told by the call itself -/
noncomputable def ap2 (g : Int → Int → Int) (c : Code) : Int := match c with
  | .call _ a => match a with
    | ⟨as, _⟩ => match as with
      | [.int x _, .int y _] => g x y
      | _ => 0
  | _ => 0
noncomputable def orcI (g : Int → Int → Int) : Orc := { r := (fun c _ i _ tk => .ok (.ret (.int (ap2 g c) (tk i)))), di := 1 }
section
variable {V : SV} {w : World} {s₀ : Shared} {A₀ : List Addr} {R : Result → Shared → Prop} {m i : Nat} {next : (Nat → Nat) → (Nat → Nat) → RLog}
theorem okr_int2 {T : String} {name : Str} {id : String} {B : Builtin} {x y : Int} {t u n : Nat} {g : Int → Int → Int} (slot : Slot T name id) (hT : ∀ s : Shared, s.TypeIs (.int x t) T) (entry : entryFor table id = some B)
    (args : argsOk id ⟨[.int x t, .int y u], []⟩) (gv : Gives (B ⟨[.int x t, .int y u], []⟩) (.int (g x y))) (hn : PySem.code id = n) (hm : Nat.ble m 1000 = true) (ok : ∀ al tk, OkR V (model prog w) s₀ A₀ R (next al tk)) :
    OkR V (model prog w) s₀ A₀ R (.call (.bi n [.int x t, .int y u]) none m i [] (orcI g) next) := by
  refine okr_gen fun c Γ p h1 h2 _ s hn' _ => ?_
  have hc := rc_bi h1 id hn
  subst hc
  refine ⟨{ s with toks := s.toks + 1 }, [], [s.toks], rfl, rfl, _, _, rfl, rfl, ?_, rfl, trivial, Step.toks s 1, ⟨rfl, Nat.le_of_ble_eq_true hm, fun k ob e => (by cases e), fun k hk => (by cases hk), fun k k' hk => (by cases hk)⟩, fun k a ob e => (by cases e), ok _ _⟩
  show Returns _ Γ p s (.ok (.ret (.int (g x y) (alOf i [s.toks] (s.toks + 1) i)))) _
  rw [show alOf i [s.toks] (s.toks + 1) i = s.toks from alOf_at i [s.toks] _ 0 (by simp)]
  exact returns_at h2 fun A => code_gives slot (hT s) entry args gv ⟨rfl, rfl⟩
theorem okr_addI {x y : Int} {t u : Nat} (hm : Nat.ble m 1000 = true) (ok : ∀ al tk, OkR V (model prog w) s₀ A₀ R (next al tk)) :
    OkR V (model prog w) s₀ A₀ R (.call (.bi 116512096292018843154739050 [.int x t, .int y u]) none m i [] (orcI fun x y => x + y) next) :=
  okr_int2 (g := fun x y => x + y) F.slot_int_add (tI x t) F.entry_int_add (F.args_int_add_2 _ _) (AutoIntG4.int___add___int_int_0 x t y u) (by decide +kernel) hm ok
theorem okr_modI {x y : Int} {t u : Nat} (hy : (y == 0) = false) (hm : Nat.ble m 1000 = true) (ok : ∀ al tk, OkR V (model prog w) s₀ A₀ R (next al tk)) :
    OkR V (model prog w) s₀ A₀ R (.call (.bi 116512097088030077292474218 [.int x t, .int y u]) none m i [] (orcI Int.fmod) next) :=
  okr_int2 (g := Int.fmod) F.slot_int_mod (tI x t) F.entry_int_mod (F.args_int_mod_2 _ _) (AutoIntG6.int___mod___int_int_1 x t y u (by rw [hy]; decide)) (by decide +kernel) hm ok
/-- the same, and the addresses to come are new -/
theorem okr_modF {x y : Int} {t u : Nat} (hy : (y == 0) = false) (hm : Nat.ble m 1000 = true) (ok : ∀ al tk, (∀ k, s₀.heap.objs.size ≤ al (m + k)) → OkR V (model prog w) s₀ A₀ R (next al tk)) :
    OkR V (model prog w) s₀ A₀ R (.call (.bi 116512097088030077292474218 [.int x t, .int y u]) none m i [] (orcI Int.fmod) next) := by
  refine okr_gen fun c Γ p h1 h2 _ s hn' _ => ?_
  have hc := rc_bi h1 "int.__mod__" (by decide +kernel)
  subst hc
  refine ⟨{ s with toks := s.toks + 1 }, [], [s.toks], rfl, rfl, _, _, rfl, rfl, ?_, rfl, trivial, Step.toks s 1, ⟨rfl, Nat.le_of_ble_eq_true hm, fun k ob e => (by cases e), fun k hk => (by cases hk), fun k k' hk => (by cases hk)⟩, fun k a ob e => (by cases e), ok _ _ fun k => ?_⟩
  · show Returns _ Γ p s (.ok (.ret (.int (Int.fmod x y) (alOf i [s.toks] (s.toks + 1) i)))) _
    rw [show alOf i [s.toks] (s.toks + 1) i = s.toks from alOf_at i [s.toks] _ 0 (by simp)]
    exact returns_at h2 fun A => code_gives F.slot_int_mod (tI x t s) F.entry_int_mod (F.args_int_mod_2 _ _) (AutoIntG6.int___mod___int_int_1 x t y u (by rw [hy]; decide)) ⟨rfl, rfl⟩
  · have := alOf_end m [] s.heap.objs.size k
    simp only [List.length_nil, Nat.add_zero] at this
    show s₀.heap.objs.size ≤ alOf m [] s.heap.objs.size (m + k)
    rw [this]
    have := hn'.grow
    omega
end
end Mine
namespace Mine
open PySem PySem.W PySem.W.X
open Sem (wp finPost)
/-! the loop of _law_off_a_heap: its contracts -/
noncomputable def offLoop (f : Nat) : Code := whC (st 15) 3 "_law_off_a_heap.<locals>." 127 f
noncomputable def offX (X : CxO) (f : Nat) (p1 : Pos) : CxW := { wt := whT (nthS (fnBody (st 15)) 3), wb := whB (nthS (fnBody (st 15)) 3), wo := whO (nthS (fnBody (st 15)) 3), we := envF (st 15) "_law_off_a_heap.<locals>." 127 f, e2 := X.e2, e3 := X.e3, b2 := X.b2, b3 := X.b3, p1 := p1, p2 := X.p2, p3 := X.p3, p4 := X.p4 }
noncomputable def oPopH (a ep : Nat) : Orc := { ctx := true, sel := [2], r := (fun _ _ _ _ _ => .ok (.ret (.ref a))), upd := (fun _ _ i _ tk => [some (lsO (decN (tk i)) (ep + 1))]), di := 1 }
noncomputable def oPutH (u : Int) : Orc := { ctx := true, sel := [1], r := (fun _ _ i _ tk => .ok (.ret (.int u (tk i)))), upd := (fun _ _ i _ tk => [some (dO (decL (tk (i + 1))) (tk (i + 2)))]), di := 3 }
noncomputable def oPushH (ep : Nat) : Orc := { ctx := true, sel := [2, 7], r := (fun _ _ _ _ _ => .ok (.ret .none)), upd := (fun _ _ i _ tk => [some (lsO (decN (tk i)) (ep + 1))]), di := 1 }
section
variable {w : World} {s₀ : Shared} {A₀ : List Addr} {R : Result → Shared → Prop} {m i : Nat} {next : (Nat → Nat) → (Nat → Nat) → RLog}
theorem okr_popH {X : CxW} {p0 : Pos} {h a ep : Nat} {rest : List Nat} {T : Nat → Tup} (hl : 140 ≤ h) (ht : ∀ b ∈ a :: rest, s₀.heap.get? b = some (tupO (T b)) ∧ b ∉ A₀) (hA : h ∈ A₀) (hok : ∀ b ∈ a :: rest, TupOk (T b)) (h6 : rest.length ≤ 5) (hm : m ≤ 1000) (hH : IsH ((a :: rest).map fun a => tkey (T a)))
    (ok : ∀ al tk, (∀ f : Nat → Nat, f a + ((decN (tk i)).map f).sum = ((a :: rest).map f).sum) → IsH ((decN (tk i)).map fun a => tkey (T a)) → (∀ b ∈ a :: rest, tkey (T a) ≤ tkey (T b)) → OkR (VV w) (model prog w) s₀ A₀ R (next al tk)) :
    OkR (VV w) (model prog w) s₀ A₀ R (.call (.fn 35 [.ref h]) (some (X.ctx (popC h), p0)) m i [some (h, lsO (a :: rest) ep)] (oPopH a ep) next) := by
  refine okr_gen fun c Γ p e1 e2 e3 s hnow hc => ?_
  obtain ⟨rfl, rfl⟩ := Prod.mk.inj (e3 _ rfl)
  refine viaG fun G hG => ?_
  have H' : HeapIn w s h T (a :: rest) ep := ⟨hnow.top, hl, hc.1, fun b hb => ⟨hnow.keep b _ (ht b hb).1 (ht b hb).2, fun q => (ht b hb).2 (by rw [List.mem_singleton.mp q]; exact hA)⟩, hok⟩
  obtain ⟨L', s', hr, hg, st, hs, hk⟩ := pop_any (X := X) (p := p0) H' h6
  have t0 : alOf i [encN L'] s'.toks i = encN L' := alOf_at i [encN L'] _ 0 (by simp)
  refine hG ⟨s', [], [encN L'], rfl, rfl, _, _, rfl, rfl, hr, rfl, ?_, st, ⟨rfl, by simpa [oPopH] using hm, fun k ob e => (by cases e), fun k hk => (by cases hk), fun k k' hk => (by cases hk)⟩, fun k a ob e => (by cases e), ok _ _ ?_ ?_ ?_⟩
  · show s'.heap.get? h = some (lsO (decN (alOf i [encN L'] s'.toks i)) (ep + 1)) ∧ True
    rw [t0, decN_enc]; exact ⟨hg, trivial⟩
  · rw [t0, decN_enc]; exact hs
  · rw [t0, decN_enc]; exact (hk hH).1
  · exact (hk hH).2
theorem okr_putH {X : CxW} {p0 : Pos} {d tc tp ed : Nat} {c pl u : Int} {L : List Ent} (h140 : 140 ≤ d) (hL : Laid1 L) (hz : L.length ≤ 1000) (hc0 : 0 ≤ c) (hc : c < 6) (hu : upF c (dig L pl) = u) (hm : m ≤ 1000)
    (ok : ∀ al tk, PutTo L (decL (tk (i + 1))) pl (newF c (dig L pl)) → OkR (VV w) (model prog w) s₀ A₀ R (next al tk)) :
    OkR (VV w) (model prog w) s₀ A₀ R (.call (.fn 115 [.ref d, .int c tc, .int pl tp]) (some (X.ctx (putC d c tc pl tp), p0)) m i [some (d, dO L ed)] (oPutH u) next) := by
  refine okr_gen fun c' Γ p e1 e2 e3 s hnow hcl => ?_
  obtain ⟨rfl, rfl⟩ := Prod.mk.inj (e3 _ rfl)
  refine viaG fun G hG => ?_
  obtain ⟨t, L', ep', s', hr, hg, st, hp⟩ := put_ret (X := X) (p := p0) (tc := tc) (tp := tp) (c := c) (pl := pl) hnow.top hcl.1 h140 hL hz hc0 hc
  subst hu
  have t0 : alOf i [t, encN (encE L'), ep'] s'.toks i = t := alOf_at i [t, encN (encE L'), ep'] _ 0 (by simp)
  have t1 : alOf i [t, encN (encE L'), ep'] s'.toks (i + 1) = encN (encE L') := alOf_at i [t, encN (encE L'), ep'] _ 1 (by simp)
  have t2 : alOf i [t, encN (encE L'), ep'] s'.toks (i + 2) = ep' := alOf_at i [t, encN (encE L'), ep'] _ 2 (by simp)
  refine hG ⟨s', [], [t, encN (encE L'), ep'], rfl, rfl, _, _, rfl, rfl, ?_, rfl, ?_, st, ⟨rfl, by simpa [oPutH] using hm, fun k ob e => (by cases e), fun k hk => (by cases hk), fun k k' hk => (by cases hk)⟩, fun k a ob e => (by cases e), ok _ _ ?_⟩
  · show Returns _ _ _ s (.ok (.ret (.int _ (alOf i [t, encN (encE L'), ep'] s'.toks i)))) s'
    rw [t0]; exact hr
  · show s'.heap.get? d = some (dO (decL (alOf i [t, encN (encE L'), ep'] s'.toks (i + 1))) (alOf i [t, encN (encE L'), ep'] s'.toks (i + 2))) ∧ True
    rw [t1, t2, decL_enc]; exact ⟨hg, trivial⟩
  · rw [t1, decL_enc]; exact hp
theorem lsO_ne_tupO {as : List Nat} {ep : Nat} {x : Tup} (h : lsO as ep = tupO x) : False := by
  have e : Value.type "list" = Value.type "tuple" := congrArg Obj.cls h
  injection e with e
  exact absurd e (by decide)
theorem okr_pushH {X : CxW} {p0 : Pos} {h an ep : Nat} {as : List Nat} {T : Nat → Tup} {x : Tup} (hl : 140 ≤ h) (ht : ∀ b ∈ as, s₀.heap.get? b = some (tupO (T b)) ∧ b ∉ A₀) (hA : h ∈ A₀) (hok : ∀ b ∈ as, TupOk (T b)) (hx : TupOk x) (hn : an ∉ as) (h5 : as.length ≤ 5) (hm : m ≤ 1000) (hH : IsH (as.map fun a => tkey (T a)))
    (ok : ∀ al tk, (∀ f : Nat → Nat, ((decN (tk i)).map f).sum = f an + (as.map f).sum) → IsH ((decN (tk i)).map fun a => tkey (if a = an then x else T a)) → OkR (VV w) (model prog w) s₀ A₀ R (next al tk)) :
    OkR (VV w) (model prog w) s₀ A₀ R (.call (.fn 28 [.ref h, .ref an]) (some (X.ctx (pushC h an), p0)) m i [some (h, lsO as (ep + 1)), some (an, tupO x)] (oPushH (ep + 1)) next) := by
  refine okr_gen fun c' Γ p e1 e2 e3 s hnow hcl => ?_
  obtain ⟨rfl, rfl⟩ := Prod.mk.inj (e3 _ rfl)
  refine viaG fun G hG => ?_
  have hne : an ≠ h := fun q => by
    have h1 := hcl.1; have h2 := hcl.2.1
    dsimp only at h1 h2
    rw [q, h1] at h2
    exact lsO_ne_tupO (Option.some.inj h2)
  have hT : ∀ b ∈ as, (if b = an then x else T b) = T b := fun b hb => if_neg fun (q : b = an) => hn (q ▸ hb)
  have H' : HeapInP w s h (fun a => if a = an then x else T a) as an (ep + 1) := ⟨hnow.top, hl, hcl.1, fun b hb => by
      rcases List.mem_append.mp hb with q | q
      · rw [hT b q]
        exact ⟨hnow.keep b _ (ht b q).1 (ht b q).2, fun z => (ht b q).2 (by rw [List.mem_singleton.mp z]; exact hA)⟩
      · rw [List.mem_singleton.mp q]
        rw [if_pos rfl]
        exact ⟨hcl.2.1, fun z => hne (List.mem_singleton.mp z)⟩, fun b hb => by
      rcases List.mem_append.mp hb with q | q
      · rw [hT b q]; exact hok b q
      · rw [List.mem_singleton.mp q]; rw [if_pos rfl]; exact hx⟩
  obtain ⟨L', s', hr, hg, st, hs, hk⟩ := push_any (X := X) (p := p0) H' h5
  have t0 : alOf i [encN L'] s'.toks i = encN L' := alOf_at i [encN L'] _ 0 (by simp)
  have hH' : IsH (as.map fun a => tkey (if a = an then x else T a)) := by
    rw [show (as.map fun a => tkey (if a = an then x else T a)) = as.map fun a => tkey (T a) from List.map_congr_left fun b hb => by rw [hT b hb]]
    exact hH
  refine hG ⟨s', [], [encN L'], rfl, rfl, _, _, rfl, rfl, hr, rfl, ?_, st, ⟨rfl, by simpa [oPushH] using hm, fun k ob e => (by cases e), fun k hk => (by cases hk), fun k k' hk => (by cases hk)⟩, fun k a ob e => (by cases e), ok _ _ ?_ ?_⟩
  · show s'.heap.get? h = some (lsO (decN (alOf i [encN L'] s'.toks i)) (ep + 1 + 1)) ∧ True
    rw [t0, decN_enc]; exact ⟨hg, trivial⟩
  · rw [t0, decN_enc]; exact hs
  · rw [t0, decN_enc]; exact hk hH'
end
end Mine
namespace Mine
open PySem PySem.W PySem.W.X
/-! the turns of the loop of _law_off_a_heap (the kernel runs them) -/
noncomputable def offF1 (w : World) (d h ch k1 k2 k3 : Nat) : Obj := frO w [("chips", k1, (.ref ch)), ("laid", k2, (.ref d)), ("heap", k3, (.ref h))] 3
noncomputable def offF2 (w : World) (d h ch k1 k2 k3 k4 k5 k6 k7 t1 t2 t3 t4 : Nat) (v1 v2 v3 v4 : Int) : Obj := frO w [("chips", k1, (.ref ch)), ("laid", k2, (.ref d)), ("heap", k3, (.ref h)), ("place", k4, (.int v1 t1)), ("odd", k5, (.int v2 t2)), ("corner", k6, (.int v3 t3)), ("up", k7, (.int v4 t4))] 7
noncomputable def trOffE1 : List Nat := [256, 258, 259, 258, 0, 258, 259, 258, 259, 3, 256, 35, 1, 1256, 1256, 1256, 0, 1256, 260, 260, 0, 260, 260, 260, 1256, 260, 260, 260, 0, 260, 260, 260, 1256, 260, 260, 260, 0, 260, 260, 260, 1256, 260, 260, 260, 0, 260, 260, 260, 1256, 260, 260, 262, 256, 256, 256, 256, 256, 256, 3, 256, 256, 256, 115, 1, 256, 256, 256, 1, 255]
noncomputable def eOffE1 (w : World) (X : CxO) (p : Pos) (f d h ch ep ed k1 k2 k3 : Nat) (L : List Ent) (x : Tup) (u : Int) (a : Nat) (rest : List Nat) (al0 tk0 : Nat → Nat) : RLog := .call (.fn 35 [(.ref h)]) (some ((offX X f ⟨162, 29, 162, 42⟩).ctx (popC h), ⟨162, 29, 162, 42⟩)) 4 0 [some (h, lsO (a :: rest) ep)] (oPopH a ep) fun al1 tk1 => .call (.fn 115 [(.ref d), (.int x.c x.tc), (.int x.p x.tp)]) (some ((offX X f ⟨163, 13, 163, 42⟩).ctx (putC d x.c x.tc x.p x.tp), ⟨163, 13, 163, 42⟩)) 7 4 [some (d, dO L ed)] (oPutH u) fun al2 tk2 => .call (.bi 455126531311803185852266 [(.int u (tk2 4)), (.int 6 (tk2 8))]) none 7 9 [] (orcV fun _ => .bool false) fun al3 tk3 => .again (X.ctx (offLoop f)) [some (f, offF2 w d h ch k1 k2 k3 (tk1 1) (tk1 2) (tk1 3) (tk2 7) x.tp x.to x.tc (tk2 4) x.p x.o x.c u), some (d, dO (decL (tk2 5)) (tk2 6)), some (h, lsO (decN (tk1 0)) (ep + 1))]
theorem run_offE1 (w : World) (X : CxO) (p : Pos) (f d h ch ep ed k1 k2 k3 : Nat) (L : List Ent) (x : Tup) (u : Int) (a : Nat) (rest : List Nat) (al0 tk0 : Nat → Nat) : mixA [0, 1, 2] (seg (VV w) 133 trOffE1 [oPopH a ep, oPutH u, orcV fun _ => .bool false] (X.ctx (offLoop f)) p [] (denF (X.ctx (offLoop f)).code) (mkT [(f, offF1 w d h ch k1 k2 k3), (d, dO L ed), (h, lsO (a :: rest) ep)] [(a, tupO x)]) 3 0 al0 tk0) = mixB (seg (VV w) 133 trOffE1 [oPopH a ep, oPutH u, orcV fun _ => .bool false] (X.ctx (offLoop f)) p [] (denF (X.ctx (offLoop f)).code) (mkT [(f, offF1 w d h ch k1 k2 k3), (d, dO L ed), (h, lsO (a :: rest) ep)] [(a, tupO x)]) 3 0 al0 tk0) (eOffE1 w X p f d h ch ep ed k1 k2 k3 L x u a rest al0 tk0) := by kernel_rfl
noncomputable def trOffU1 : List Nat := [256, 258, 259, 258, 0, 258, 259, 258, 259, 3, 256, 35, 1, 1256, 1256, 1256, 0, 1256, 260, 260, 0, 260, 260, 260, 1256, 260, 260, 260, 0, 260, 260, 260, 1256, 260, 260, 260, 0, 260, 260, 260, 1256, 260, 260, 260, 0, 260, 260, 260, 1256, 260, 260, 262, 256, 256, 256, 256, 256, 256, 3, 256, 256, 256, 115, 1, 256, 256, 256, 1, 3, 256, 256, 1, 256, 1, 256, 28, 1, 255]
noncomputable def eOffU1 (w : World) (X : CxO) (p : Pos) (f d h ch ep ed k1 k2 k3 : Nat) (L : List Ent) (x : Tup) (u : Int) (a : Nat) (rest : List Nat) (al0 tk0 : Nat → Nat) : RLog := .call (.fn 35 [(.ref h)]) (some ((offX X f ⟨162, 29, 162, 42⟩).ctx (popC h), ⟨162, 29, 162, 42⟩)) 4 0 [some (h, lsO (a :: rest) ep)] (oPopH a ep) fun al1 tk1 => .call (.fn 115 [(.ref d), (.int x.c x.tc), (.int x.p x.tp)]) (some ((offX X f ⟨163, 13, 163, 42⟩).ctx (putC d x.c x.tc x.p x.tp), ⟨163, 13, 163, 42⟩)) 7 4 [some (d, dO L ed)] (oPutH u) fun al2 tk2 => .call (.bi 455126531311803185852266 [(.int u (tk2 4)), (.int 6 (tk2 8))]) none 7 9 [] (orcV fun _ => .bool true) fun al3 tk3 => .call (.bi 116512096292018843154739050 [(.int x.p x.tp), (.int 1 (tk3 10))]) none 7 11 [] (orcI fun x y => x + y) fun al4 tk4 => .call (.bi 116512097088030077292474218 [(.int u (tk2 4)), (.int 2 (tk4 12))]) none 7 13 [] (orcI Int.fmod) fun al5 tk5 => .call (.fn 28 [(.ref h), (.ref (al5 7))]) (some ((offX X f ⟨165, 12, 165, 51⟩).ctx (pushC h (al5 7)), ⟨165, 12, 165, 51⟩)) 8 14 [some (h, lsO (decN (tk1 0)) (ep + 1)), some ((al5 7), tupO ⟨(x.p + 1), (Int.fmod u 2), u, (tk4 11), (tk5 13), (tk2 4)⟩)] (oPushH (ep + 1)) fun al6 tk6 => .again (X.ctx (offLoop f)) [some (f, offF2 w d h ch k1 k2 k3 (tk1 1) (tk1 2) (tk1 3) (tk2 7) x.tp x.to x.tc (tk2 4) x.p x.o x.c u), some (d, dO (decL (tk2 5)) (tk2 6)), some (h, lsO (decN (tk6 14)) (ep + 2)), some ((al5 7), tupO ⟨(x.p + 1), (Int.fmod u 2), u, (tk4 11), (tk5 13), (tk2 4)⟩)]
theorem run_offU1 (w : World) (X : CxO) (p : Pos) (f d h ch ep ed k1 k2 k3 : Nat) (L : List Ent) (x : Tup) (u : Int) (a : Nat) (rest : List Nat) (al0 tk0 : Nat → Nat) : mixA [0, 1, 2, 7] (seg (VV w) 156 trOffU1 [oPopH a ep, oPutH u, orcV fun _ => .bool true, orcI fun x y => x + y, orcI Int.fmod, oPushH (ep + 1)] (X.ctx (offLoop f)) p [] (denF (X.ctx (offLoop f)).code) (mkT [(f, offF1 w d h ch k1 k2 k3), (d, dO L ed), (h, lsO (a :: rest) ep)] [(a, tupO x)]) 3 0 al0 tk0) = mixB (seg (VV w) 156 trOffU1 [oPopH a ep, oPutH u, orcV fun _ => .bool true, orcI fun x y => x + y, orcI Int.fmod, oPushH (ep + 1)] (X.ctx (offLoop f)) p [] (denF (X.ctx (offLoop f)).code) (mkT [(f, offF1 w d h ch k1 k2 k3), (d, dO L ed), (h, lsO (a :: rest) ep)] [(a, tupO x)]) 3 0 al0 tk0) (eOffU1 w X p f d h ch ep ed k1 k2 k3 L x u a rest al0 tk0) := by kernel_rfl
noncomputable def trOffE2 : List Nat := [256, 258, 259, 258, 0, 258, 259, 258, 259, 3, 256, 35, 1, 1256, 1256, 1256, 0, 1256, 260, 260, 0, 260, 260, 260, 1256, 260, 260, 260, 0, 260, 260, 260, 1256, 260, 260, 260, 0, 260, 260, 260, 1256, 260, 260, 260, 0, 260, 260, 260, 1256, 260, 260, 262, 256, 256, 256, 256, 256, 256, 3, 256, 256, 256, 115, 1, 256, 256, 256, 1, 255]
noncomputable def eOffE2 (w : World) (X : CxO) (p : Pos) (f d h ch ep ed k1 k2 k3 k4 k5 k6 k7 t1 t2 t3 t4 : Nat) (v1 v2 v3 v4 : Int) (L : List Ent) (x : Tup) (u : Int) (a : Nat) (rest : List Nat) (al0 tk0 : Nat → Nat) : RLog := .call (.fn 35 [(.ref h)]) (some ((offX X f ⟨162, 29, 162, 42⟩).ctx (popC h), ⟨162, 29, 162, 42⟩)) 4 0 [some (h, lsO (a :: rest) ep)] (oPopH a ep) fun al1 tk1 => .call (.fn 115 [(.ref d), (.int x.c x.tc), (.int x.p x.tp)]) (some ((offX X f ⟨163, 13, 163, 42⟩).ctx (putC d x.c x.tc x.p x.tp), ⟨163, 13, 163, 42⟩)) 7 4 [some (d, dO L ed)] (oPutH u) fun al2 tk2 => .call (.bi 455126531311803185852266 [(.int u (tk2 4)), (.int 6 (tk2 8))]) none 7 9 [] (orcV fun _ => .bool false) fun al3 tk3 => .again (X.ctx (offLoop f)) [some (f, offF2 w d h ch k1 k2 k3 k4 k5 k6 k7 x.tp x.to x.tc (tk2 4) x.p x.o x.c u), some (d, dO (decL (tk2 5)) (tk2 6)), some (h, lsO (decN (tk1 0)) (ep + 1))]
theorem run_offE2 (w : World) (X : CxO) (p : Pos) (f d h ch ep ed k1 k2 k3 k4 k5 k6 k7 t1 t2 t3 t4 : Nat) (v1 v2 v3 v4 : Int) (L : List Ent) (x : Tup) (u : Int) (a : Nat) (rest : List Nat) (al0 tk0 : Nat → Nat) : mixA [0, 1, 2] (seg (VV w) 133 trOffE2 [oPopH a ep, oPutH u, orcV fun _ => .bool false] (X.ctx (offLoop f)) p [] (denF (X.ctx (offLoop f)).code) (mkT [(f, offF2 w d h ch k1 k2 k3 k4 k5 k6 k7 t1 t2 t3 t4 v1 v2 v3 v4), (d, dO L ed), (h, lsO (a :: rest) ep)] [(a, tupO x)]) 3 0 al0 tk0) = mixB (seg (VV w) 133 trOffE2 [oPopH a ep, oPutH u, orcV fun _ => .bool false] (X.ctx (offLoop f)) p [] (denF (X.ctx (offLoop f)).code) (mkT [(f, offF2 w d h ch k1 k2 k3 k4 k5 k6 k7 t1 t2 t3 t4 v1 v2 v3 v4), (d, dO L ed), (h, lsO (a :: rest) ep)] [(a, tupO x)]) 3 0 al0 tk0) (eOffE2 w X p f d h ch ep ed k1 k2 k3 k4 k5 k6 k7 t1 t2 t3 t4 v1 v2 v3 v4 L x u a rest al0 tk0) := by kernel_rfl
noncomputable def trOffU2 : List Nat := [256, 258, 259, 258, 0, 258, 259, 258, 259, 3, 256, 35, 1, 1256, 1256, 1256, 0, 1256, 260, 260, 0, 260, 260, 260, 1256, 260, 260, 260, 0, 260, 260, 260, 1256, 260, 260, 260, 0, 260, 260, 260, 1256, 260, 260, 260, 0, 260, 260, 260, 1256, 260, 260, 262, 256, 256, 256, 256, 256, 256, 3, 256, 256, 256, 115, 1, 256, 256, 256, 1, 3, 256, 256, 1, 256, 1, 256, 28, 1, 255]
noncomputable def eOffU2 (w : World) (X : CxO) (p : Pos) (f d h ch ep ed k1 k2 k3 k4 k5 k6 k7 t1 t2 t3 t4 : Nat) (v1 v2 v3 v4 : Int) (L : List Ent) (x : Tup) (u : Int) (a : Nat) (rest : List Nat) (al0 tk0 : Nat → Nat) : RLog := .call (.fn 35 [(.ref h)]) (some ((offX X f ⟨162, 29, 162, 42⟩).ctx (popC h), ⟨162, 29, 162, 42⟩)) 4 0 [some (h, lsO (a :: rest) ep)] (oPopH a ep) fun al1 tk1 => .call (.fn 115 [(.ref d), (.int x.c x.tc), (.int x.p x.tp)]) (some ((offX X f ⟨163, 13, 163, 42⟩).ctx (putC d x.c x.tc x.p x.tp), ⟨163, 13, 163, 42⟩)) 7 4 [some (d, dO L ed)] (oPutH u) fun al2 tk2 => .call (.bi 455126531311803185852266 [(.int u (tk2 4)), (.int 6 (tk2 8))]) none 7 9 [] (orcV fun _ => .bool true) fun al3 tk3 => .call (.bi 116512096292018843154739050 [(.int x.p x.tp), (.int 1 (tk3 10))]) none 7 11 [] (orcI fun x y => x + y) fun al4 tk4 => .call (.bi 116512097088030077292474218 [(.int u (tk2 4)), (.int 2 (tk4 12))]) none 7 13 [] (orcI Int.fmod) fun al5 tk5 => .call (.fn 28 [(.ref h), (.ref (al5 7))]) (some ((offX X f ⟨165, 12, 165, 51⟩).ctx (pushC h (al5 7)), ⟨165, 12, 165, 51⟩)) 8 14 [some (h, lsO (decN (tk1 0)) (ep + 1)), some ((al5 7), tupO ⟨(x.p + 1), (Int.fmod u 2), u, (tk4 11), (tk5 13), (tk2 4)⟩)] (oPushH (ep + 1)) fun al6 tk6 => .again (X.ctx (offLoop f)) [some (f, offF2 w d h ch k1 k2 k3 k4 k5 k6 k7 x.tp x.to x.tc (tk2 4) x.p x.o x.c u), some (d, dO (decL (tk2 5)) (tk2 6)), some (h, lsO (decN (tk6 14)) (ep + 2)), some ((al5 7), tupO ⟨(x.p + 1), (Int.fmod u 2), u, (tk4 11), (tk5 13), (tk2 4)⟩)]
theorem run_offU2 (w : World) (X : CxO) (p : Pos) (f d h ch ep ed k1 k2 k3 k4 k5 k6 k7 t1 t2 t3 t4 : Nat) (v1 v2 v3 v4 : Int) (L : List Ent) (x : Tup) (u : Int) (a : Nat) (rest : List Nat) (al0 tk0 : Nat → Nat) : mixA [0, 1, 2, 7] (seg (VV w) 156 trOffU2 [oPopH a ep, oPutH u, orcV fun _ => .bool true, orcI fun x y => x + y, orcI Int.fmod, oPushH (ep + 1)] (X.ctx (offLoop f)) p [] (denF (X.ctx (offLoop f)).code) (mkT [(f, offF2 w d h ch k1 k2 k3 k4 k5 k6 k7 t1 t2 t3 t4 v1 v2 v3 v4), (d, dO L ed), (h, lsO (a :: rest) ep)] [(a, tupO x)]) 3 0 al0 tk0) = mixB (seg (VV w) 156 trOffU2 [oPopH a ep, oPutH u, orcV fun _ => .bool true, orcI fun x y => x + y, orcI Int.fmod, oPushH (ep + 1)] (X.ctx (offLoop f)) p [] (denF (X.ctx (offLoop f)).code) (mkT [(f, offF2 w d h ch k1 k2 k3 k4 k5 k6 k7 t1 t2 t3 t4 v1 v2 v3 v4), (d, dO L ed), (h, lsO (a :: rest) ep)] [(a, tupO x)]) 3 0 al0 tk0) (eOffU2 w X p f d h ch ep ed k1 k2 k3 k4 k5 k6 k7 t1 t2 t3 t4 v1 v2 v3 v4 L x u a rest al0 tk0) := by kernel_rfl
noncomputable def trOffX : List Nat := [256, 258, 259, 258, 0, 258, 259, 258, 259, 258, 259, 258, 259]
noncomputable def eOffX (w : World) (X : CxO) (p : Pos) (f d h ch ep ed k1 k2 k3 k4 k5 k6 k7 t1 t2 t3 t4 : Nat) (v1 v2 v3 v4 : Int) (L : List Ent) (x : Tup) (u : Int) (a : Nat) (rest : List Nat) (al0 tk0 : Nat → Nat) : RLog := .ret (.ok .next) [some (f, offF2 w d h ch k1 k2 k3 k4 k5 k6 k7 t1 t2 t3 t4 v1 v2 v3 v4), some (d, dO L ed), some (h, lsO [] ep)]
theorem run_offX (w : World) (X : CxO) (p : Pos) (f d h ch ep ed k1 k2 k3 k4 k5 k6 k7 t1 t2 t3 t4 : Nat) (v1 v2 v3 v4 : Int) (L : List Ent) (x : Tup) (u : Int) (a : Nat) (rest : List Nat) (al0 tk0 : Nat → Nat) : mixA [0, 1, 2] (seg (VV w) 24 trOffX [] (X.ctx (offLoop f)) p [] (denF (X.ctx (offLoop f)).code) (mkT [(f, offF2 w d h ch k1 k2 k3 k4 k5 k6 k7 t1 t2 t3 t4 v1 v2 v3 v4), (d, dO L ed), (h, lsO [] ep)] []) 3 0 al0 tk0) = mixB (seg (VV w) 24 trOffX [] (X.ctx (offLoop f)) p [] (denF (X.ctx (offLoop f)).code) (mkT [(f, offF2 w d h ch k1 k2 k3 k4 k5 k6 k7 t1 t2 t3 t4 v1 v2 v3 v4), (d, dO L ed), (h, lsO [] ep)] []) 3 0 al0 tk0) (eOffX w X p f d h ch ep ed k1 k2 k3 k4 k5 k6 k7 t1 t2 t3 t4 v1 v2 v3 v4 L x u a rest al0 tk0) := by kernel_rfl
end Mine
namespace Mine
/-! plain law: what a put does to the sum -/
noncomputable def cvA (c : Int) : Int := if c = 0 then 1 else if c = 1 then 1 else if c = 3 then -1 else if c = 4 then -1 else 0
noncomputable def cvB (c : Int) : Int := if c = 1 then 1 else if c = 2 then 1 else if c = 4 then -1 else if c = 5 then -1 else 0
noncomputable def odv (cv : Int → Int) : Option Int → Int
  | none => 0
  | some v => cv v
theorem put_sum (c : Int) (th : Option Int) (hc : c = 0 ∨ c = 1 ∨ c = 2 ∨ c = 3 ∨ c = 4 ∨ c = 5) (ht : th = none ∨ th = some 0 ∨ th = some 2 ∨ th = some 4) :
    cvA c + odv cvA th = odv cvA (newF c th) - 2 * cvA (upF c th) ∧ cvB c + odv cvB th = odv cvB (newF c th) - 2 * cvB (upF c th) := by
  rcases hc with rfl | rfl | rfl | rfl | rfl | rfl <;> rcases ht with rfl | rfl | rfl | rfl <;> decide
theorem put_up (c : Int) (th : Option Int) (hc : c = 0 ∨ c = 1 ∨ c = 2 ∨ c = 3 ∨ c = 4 ∨ c = 5) (ht : th = none ∨ th = some 0 ∨ th = some 2 ∨ th = some 4) :
    (0 ≤ upF c th ∧ upF c th ≤ 6) ∧ (th = none → c % 2 = 0 → upF c th = 6) ∧ (th = none → c % 2 = 1 → upF c th < 6 → upF c th % 2 = 0) ∧ (th = none → newF c th ≠ none) ∧ (th ≠ none → newF c th = none → upF c th = 6 ∨ upF c th % 2 = 1) ∧ (newF c th = none ∨ newF c th = some 0 ∨ newF c th = some 2 ∨ newF c th = some 4) := by
  rcases hc with rfl | rfl | rfl | rfl | rfl | rfl <;> rcases ht with rfl | rfl | rfl | rfl <;> decide
/-- the sum of a row's first n places -/
noncomputable def rowV (cv : Int → Int) (g : Int → Option Int) : Nat → Int
  | 0 => 0
  | n + 1 => rowV cv g n + odv cv (g n) * (-2) ^ n
theorem rowV_same {cv : Int → Int} {g g' : Int → Option Int} : ∀ (n : Nat), (∀ k : Nat, k < n → g k = g' k) → rowV cv g n = rowV cv g' n
  | 0, _ => rfl
  | n + 1, h => by
    unfold rowV
    rw [rowV_same n (fun k hk => h k (by omega)), h n (by omega)]
theorem rowV_put {cv : Int → Int} {g g' : Int → Option Int} {p : Nat} {v : Option Int} (h : ∀ k, g' k = if k = (p : Int) then v else g k) : ∀ (n : Nat), p < n → rowV cv g' n + odv cv (g p) * (-2) ^ p = rowV cv g n + odv cv v * (-2) ^ p
  | 0, hp => by omega
  | n + 1, hp => by
    by_cases e : p = n
    · subst e
      have e1 : rowV cv g' p = rowV cv g p := rowV_same p fun k hk => by rw [h, if_neg (by omega)]
      unfold rowV
      rw [e1, h, if_pos rfl]
      omega
    · have ih := rowV_put (cv := cv) h n (by omega)
      have e2 : g' (n : Int) = g n := by rw [h, if_neg (by omega)]
      unfold rowV
      rw [e2]
      omega
end Mine
namespace Mine
/-! plain law: the row of a sum is one -/
noncomputable def isDig (t : Option Int) : Prop := t = none ∨ t = some 0 ∨ t = some 2 ∨ t = some 4
theorem rowV_shift (cv : Int → Int) : ∀ (n : Nat) (g : Int → Option Int), rowV cv g (n + 1) = odv cv (g 0) + (-2) * rowV cv (fun k => g (k + 1)) n
  | 0, g => by simp [rowV]
  | n + 1, g => by
    have ih := rowV_shift cv n g
    have e : rowV cv g (n + 1 + 1) = rowV cv g (n + 1) + odv cv (g ((n + 1 : Nat) : Int)) * (-2) ^ (n + 1) := rfl
    have e2 : rowV cv (fun k => g (k + 1)) (n + 1) = rowV cv (fun k => g (k + 1)) n + odv cv (g ((n : Int) + 1)) * (-2) ^ n := rfl
    rw [e, ih, e2, Int.pow_succ, show ((n + 1 : Nat) : Int) = (n : Int) + 1 by omega]
    generalize rowV cv (fun k => g (k + 1)) n = x
    generalize odv cv (g ((n : Int) + 1)) = y
    generalize ((-2 : Int) ^ n) = z
    rw [Int.mul_add, Int.add_assoc]
    congr 2
    rw [Int.mul_comm z (-2), ← Int.mul_assoc, Int.mul_comm y (-2), Int.mul_assoc]
noncomputable def rowL (g : Int → Option Int) : Nat → Int → List (Int × Int)
  | 0, _ => []
  | n + 1, pl => (match g 0 with | none => [] | some v => [(pl, v)]) ++ rowL (fun k => g (k + 1)) n (pl + 1)
theorem fmod_two (a : Int) : a.fmod 2 = a % 2 := Int.fmod_eq_emod_of_nonneg _ (by decide)
theorem fdiv_two (a : Int) : a.fdiv 2 = a / 2 := Int.fdiv_eq_ediv_of_nonneg _ (by decide)
theorem rowL_zero : ∀ (n : Nat) (g : Int → Option Int) (pl : Int), (∀ k : Nat, isDig (g k)) → rowV cvA g n = 0 → rowV cvB g n = 0 → rowL g n pl = []
  | 0, _, _, _, _, _ => rfl
  | n + 1, g, pl, hg, ha, hb => by
    rw [rowV_shift] at ha hb
    have h0 := hg 0
    have hs : ∀ k : Nat, isDig ((fun k => g (k + 1)) k) := fun k => by
      have := hg (k + 1)
      rwa [show ((k + 1 : Nat) : Int) = (k : Int) + 1 by omega] at this
    have g0 : g 0 = none := by
      rcases h0 with h | h | h | h
      · exact h
      all_goals
        rw [show ((0 : Nat) : Int) = 0 from rfl] at h
        rw [h] at ha hb
        simp [odv, cvA, cvB] at ha hb
        omega
    rw [g0] at ha hb
    have ih := rowL_zero n (fun k => g (k + 1)) (pl + 1) hs (by simp [odv] at ha; omega) (by simp [odv] at hb; omega)
    unfold rowL
    rw [g0, ih]; rfl
theorem due_row : ∀ (n : Nat) (g : Int → Option Int) (pl a b : Int), (∀ k : Nat, isDig (g k)) → rowV cvA g n = a → rowV cvB g n = b → dueF (n + 1) a b pl = some (rowL g n pl)
  | 0, g, pl, a, b, _, ha, hb => by
    have ha' : 0 = a := ha
    have hb' : 0 = b := hb
    subst ha' hb'
    rfl
  | n + 1, g, pl, a, b, hg, ha, hb => by
    unfold dueF
    by_cases e0 : a = 0 ∧ b = 0
    · rw [if_pos e0, rowL_zero (n + 1) g pl hg (by rw [ha, e0.1]) (by rw [hb, e0.2])]
    · rw [if_neg e0]
      rw [rowV_shift] at ha hb
      have hs : ∀ k : Nat, isDig ((fun k => g (k + 1)) k) := fun k => by
        have := hg (k + 1)
        rwa [show ((k + 1 : Nat) : Int) = (k : Int) + 1 by omega] at this
      have ih := fun a b => due_row n (fun k => g (k + 1)) (pl + 1) a b hs
      unfold rowL
      rw [fmod_two, fmod_two]
      rcases hg 0 with h | h | h | h <;> rw [show ((0 : Nat) : Int) = 0 from rfl] at h <;> rw [h] at ha hb ⊢ <;> simp [odv, cvA, cvB] at ha hb
      · rw [if_neg (by omega), if_neg (by omega), if_neg (by omega), fdiv_two, fdiv_two, show -(a / 2) = rowV cvA (fun k => g (k + 1)) n by omega, show -(b / 2) = rowV cvB (fun k => g (k + 1)) n by omega, ih _ _ rfl rfl]
        rfl
      · rw [if_neg (by omega), if_pos (by omega), fdiv_two, fdiv_two, show -((a - 1) / 2) = rowV cvA (fun k => g (k + 1)) n by omega, show -(b / 2) = rowV cvB (fun k => g (k + 1)) n by omega, ih _ _ rfl rfl]
        rfl
      · rw [if_neg (by omega), if_neg (by omega), if_pos (by omega), fdiv_two, fdiv_two, show -(a / 2) = rowV cvA (fun k => g (k + 1)) n by omega, show -((b - 1) / 2) = rowV cvB (fun k => g (k + 1)) n by omega, ih _ _ rfl rfl]
        rfl
      · rw [if_pos (by omega), fdiv_two, fdiv_two, show -((a + 1) / 2) = rowV cvA (fun k => g (k + 1)) n by omega, show -((b + 1) / 2) = rowV cvB (fun k => g (k + 1)) n by omega, ih _ _ rfl rfl]
        rfl
theorem dueF_more : ∀ (n m : Nat) (a b pl : Int) (r : List (Int × Int)), dueF n a b pl = some r → dueF (n + m) a b pl = some r
  | 0, _, _, _, _, _, h => by cases h
  | n + 1, m, a, b, pl, r, h => by
    rw [show n + 1 + m = (n + m) + 1 by omega]
    unfold dueF at h ⊢
    by_cases e0 : a = 0 ∧ b = 0
    · rw [if_pos e0] at h ⊢; exact h
    · rw [if_neg e0] at h ⊢
      split at h
      · rename_i e1; rw [if_pos e1]
        obtain ⟨r', h1, h2⟩ := Option.map_eq_some_iff.mp h
        rw [dueF_more n m _ _ _ r' h1]; exact congrArg some h2
      · rename_i e1; rw [if_neg e1]
        split at h
        · rename_i e2; rw [if_pos e2]
          obtain ⟨r', h1, h2⟩ := Option.map_eq_some_iff.mp h
          rw [dueF_more n m _ _ _ r' h1]; exact congrArg some h2
        · rename_i e2; rw [if_neg e2]
          split at h
          · rename_i e3; rw [if_pos e3]
            obtain ⟨r', h1, h2⟩ := Option.map_eq_some_iff.mp h
            rw [dueF_more n m _ _ _ r' h1]; exact congrArg some h2
          · rename_i e3; rw [if_neg e3]
            exact dueF_more n m _ _ _ r h
theorem dueF_one {n m : Nat} {a b pl : Int} {r r' : List (Int × Int)} (h : dueF n a b pl = some r) (h' : dueF m a b pl = some r') : r = r' := by
  have h1 := dueF_more n m a b pl r h
  have h2 := dueF_more m n a b pl r' h'
  rw [Nat.add_comm] at h2
  rw [h1] at h2
  exact Option.some.inj h2
end Mine
namespace Mine
/-! plain law: taking the least chip first, it ends -/
noncomputable def nP (T : Nat → Tup) (as : List Nat) (p : Int) : Nat := (as.map fun a => if (T a).p = p then 1 else 0).sum
noncomputable def eP (T : Nat → Tup) (as : List Nat) (p : Int) : Nat := (as.map fun a => if (T a).p = p ∧ (T a).o = 0 then 1 else 0).sum
noncomputable def rk (T : Nat → Tup) (as : List Nat) (g : Int → Option Int) (p : Int) : Nat := if g p = none then (if 0 < eP T as p then 0 else if 0 < eP T as (p + 1) then 1 else 2) else (if 0 < eP T as (p + 1) then 1 else 3)
noncomputable def mu (T : Nat → Tup) (as : List Nat) (g : Int → Option Int) (p : Int) : Nat := 28 * as.length + 7 * rk T as g p + nP T as p
theorem sum_le_len {f : Nat → Nat} (hf : ∀ a, f a ≤ 1) : ∀ as : List Nat, (as.map f).sum ≤ as.length
  | [] => Nat.le_refl _
  | a :: as => by
    have := hf a
    have := sum_le_len hf as
    simp only [List.map_cons, List.sum_cons, List.length_cons]
    omega
theorem nP_le (T : Nat → Tup) (as : List Nat) (p : Int) : nP T as p ≤ as.length := sum_le_len (fun a => by split <;> omega) as
theorem rk_le (T : Nat → Tup) (as : List Nat) (g : Int → Option Int) (p : Int) : rk T as g p ≤ 3 := by
  unfold rk; repeat' split
  all_goals omega
theorem sum_pos {f : Nat → Nat} : ∀ {as : List Nat}, 0 < (as.map f).sum → ∃ a ∈ as, 0 < f a
  | [], h => by simp at h
  | a :: as, h => by
    rw [List.map_cons, List.sum_cons] at h
    by_cases ha : 0 < f a
    · exact ⟨a, .head _, ha⟩
    · obtain ⟨b, hb, h'⟩ := sum_pos (f := f) (as := as) (by omega)
      exact ⟨b, .tail _ hb, h'⟩
theorem pos_sum {f : Nat → Nat} : ∀ {as : List Nat} {a : Nat}, a ∈ as → 0 < f a → 0 < (as.map f).sum
  | b :: as, a, h, ha => by
    rw [List.map_cons, List.sum_cons]
    rcases List.mem_cons.mp h with rfl | h
    · omega
    · have := pos_sum h ha; omega
theorem mu_E {T : Nat → Tup} {a : Nat} {rest as' : List Nat} {g g' : Int → Option Int} {p p' : Int} (h6 : rest.length ≤ 5) (hs : ∀ f : Nat → Nat, f a + (as'.map f).sum = ((a :: rest).map f).sum) : mu T as' g' p' < mu T (a :: rest) g p := by
  have hl : as'.length = rest.length := sum_len fun f => by have := hs f; simp only [List.map_cons, List.sum_cons] at this; omega
  have h1 := nP_le T as' p'
  have h2 := rk_le T as' g' p'
  unfold mu
  rw [List.length_cons]
  omega
theorem map_sum_congr {f g : Nat → Nat} {as : List Nat} (h : ∀ a ∈ as, f a = g a) : (as.map f).sum = (as.map g).sum := by rw [List.map_congr_left h]
theorem mu_U {T : Nat → Tup} {a an : Nat} {rest as' as2 : List Nat} {g g' : Int → Option Int} {p p' : Int} {x : Tup} {new : Option Int} (h6 : rest.length ≤ 5) (hs : ∀ f : Nat → Nat, f a + (as'.map f).sum = ((a :: rest).map f).sum) (hs2 : ∀ f : Nat → Nat, (as2.map f).sum = f an + (as'.map f).sum) (hn : an ∉ as')
    (hx : x.p = p + 1) (hp : (T a).p = p) (hmin : ∀ b ∈ a :: rest, p ≤ (T b).p) (hev : (T a).o ≠ 0 → ∀ b ∈ a :: rest, (T b).p = p → (T b).o ≠ 0) (hg : ∀ k, g' k = if k = p then new else g k) (hf : ∀ k, p < k → g k = none)
    (h0 : g p = none → (T a).o ≠ 0 ∧ x.o = 0 ∧ new ≠ none) (b0 : Nat) (hb0 : b0 ∈ as2) (hp' : (if b0 = an then x else T b0).p = p') (hm' : ∀ b ∈ as2, p' ≤ (if b = an then x else T b).p) :
    mu (fun b => if b = an then x else T b) as2 g' p' < mu T (a :: rest) g p := by
  have sub : ∀ b ∈ as', b ∈ a :: rest := fun b hb => by
    have h1 := pos_sum (f := fun c => if c = b then 1 else 0) hb (by simp)
    have h2 := hs fun c => if c = b then 1 else 0
    obtain ⟨c, hc, h3⟩ := sum_pos (f := fun c => if c = b then 1 else 0) (as := a :: rest) (by omega)
    by_cases e : c = b
    · rw [← e]; exact hc
    · simp [e] at h3
  have T2 : ∀ b ∈ as', (if b = an then x else T b) = T b := fun b hb => if_neg fun (q : b = an) => hn (q ▸ hb)
  have mem2 : ∀ b ∈ as2, b = an ∨ b ∈ as' := fun b hb => by
    have h1 := pos_sum (f := fun c => if c = b then 1 else 0) hb (by simp)
    have h2 := hs2 fun c => if c = b then 1 else 0
    by_cases e : an = b
    · exact .inl e.symm
    · simp only [if_neg e] at h2
      obtain ⟨c, hc, h3⟩ := sum_pos (f := fun c => if c = b then 1 else 0) (as := as') (by omega)
      by_cases e : c = b
      · rw [← e]; exact .inr hc
      · simp [e] at h3
  have an2 : an ∈ as2 := by
    have h2 := hs2 fun c => if c = an then 1 else 0
    simp only [if_true] at h2
    obtain ⟨c, hc, h3⟩ := sum_pos (f := fun c => if c = an then 1 else 0) (as := as2) (by omega)
    by_cases e : c = an
    · rw [← e]; exact hc
    · simp [e] at h3
  have hl : as2.length = rest.length + 1 := by
    have h1 : as2.length = (an :: as').length := sum_len fun f => by rw [hs2]; simp
    have h2 : (a :: as').length = (a :: rest).length := sum_len fun f => by rw [← hs]; simp
    simp only [List.length_cons] at h1 h2; omega
  have nEq : ∀ q, nP (fun b => if b = an then x else T b) as2 q + (if p = q then 1 else 0) = (if p + 1 = q then 1 else 0) + nP T (a :: rest) q := fun q => by
    have h1 := hs2 fun b => if (if b = an then x else T b).p = q then 1 else 0
    have h2 := hs fun b => if (T b).p = q then 1 else 0
    have h3 : (as'.map fun b => if (if b = an then x else T b).p = q then 1 else 0).sum = (as'.map fun b => if (T b).p = q then 1 else 0).sum := map_sum_congr fun b hb => by rw [T2 b hb]
    simp only [if_true, hx, hp] at h1 h2
    unfold nP
    simp only []
    omega
  have eEq : ∀ q, eP (fun b => if b = an then x else T b) as2 q + (if p = q ∧ (T a).o = 0 then 1 else 0) = (if p + 1 = q ∧ x.o = 0 then 1 else 0) + eP T (a :: rest) q := fun q => by
    have h1 := hs2 fun b => if (if b = an then x else T b).p = q ∧ (if b = an then x else T b).o = 0 then 1 else 0
    have h2 := hs fun b => if (T b).p = q ∧ (T b).o = 0 then 1 else 0
    have h3 : (as'.map fun b => if (if b = an then x else T b).p = q ∧ (if b = an then x else T b).o = 0 then 1 else 0).sum = (as'.map fun b => if (T b).p = q ∧ (T b).o = 0 then 1 else 0).sum := map_sum_congr fun b hb => by rw [T2 b hb]
    simp only [if_true, hx, hp] at h1 h2
    unfold eP
    simp only []
    omega
  have e1 := eEq (p + 1)
  rw [if_neg (by omega : ¬ (p = p + 1 ∧ (T a).o = 0))] at e1
  have n1 := nEq p
  rw [if_pos rfl, if_neg (by omega : ¬ p + 1 = p)] at n1
  have ge : ∀ b ∈ as2, p ≤ (if b = an then x else T b).p := fun b hb => by
    rcases mem2 b hb with q | q
    · rw [if_pos q, hx]; omega
    · rw [T2 b q]; exact hmin b (sub b q)
  have none0 : g p = none → eP T (a :: rest) p = 0 := fun q => by
    by_cases z : 0 < eP T (a :: rest) p
    · obtain ⟨b, hb, h3⟩ := sum_pos z
      by_cases e : (T b).p = p ∧ (T b).o = 0
      · exact absurd e.2 (hev (h0 q).1 b hb e.1)
      · simp [e] at h3
    · omega
  have l1 := nP_le (fun b => if b = an then x else T b) as2 p'
  unfold mu
  rw [hl, List.length_cons]
  by_cases hz : 0 < nP (fun b => if b = an then x else T b) as2 p
  · have ep : p' = p := by
      obtain ⟨b, hb, h3⟩ := sum_pos hz
      by_cases e : (if b = an then x else T b).p = p
      · have := hm' b hb; have := ge b0 hb0; omega
      · simp [e] at h3
    subst ep
    have key : rk (fun b => if b = an then x else T b) as2 g' p' ≤ rk T (a :: rest) g p' := by
      unfold rk
      rw [hg p', if_pos rfl]
      by_cases q : g p' = none
      · have := none0 q
        obtain ⟨_, q2, q3⟩ := h0 q
        rw [if_pos ⟨rfl, q2⟩] at e1
        rw [if_neg q3, if_pos q, if_pos (by omega), if_neg (by omega)]
        split <;> omega
      · rw [if_neg q]
        repeat' split
        all_goals omega
    omega
  · have ep : p' = p + 1 := by
      have h1 := hm' an an2
      rw [if_pos rfl, hx] at h1
      have h2 := ge b0 hb0
      by_cases e : p' = p
      · exact absurd (pos_sum (f := fun b => if (if b = an then x else T b).p = p then 1 else 0) hb0 (by rw [if_pos (hp'.trans e)]; omega)) hz
      · omega
    subst ep
    have key : rk (fun b => if b = an then x else T b) as2 g' (p + 1) < rk T (a :: rest) g p := by
      have gn : g' (p + 1) = none := by
        rw [hg, if_neg (by omega)]; exact hf _ (by omega)
      unfold rk
      rw [gn, if_pos rfl]
      by_cases q : g p = none
      · have := none0 q
        obtain ⟨_, q2, q3⟩ := h0 q
        rw [if_pos ⟨rfl, q2⟩] at e1
        rw [if_pos q, if_pos (by omega), if_neg (by omega)]
        split <;> omega
      · rw [if_neg q]
        repeat' split
        all_goals omega
    omega
end Mine
namespace Mine
/-! sums over lists that agree for all numbers agree for all ints -/
theorem perm_of_sums {as bs : List Nat} (h : ∀ f : Nat → Nat, (as.map f).sum = (bs.map f).sum) : as.Perm bs := by
  rw [List.perm_iff_count]
  intro a
  have e : ∀ l : List Nat, l.count a = (l.map fun x => if x = a then 1 else 0).sum := fun l => by
    induction l with
    | nil => rfl
    | cons b l ih =>
      rw [List.count_cons, ih, List.map_cons, List.sum_cons]
      by_cases q : b = a
      · subst q; simp; omega
      · simp [q]
  rw [e, e]
  exact h _
noncomputable def isum : List Int → Int
  | [] => 0
  | a :: l => a + isum l
theorem isum_perm {l l' : List Int} (h : l.Perm l') : isum l = isum l' := by
  induction h with
  | nil => rfl
  | cons a _ ih => simp only [isum, ih]
  | swap a b l => simp only [isum]; omega
  | trans _ _ ih1 ih2 => exact ih1.trans ih2
/-- the sum of chips -/
noncomputable def chipV (cv : Int → Int) (T : Nat → Tup) (as : List Nat) : Int := isum (as.map fun a => cv (T a).c * (-2) ^ (T a).p.toNat)
theorem chipV_pop {cv : Int → Int} {T : Nat → Tup} {a : Nat} {rest as' : List Nat} (hs : ∀ f : Nat → Nat, f a + (as'.map f).sum = ((a :: rest).map f).sum) : chipV cv T (a :: rest) = cv (T a).c * (-2) ^ (T a).p.toNat + chipV cv T as' := by
  have hp : (a :: as').Perm (a :: rest) := perm_of_sums fun f => by rw [List.map_cons, List.sum_cons, hs]
  have := isum_perm (hp.map fun a => cv (T a).c * (-2) ^ (T a).p.toNat)
  exact this.symm
theorem chipV_push {cv : Int → Int} {T : Nat → Tup} {an : Nat} {x : Tup} {as' as2 : List Nat} (hs2 : ∀ f : Nat → Nat, (as2.map f).sum = f an + (as'.map f).sum) (hn : an ∉ as') :
    chipV cv (fun b => if b = an then x else T b) as2 = cv x.c * (-2) ^ x.p.toNat + chipV cv T as' := by
  have hp : as2.Perm (an :: as') := perm_of_sums fun f => by rw [List.map_cons, List.sum_cons, hs2]
  have h1 := isum_perm (hp.map fun b => cv (if b = an then x else T b).c * (-2) ^ (if b = an then x else T b).p.toNat)
  unfold chipV
  rw [h1, List.map_cons]
  simp only [isum, if_true]
  congr 2
  exact List.map_congr_left fun b hb => by rw [if_neg fun (q : b = an) => hn (q ▸ hb)]
end Mine
namespace Mine
open PySem PySem.W PySem.W.X
open Sem (wp finPost)
/-! the loop of _law_off_a_heap -/
structure OffIn (w : World) (s : Shared) (f d h : Nat) (T : Nat → Tup) (as : List Nat) (L : List Ent) : Prop where
  top : TopIn w s
  lf : 140 ≤ f
  ld : 140 ≤ d
  lh : 140 ≤ h
  fd : f ≠ d
  fh : f ≠ h
  dh : d ≠ h
  dd : ∃ ed, s.heap.get? d = some (dO L ed)
  hh : ∃ ep, s.heap.get? h = some (lsO as ep)
  tup : ∀ a ∈ as, s.heap.get? a = some (tupO (T a)) ∧ a ∉ [f, d, h]
  ok : ∀ a ∈ as, TupOk (T a)
  od : ∀ a ∈ as, (T a).o = (T a).c % 2
  pl : ∀ a ∈ as, 0 ≤ (T a).p
  hp : IsH (as.map fun a => tkey (T a))
  len : as.length ≤ 6
  laid : Laid1 L
  pos : ∀ x ∈ L, 0 ≤ x.k
  keys : ∀ x ∈ L, ∀ a ∈ as, x.k ≤ (T a).p
/-- the frame: with the first three names, or all -/
noncomputable def FrIn (w : World) (s : Shared) (f d h : Nat) (b : Bool) : Prop := match b with
  | true => ∃ ch k1 k2 k3, s.heap.get? f = some (offF1 w d h ch k1 k2 k3)
  | false => ∃ ch k1 k2 k3 k4 k5 k6 k7 t1 t2 t3 t4 v1 v2 v3 v4, s.heap.get? f = some (offF2 w d h ch k1 k2 k3 k4 k5 k6 k7 t1 t2 t3 t4 v1 v2 v3 v4)
noncomputable def hdP (T : Nat → Tup) : List Nat → Int
  | [] => 0
  | a :: _ => (T a).p
theorem off_rep {w : World} {s : Shared} {f d h a : Nat} {o1 o2 o3 o4 : Obj} (htop : TopIn w s) (hf : s.heap.get? f = some o1) (hd : s.heap.get? d = some o2) (hh : s.heap.get? h = some o3) (ha : s.heap.get? a = some o4) (hn : a ∉ [f, d, h]) (lf : 140 ≤ f) (ld : 140 ≤ d) (lh : 140 ≤ h) (fd : f ≠ d) (fh : f ≠ h) (dh : d ≠ h) :
    Rep (VV w) s [f, d, h] (mkT [(f, o1), (d, o2), (h, o3)] [(a, o4)]) 3 0 (alOf 3 [] s.heap.objs.size) (alOf 0 [] s.toks) s :=
  rep_start (V := VV w) (cs := [(f, o1), (d, o2), (h, o3)]) (rs := [(a, o4)]) htop ((allC hf (allC hd (allC hh allN)))) (by simp [fd, fh, dh]) ((allC (top_off lf) (allC (top_off ld) (allC (top_off lh) allN)))) (fun c hc => by rw [List.mem_singleton.mp hc]; exact ⟨ha, hn⟩) (by simp)
theorem dig_isDig {L : List Ent} (h : Laid1 L) (k : Int) : isDig (dig L k) := by
  unfold dig isDig
  cases e : L.find? (fun x => x.k == k) with
  | none => exact .inl rfl
  | some x =>
    have := h.vals x (List.mem_of_find?_eq_some e)
    rcases this with q | q | q
    · exact .inr (.inl (by simp [q]))
    · exact .inr (.inr (.inl (by simp [q])))
    · exact .inr (.inr (.inr (by simp [q])))
theorem corners {c : Int} (h0 : 0 ≤ c) (h5 : c ≤ 5) : c = 0 ∨ c = 1 ∨ c = 2 ∨ c = 3 ∨ c = 4 ∨ c = 5 := by omega
/-- what a put of the head makes of sums -/
theorem turn_sum {L L' : List Ent} {c pl : Int} (hL : Laid1 L) (hc : c = 0 ∨ c = 1 ∨ c = 2 ∨ c = 3 ∨ c = 4 ∨ c = 5) (hp : 0 ≤ pl) (P : PutTo L L' pl (newF c (dig L pl))) (n : Nat) (hn : pl < n) :
    rowV cvA (dig L') n - 2 * cvA (upF c (dig L pl)) * (-2) ^ pl.toNat = rowV cvA (dig L) n + cvA c * (-2) ^ pl.toNat ∧ rowV cvB (dig L') n - 2 * cvB (upF c (dig L pl)) * (-2) ^ pl.toNat = rowV cvB (dig L) n + cvB c * (-2) ^ pl.toNat := by
  have e : ((pl.toNat : Nat) : Int) = pl := Int.toNat_of_nonneg hp
  have hs := put_sum c (dig L pl) hc (dig_isDig hL pl)
  have hA := rowV_put (cv := cvA) (g := dig L) (g' := dig L') (p := pl.toNat) (v := newF c (dig L pl)) (fun k => by rw [e]; exact P.dig k) n (by omega)
  have hB := rowV_put (cv := cvB) (g := dig L) (g' := dig L') (p := pl.toNat) (v := newF c (dig L pl)) (fun k => by rw [e]; exact P.dig k) n (by omega)
  rw [e] at hA hB
  generalize ((-2 : Int) ^ pl.toNat) = z at *
  constructor
  · have h1 := congrArg (· * z) hs.1
    simp only [Int.add_mul, Int.sub_mul] at h1
    omega
  · have h1 := congrArg (· * z) hs.2
    simp only [Int.add_mul, Int.sub_mul] at h1
    omega
section
variable {w : World} {X : CxO} {p : Pos} {s : Shared} {f d h a : Nat} {rest : List Nat} {T : Nat → Tup} {L : List Ent} {R : Result → Shared → Prop}
/-- what one turn leaves -/
structure Turned (w : World) (s s' : Shared) (f d h a : Nat) (rest : List Nat) (T : Nat → Tup) (L : List Ent) (T' : Nat → Tup) (as' : List Nat) (L' : List Ent) : Prop where
  inn : OffIn w s' f d h T' as' L'
  fr : FrIn w s' f d h false
  st : Step s s' [f, d, h]
  mu : mu T' as' (dig L') (hdP T' as') < mu T (a :: rest) (dig L) (T a).p
  len : L'.length ≤ L.length + 1
  sum : ∀ n : Nat, (T a).p < n → rowV cvA (dig L') n + chipV cvA T' as' = rowV cvA (dig L) n + chipV cvA T (a :: rest) ∧ rowV cvB (dig L') n + chipV cvB T' as' = rowV cvB (dig L) n + chipV cvB T (a :: rest)
theorem turned_E (I : OffIn w s f d h T (a :: rest) L) {s' : Shared} {as' : List Nat} {L' : List Ent} (st : Step s s' [f, d, h]) (hs : ∀ g : Nat → Nat, g a + (as'.map g).sum = ((a :: rest).map g).sum) (hH : IsH (as'.map fun a => tkey (T a))) (hm : ∀ b ∈ a :: rest, tkey (T a) ≤ tkey (T b))
    (P : PutTo L L' (T a).p (newF (T a).c (dig L (T a).p))) (hu : upF (T a).c (dig L (T a).p) = 6) (hd : ∃ ed, s'.heap.get? d = some (dO L' ed)) (hh : ∃ ep, s'.heap.get? h = some (lsO as' ep)) (hf : FrIn w s' f d h false) : Turned w s s' f d h a rest T L T as' L' := by
  have hp : (a :: as').Perm (a :: rest) := perm_of_sums fun g => by rw [List.map_cons, List.sum_cons, hs]
  have sub : ∀ b ∈ as', b ∈ a :: rest := fun b hb => hp.subset (.tail _ hb)
  have hl : as'.length = rest.length := by have := hp.length_eq; simpa using this
  have h6 := I.len
  rw [List.length_cons] at h6
  have oka := I.ok a (.head _)
  have minp : ∀ b ∈ a :: rest, (T a).p ≤ (T b).p := fun b hb => by
    have h1 := hm b hb; have okb := I.ok b hb
    have := oka.o0; have := oka.o1; have := oka.c0; have := oka.c5; have := okb.o0; have := okb.o1; have := okb.c0; have := okb.c5
    unfold tkey at h1; omega
  refine ⟨⟨I.top.step st (by simp [I.lf, I.ld, I.lh]), I.lf, I.ld, I.lh, I.fd, I.fh, I.dh, hd, hh, fun b hb => ?_, fun b hb => I.ok b (sub b hb), fun b hb => I.od b (sub b hb), fun b hb => I.pl b (sub b hb), hH, by omega, P.laid, fun x hx => ?_, fun x hx b hb => ?_⟩, hf, st, mu_E (by omega) hs, P.len, fun n hn => ?_⟩
  · have := I.tup b (sub b hb)
    exact ⟨st.keep b _ this.1 this.2, this.2⟩
  · rcases P.keys x hx with q | ⟨y, hy, q⟩
    · rw [q]; exact I.pl a (.head _)
    · rw [← q]; exact I.pos y hy
  · rcases P.keys x hx with q | ⟨y, hy, q⟩
    · rw [q]; exact minp b (sub b hb)
    · rw [← q]; exact I.keys y hy b (sub b hb)
  · have h1 := turn_sum I.laid (corners oka.c0 oka.c5) (I.pl a (.head _)) P n hn
    rw [hu, show cvA 6 = 0 from rfl, show cvB 6 = 0 from rfl] at h1
    rw [chipV_pop (cv := cvA) hs, chipV_pop (cv := cvB) hs]
    generalize ((-2 : Int) ^ (T a).p.toNat) = z at *
    simp only [Int.mul_zero, Int.zero_mul, Int.sub_zero] at h1
    constructor
    · have := h1.1; omega
    · have := h1.2; omega
theorem isH_head {k0 : Int} : ∀ {ks : List Int}, IsH (k0 :: ks) → ∀ k ∈ k0 :: ks, k0 ≤ k
  | [], _, k, hk => by rw [List.mem_singleton.mp hk]; omega
  | [a], h, k, hk => by simp only [List.mem_cons, List.not_mem_nil, or_false] at hk; unfold IsH at h; rcases hk with rfl | rfl <;> omega
  | [a, b], h, k, hk => by simp only [List.mem_cons, List.not_mem_nil, or_false] at hk; unfold IsH at h; rcases hk with rfl | rfl | rfl <;> omega
  | [a, b, c], h, k, hk => by simp only [List.mem_cons, List.not_mem_nil, or_false] at hk; unfold IsH at h; rcases hk with rfl | rfl | rfl | rfl <;> omega
  | [a, b, c, d], h, k, hk => by simp only [List.mem_cons, List.not_mem_nil, or_false] at hk; unfold IsH at h; rcases hk with rfl | rfl | rfl | rfl | rfl <;> omega
  | [a, b, c, d, e], h, k, hk => by simp only [List.mem_cons, List.not_mem_nil, or_false] at hk; unfold IsH at h; rcases hk with rfl | rfl | rfl | rfl | rfl | rfl <;> omega
  | _ :: _ :: _ :: _ :: _ :: _ :: _, h, _, _ => by unfold IsH at h; exact h.elim
theorem tkey_p {x y : Tup} (hx : TupOk x) (hy : TupOk y) (h : tkey x ≤ tkey y) : x.p ≤ y.p ∧ (x.p = y.p → x.o ≤ y.o) := by
  have := hx.o0; have := hx.o1; have := hx.c0; have := hx.c5; have := hy.o0; have := hy.o1; have := hy.c0; have := hy.c5
  unfold tkey at h
  constructor
  · omega
  · intro e; omega
theorem put_rest {w : World} {s : Shared} {f d h a : Nat} {rest : List Nat} {T : Nat → Tup} {L : List Ent} (I : OffIn w s f d h T (a :: rest) L) : ∀ k : Int, (T a).p < k → dig L k = none := fun k hk => by
  unfold dig
  cases e : L.find? (fun x => x.k == k) with
  | none => rfl
  | some x =>
    have h1 := I.keys x (List.mem_of_find?_eq_some e) a (.head _)
    have h2 := List.find?_some e
    simp at h2
    omega
theorem turned_U (I : OffIn w s f d h T (a :: rest) L) {s' : Shared} {as' as2 : List Nat} {an : Nat} {x : Tup} {L' : List Ent} (st : Step s s' [f, d, h]) (hfs : f < s.heap.objs.size) (hds : d < s.heap.objs.size) (hhs : h < s.heap.objs.size) (hs : ∀ g : Nat → Nat, g a + (as'.map g).sum = ((a :: rest).map g).sum) (hs2 : ∀ g : Nat → Nat, (as2.map g).sum = g an + (as'.map g).sum) (hnew : s.heap.objs.size ≤ an)
    (hH : IsH (as2.map fun b => tkey (if b = an then x else T b))) (hm : ∀ b ∈ a :: rest, tkey (T a) ≤ tkey (T b))
    (P : PutTo L L' (T a).p (newF (T a).c (dig L (T a).p))) (hu : upF (T a).c (dig L (T a).p) < 6) (xp : x.p = (T a).p + 1) (xc : x.c = upF (T a).c (dig L (T a).p)) (xo : x.o = x.c % 2) (hx : s'.heap.get? an = some (tupO x))
    (hd : ∃ ed, s'.heap.get? d = some (dO L' ed)) (hh : ∃ ep, s'.heap.get? h = some (lsO as2 ep)) (hf : FrIn w s' f d h false) : Turned w s s' f d h a rest T L (fun b => if b = an then x else T b) as2 L' := by
  have hp : (a :: as').Perm (a :: rest) := perm_of_sums fun g => by rw [List.map_cons, List.sum_cons, hs]
  have hp2 : as2.Perm (an :: as') := perm_of_sums fun g => by rw [List.map_cons, List.sum_cons, hs2]
  have sub : ∀ b ∈ as', b ∈ a :: rest := fun b hb => hp.subset (.tail _ hb)
  have hl : as'.length = rest.length := by have := hp.length_eq; simpa using this
  have hl2 : as2.length = as'.length + 1 := by have := hp2.length_eq; simpa using this
  have h6 := I.len
  rw [List.length_cons] at h6
  have oka := I.ok a (.head _)
  have minp : ∀ b ∈ a :: rest, (T a).p ≤ (T b).p ∧ ((T a).p = (T b).p → (T a).o ≤ (T b).o) := fun b hb => tkey_p oka (I.ok b hb) (hm b hb)
  have hn : an ∉ as' := fun q => by
    exact absurd (Heap.lt_size (I.tup an (sub an q)).1) (Nat.not_lt.mpr hnew)
  have hT : ∀ b ∈ as', (if b = an then x else T b) = T b := fun b hb => if_neg fun (q : b = an) => hn (q ▸ hb)
  have m2 : ∀ b ∈ as2, b = an ∨ b ∈ as' := fun b hb => List.mem_cons.mp (hp2.subset hb)
  have pu := put_up (T a).c (dig L (T a).p) (corners oka.c0 oka.c5) (dig_isDig I.laid _)
  have okx : TupOk x := ⟨by rw [xo]; omega, by rw [xo]; omega, by rw [xc]; exact pu.1.1, by rw [xc]; omega⟩
  have ok2 : ∀ b ∈ as2, TupOk (if b = an then x else T b) := fun b hb => by
    rcases m2 b hb with rfl | q
    · rw [if_pos rfl]; exact okx
    · rw [hT b q]; exact I.ok b (sub b q)
  have pge : ∀ b ∈ as2, (T a).p ≤ (if b = an then x else T b).p := fun b hb => by
    rcases m2 b hb with rfl | q
    · rw [if_pos rfl, xp]; omega
    · rw [hT b q]; exact (minp b (sub b q)).1
  have pa := I.pl a (.head _)
  refine ⟨⟨I.top.step st (by simp [I.lf, I.ld, I.lh]), I.lf, I.ld, I.lh, I.fd, I.fh, I.dh, hd, hh, fun b hb => ?_, ok2, fun b hb => ?_, fun b hb => ?_, hH, by omega, P.laid, fun y hy => ?_, fun y hy b hb => ?_⟩, hf, st, ?_, P.len, fun n hn' => ?_⟩
  · rcases m2 b hb with rfl | q
    · rw [if_pos rfl]
      refine ⟨hx, fun z => ?_⟩
      have k1 : f ≠ b := fun e => absurd hfs (by rw [e]; omega)
      have k2 : d ≠ b := fun e => absurd hds (by rw [e]; omega)
      have k3 : h ≠ b := fun e => absurd hhs (by rw [e]; omega)
      rcases List.mem_cons.mp z with z | z
      · exact k1 z.symm
      rcases List.mem_cons.mp z with z | z
      · exact k2 z.symm
      · exact k3 (List.mem_singleton.mp z).symm
    · rw [hT b q]
      have := I.tup b (sub b q)
      exact ⟨st.keep b _ this.1 this.2, this.2⟩
  · rcases m2 b hb with rfl | q
    · rw [if_pos rfl]; exact xo
    · rw [hT b q]; exact I.od b (sub b q)
  · exact Int.le_trans pa (pge b hb)
  · rcases P.keys y hy with q | ⟨z, hz, q⟩
    · rw [q]; exact pa
    · rw [← q]; exact I.pos z hz
  · rcases P.keys y hy with q | ⟨z, hz, q⟩
    · rw [q]; exact pge b hb
    · rw [← q]
      exact Int.le_trans (I.keys z hz a (.head _)) (pge b hb)
  · match as2, hl2, hH, ok2, hs2, m2, pge with
    | b0 :: r2, _, hH, ok2, hs2, m2, pge =>
      have hh0 := isH_head (k0 := tkey (if b0 = an then x else T b0)) (ks := r2.map fun b => tkey (if b = an then x else T b)) hH
      refine mu_U (g := dig L) (g' := dig L') (new := newF (T a).c (dig L (T a).p)) (by omega) hs hs2 hn xp rfl (fun b hb => (minp b hb).1) (fun h1 b hb h2 h3 => ?_) P.dig (put_rest I) (fun h1 => ?_) b0 (.head _) rfl (fun b hb => ?_)
      · have := (minp b hb).2 h2.symm
        have := oka.o0
        omega
      · have h3 := pu.2.1 h1
        have h4 := pu.2.2.1 h1
        have h5 := I.od a (.head _)
        have h7 := pu.2.2.2.1 h1
        have hcc : (T a).c % 2 = 1 := by
          rcases Int.emod_two_eq (T a).c with q | q
          · have := h3 q; omega
          · exact q
        refine ⟨by omega, ?_, h7⟩
        rw [xo, xc]
        exact h4 hcc hu
      · exact (tkey_p (ok2 b0 (.head _)) (ok2 b hb) (hh0 _ (List.mem_map_of_mem (f := fun b => tkey (if b = an then x else T b)) hb))).1
  · have h1 := turn_sum I.laid (corners oka.c0 oka.c5) pa P n hn'
    rw [chipV_pop (cv := cvA) hs, chipV_pop (cv := cvB) hs, chipV_push (cv := cvA) hs2 hn, chipV_push (cv := cvB) hs2 hn, xc, xp]
    have ez : ((-2 : Int) ^ ((T a).p + 1).toNat) = (-2) ^ (T a).p.toNat * (-2) := by
      rw [show ((T a).p + 1).toNat = (T a).p.toNat + 1 by omega, Int.pow_succ]
    rw [ez]
    generalize ((-2 : Int) ^ (T a).p.toNat) = z at *
    rw [← Int.mul_assoc, ← Int.mul_assoc]
    rw [Int.mul_assoc 2, Int.mul_assoc 2] at h1
    generalize cvA (upF (T a).c (dig L (T a).p)) * z = z1 at *
    generalize cvB (upF (T a).c (dig L (T a).p)) * z = z2 at *
    constructor
    · have := h1.1; omega
    · have := h1.2; omega
end
end Mine
namespace Mine
open PySem PySem.W PySem.W.X
open Sem (wp finPost)
/-! the loop of _law_off_a_heap, all turns -/
noncomputable def RowIs (L : List Ent) (SA SB : Int) : Prop := ∃ n0 : Nat, ∀ n : Nat, n0 ≤ n → rowV cvA (dig L) n = SA ∧ rowV cvB (dig L) n = SB
noncomputable def RowC (L : List Ent) (T : Nat → Tup) (as : List Nat) (SA SB : Int) : Prop := ∃ n0 : Nat, ∀ n : Nat, n0 ≤ n → rowV cvA (dig L) n + chipV cvA T as = SA ∧ rowV cvB (dig L) n + chipV cvB T as = SB
noncomputable def offR (w : World) (s₀ : Shared) (f d h : Nat) (SA SB : Int) (r : Result) (s' : Shared) : Prop :=
  r = .ok .next ∧ Step s₀ s' [f, d, h] ∧ FrIn w s' f d h false ∧ (∃ ep, s'.heap.get? h = some (lsO [] ep)) ∧ ∃ L ed, s'.heap.get? d = some (dO L ed) ∧ Laid1 L ∧ (∀ x ∈ L, 0 ≤ x.k) ∧ RowIs L SA SB
section
variable {w : World} {X : CxO} {f d h : Nat} {s₀ : Shared} {SA SB : Int}
theorem rowC_turn {w : World} {s s' : Shared} {a : Nat} {rest : List Nat} {T : Nat → Tup} {L : List Ent} {T' : Nat → Tup} {as' : List Nat} {L' : List Ent} (t : Turned w s s' f d h a rest T L T' as' L') (h : RowC L T (a :: rest) SA SB) : RowC L' T' as' SA SB := by
  obtain ⟨n0, hn⟩ := h
  refine ⟨max n0 ((T a).p.toNat + 1), fun n hm => ?_⟩
  have h1 := t.sum n (by omega)
  have h2 := hn n (by omega)
  exact ⟨h1.1.trans h2.1, h1.2.trans h2.2⟩
theorem off_loop : ∀ (n : Nat) (T : Nat → Tup) (as : List Nat) (L : List Ent) (b : Bool) (p : Pos) (s : Shared), mu T as (dig L) (hdP T as) < n → OffIn w s f d h T as L → FrIn w s f d h b → (as = [] → b = false) → Step s₀ s [f, d, h] → L.length + n ≤ 1000 → RowC L T as SA SB →
    wpCode (model prog w) (X.ctx (offLoop f)) (offR w s₀ f d h SA SB) p s := by
  intro n
  induction n with
  | zero => intro T as L b p s h; omega
  | succ n ih =>
    intro T as L b p s hmu I hF hb st hz hrow
    obtain ⟨ed, hd⟩ := I.dd
    obtain ⟨ep, hh⟩ := I.hh
    match as, hmu, I, hb, hrow, hh with
    | [], hmu, I, hb, hrow, hh =>
      rw [hb rfl] at hF
      obtain ⟨ch, k1, k2, k3, k4, k5, k6, k7, t1, t2, t3, t4, v1, v2, v3, v4, hf⟩ := hF
      have D0 := rep_start (V := VV w) (s := s) (cs := [(f, offF2 w d h ch k1 k2 k3 k4 k5 k6 k7 t1 t2 t3 t4 v1 v2 v3 v4), (d, dO L ed), (h, lsO [] ep)]) (rs := []) I.top ((allC hf (allC hd (allC hh allN)))) (by simp [I.fd, I.fh, I.dh]) ((allC (top_off I.lf) (allC (top_off I.ld) (allC (top_off I.lh) allN)))) (fun c hc => by cases hc) (by simp)
      refine run_mix (isM w) (skip_ok _ w) D0 (run_offX w X p f d h ch ep ed k1 k2 k3 k4 k5 k6 k7 t1 t2 t3 t4 v1 v2 v3 v4 L (T 0) 0 0 [] _ _) (fun s' hn hc => ?_)
      obtain ⟨n0, hn0⟩ := hrow
      exact ⟨rfl, st.trans hn.step |>.mono (by simp), ⟨_, _, _, _, _, _, _, _, _, _, _, _, _, _, _, _, hc.1⟩, ⟨_, hc.2.2.1⟩, L, ed, hc.2.1, I.laid, I.pos, n0, fun n hn => by have := hn0 n hn; simpa [chipV, isum] using this⟩
    | a :: rest, hmu, I, hb, hrow, hh =>
      have oka := I.ok a (.head _)
      have h6 : rest.length ≤ 5 := by have := I.len; rw [List.length_cons] at this; omega
      have hta := I.tup a (.head _)
      have hz1 : L.length ≤ 1000 := by omega
      have c6 : (T a).c < 6 := by have := oka.c5; omega
      have hA : h ∈ [f, d, h] := by simp
      have pu := put_up (T a).c (dig L (T a).p) (corners oka.c0 oka.c5) (dig_isDig I.laid _)
      have next : ∀ {s' : Shared} {T' : Nat → Tup} {as' : List Nat} {L' : List Ent} {p' : Pos}, Turned w s s' f d h a rest T L T' as' L' → wpCode (model prog w) (X.ctx (offLoop f)) (offR w s₀ f d h SA SB) p' s' := fun {s' T' as' L' p'} t => by
        have h1 := t.mu
        have h2 := t.len
        have h3 : hdP T (a :: rest) = (T a).p := rfl
        rw [h3] at hmu
        exact ih T' as' L' false p' s' (by omega) t.inn t.fr (fun _ => rfl) (st.trans t.st |>.mono (by simp)) (by omega) (rowC_turn t hrow)
      have nextU : ∀ {s' : Shared} {as' as2 : List Nat} {L' : List Ent} {p' : Pos} {an t1 t2 t3 : Nat} {ed' ep' : Nat}, upF (T a).c (dig L (T a).p) < 6 → Step s s' [f, d, h] → (∀ g : Nat → Nat, g a + (as'.map g).sum = ((a :: rest).map g).sum) → (∀ g : Nat → Nat, (as2.map g).sum = g an + (as'.map g).sum) → s.heap.objs.size ≤ an → IsH (as2.map fun b => tkey (if b = an then (⟨(T a).p + 1, Int.fmod (upF (T a).c (dig L (T a).p)) 2, upF (T a).c (dig L (T a).p), t1, t2, t3⟩ : Tup) else T b)) → (∀ b ∈ a :: rest, tkey (T a) ≤ tkey (T b)) → PutTo L L' (T a).p (newF (T a).c (dig L (T a).p)) →
          s'.heap.get? an = some (tupO ⟨(T a).p + 1, Int.fmod (upF (T a).c (dig L (T a).p)) 2, upF (T a).c (dig L (T a).p), t1, t2, t3⟩) → s'.heap.get? d = some (dO L' ed') → s'.heap.get? h = some (lsO as2 ep') → FrIn w s' f d h false → wpCode (model prog w) (X.ctx (offLoop f)) (offR w s₀ f d h SA SB) p' s' :=
        fun {s' as' as2 L' p' an t1 t2 t3 ed' ep'} hu st' hs hs2 hnew hH hm P hx hd' hh' hf' =>
          next (turned_U I st' (by obtain (_ | _) := b; (obtain ⟨_, _, _, _, _, _, _, _, _, _, _, _, _, _, _, _, hf⟩ := hF; exact Heap.lt_size hf); (obtain ⟨_, _, _, _, hf⟩ := hF; exact Heap.lt_size hf)) (Heap.lt_size hd) (Heap.lt_size hh) hs hs2 hnew hH hm P hu rfl rfl (fmod_two _) hx ⟨_, hd'⟩ ⟨_, hh'⟩ hf')
      have fresh : ∀ {an : Nat} {as' : List Nat}, s.heap.objs.size ≤ an → (∀ g : Nat → Nat, g a + (as'.map g).sum = ((a :: rest).map g).sum) → an ∉ as' ∧ (∀ b ∈ as', b ∈ a :: rest) ∧ as'.length = rest.length := fun {an as'} hnew hs => by
        have hp : (a :: as').Perm (a :: rest) := perm_of_sums fun g => by rw [List.map_cons, List.sum_cons, hs]
        have sub : ∀ b ∈ as', b ∈ a :: rest := fun b hb => hp.subset (.tail _ hb)
        exact ⟨fun q => absurd (Heap.lt_size (I.tup an (sub an q)).1) (Nat.not_lt.mpr hnew), sub, by have := hp.length_eq; simpa using this⟩
      by_cases hu : upF (T a).c (dig L (T a).p) = 6
      · obtain (_ | _) := b
        · obtain ⟨ch, k1, k2, k3, k4, k5, k6, k7, t1, t2, t3, t4, v1, v2, v3, v4, hf⟩ := hF
          have D0 := off_rep I.top hf hd hh hta.1 hta.2 I.lf I.ld I.lh I.fd I.fh I.dh
          exact run_mix (isM w) (skip_ok _ w) D0 (run_offE2 w X p f d h ch ep ed k1 k2 k3 k4 k5 k6 k7 t1 t2 t3 t4 v1 v2 v3 v4 L (T a) 6 a rest _ _)
            (okr_popH I.lh I.tup hA I.ok h6 (by decide) I.hp fun al1 tk1 s1 H1 m1 => okr_putH I.ld I.laid hz1 oka.c0 c6 hu (by decide) fun al2 tk2 P => okr_lt false rfl rfl fun al3 tk3 => fun p' s' hn hc =>
              next (turned_E I hn.step s1 H1 m1 P hu ⟨_, hc.2.1⟩ ⟨_, hc.2.2.1⟩ ⟨_, _, _, _, _, _, _, _, _, _, _, _, _, _, _, _, hc.1⟩))
        · obtain ⟨ch, k1, k2, k3, hf⟩ := hF
          have D0 := off_rep I.top hf hd hh hta.1 hta.2 I.lf I.ld I.lh I.fd I.fh I.dh
          exact run_mix (isM w) (skip_ok _ w) D0 (run_offE1 w X p f d h ch ep ed k1 k2 k3 L (T a) 6 a rest _ _)
            (okr_popH I.lh I.tup hA I.ok h6 (by decide) I.hp fun al1 tk1 s1 H1 m1 => okr_putH I.ld I.laid hz1 oka.c0 c6 hu (by decide) fun al2 tk2 P => okr_lt false rfl rfl fun al3 tk3 => fun p' s' hn hc =>
              next (turned_E I hn.step s1 H1 m1 P hu ⟨_, hc.2.1⟩ ⟨_, hc.2.2.1⟩ ⟨_, _, _, _, _, _, _, _, _, _, _, _, _, _, _, _, hc.1⟩))
      · have hu6 : upF (T a).c (dig L (T a).p) < 6 := by have := pu.1.2; omega
        have hq : decide (upF (T a).c (dig L (T a).p) < 6) = true := decide_eq_true hu6
        obtain (_ | _) := b
        · obtain ⟨ch, k1, k2, k3, k4, k5, k6, k7, t1, t2, t3, t4, v1, v2, v3, v4, hf⟩ := hF
          have D0 := off_rep I.top hf hd hh hta.1 hta.2 I.lf I.ld I.lh I.fd I.fh I.dh
          refine run_mix (isM w) (skip_ok _ w) D0 (run_offU2 w X p f d h ch ep ed k1 k2 k3 k4 k5 k6 k7 t1 t2 t3 t4 v1 v2 v3 v4 L (T a) (upF (T a).c (dig L (T a).p)) a rest _ _)
            (okr_popH I.lh I.tup hA I.ok h6 (by decide) I.hp fun al1 tk1 s1 H1 m1 => okr_putH I.ld I.laid hz1 oka.c0 c6 rfl (by decide) fun al2 tk2 P => okr_lt true hq rfl fun al3 tk3 => okr_addI rfl fun al4 tk4 => okr_modF rfl rfl fun al5 tk5 hfr => ?_)
          have fr := fresh (hfr 0) s1
          exact okr_pushH (T := T) I.lh (fun b hb => I.tup b (fr.2.1 b hb)) hA (fun b hb => I.ok b (fr.2.1 b hb)) ⟨by dsimp only; rw [fmod_two]; omega, by dsimp only; rw [fmod_two]; omega, pu.1.1, by dsimp only; omega⟩ fr.1 (by omega) (by decide) H1 fun al6 tk6 s6 H6 => fun p' s' hn hc =>
            nextU hu6 hn.step s1 s6 (hfr 0) H6 m1 P hc.2.2.2.1 hc.2.1 hc.2.2.1 ⟨_, _, _, _, _, _, _, _, _, _, _, _, _, _, _, _, hc.1⟩
        · obtain ⟨ch, k1, k2, k3, hf⟩ := hF
          have D0 := off_rep I.top hf hd hh hta.1 hta.2 I.lf I.ld I.lh I.fd I.fh I.dh
          refine run_mix (isM w) (skip_ok _ w) D0 (run_offU1 w X p f d h ch ep ed k1 k2 k3 L (T a) (upF (T a).c (dig L (T a).p)) a rest _ _)
            (okr_popH I.lh I.tup hA I.ok h6 (by decide) I.hp fun al1 tk1 s1 H1 m1 => okr_putH I.ld I.laid hz1 oka.c0 c6 rfl (by decide) fun al2 tk2 P => okr_lt true hq rfl fun al3 tk3 => okr_addI rfl fun al4 tk4 => okr_modF rfl rfl fun al5 tk5 hfr => ?_)
          have fr := fresh (hfr 0) s1
          exact okr_pushH (T := T) I.lh (fun b hb => I.tup b (fr.2.1 b hb)) hA (fun b hb => I.ok b (fr.2.1 b hb)) ⟨by dsimp only; rw [fmod_two]; omega, by dsimp only; rw [fmod_two]; omega, pu.1.1, by dsimp only; omega⟩ fr.1 (by omega) (by decide) H1 fun al6 tk6 s6 H6 => fun p' s' hn hc =>
            nextU hu6 hn.step s1 s6 (hfr 0) H6 m1 P hc.2.2.2.1 hc.2.1 hc.2.2.1 ⟨_, _, _, _, _, _, _, _, _, _, _, _, _, _, _, _, hc.1⟩
end
end Mine
namespace Mine
open PySem PySem.W PySem.W.X
open Sem (wp finPost)
/-! _law_off_a_heap -/
noncomputable def prO (c : Int) (tc : Nat) (p : Int) (tp : Nat) : Obj := { cls := .type "tuple", data := .seq #[.int c tc, .int p tp] 0 }
noncomputable def offC (ch : Nat) : Code := .call (.ref 127) ⟨[.ref ch], []⟩
noncomputable def offO (X : CxL) (f : Nat) (p2 : Pos) : CxO := { e2 := envF (st 15) "_law_off_a_heap.<locals>." 127 f, e3 := X.e3, b2 := fnBody (st 15), b3 := X.b3, p2 := p2, p3 := X.p3, p4 := X.p4 }
noncomputable def oFy (ep : Nat) : Orc := { ctx := true, sel := [3, 8, 12, 16, 20, 24, 28], r := (fun _ _ _ _ _ => .ok (.ret .none)), upd := (fun _ _ i _ tk => [some (lsO (decN (tk i)) ep)]), di := 1 }
noncomputable def oLp (w : World) (d h : Nat) : Orc := { ctx := true, sel := [0, 1, 3, 8, 12, 16, 20, 24, 28], r := (fun _ _ _ _ _ => .ok .next), upd := (fun _ _ i _ tk => [some (offF2 w d h (tk i) (tk (i + 1)) (tk (i + 2)) (tk (i + 3)) (tk (i + 4)) (tk (i + 5)) (tk (i + 6)) (tk (i + 7)) (tk (i + 8)) (tk (i + 9)) (tk (i + 10)) (tk (i + 11)) (decI (tk (i + 12))) (decI (tk (i + 13))) (decI (tk (i + 14))) (decI (tk (i + 15)))), some (dO (decL (tk (i + 16))) (tk (i + 17))), some (lsO [] (tk (i + 18)))]), di := 19 }
theorem tupO_inj {x y : Tup} (h : tupO x = tupO y) : x = y := by
  have e : Data.seq #[.int x.p x.tp, .int x.o x.to, .int x.c x.tc] 0 = Data.seq #[.int y.p y.tp, .int y.o y.to, .int y.c y.tc] 0 := congrArg Obj.data h
  obtain ⟨a, b, c, d, e', f⟩ := x
  obtain ⟨a', b', c', d', e'', f'⟩ := y
  simp at e
  obtain ⟨⟨rfl, rfl⟩, ⟨rfl, rfl⟩, rfl, rfl⟩ := e
  rfl
/-- the chip that lies at an address -/
noncomputable def tupAt (s : Shared) (a : Nat) : Tup := open Classical in if h : ∃ x, s.heap.get? a = some (tupO x) then Classical.choose h else ⟨0, 0, 0, 0, 0, 0⟩
theorem tupAt_eq {s : Shared} {a : Nat} {x : Tup} (h : s.heap.get? a = some (tupO x)) : tupAt s a = x := by
  have h' : ∃ x, s.heap.get? a = some (tupO x) := ⟨x, h⟩
  unfold tupAt
  rw [dif_pos h']
  have := Classical.choose_spec h'
  exact (tupO_inj (Option.some.inj (h.symm.trans this))).symm
theorem mem6 {P : Nat → Prop} {a0 a1 a2 a3 a4 a5 : Nat} (h0 : P a0) (h1 : P a1) (h2 : P a2) (h3 : P a3) (h4 : P a4) (h5 : P a5) : ∀ a ∈ [a0, a1, a2, a3, a4, a5], P a := fun a ha => by
  simp only [List.mem_cons, List.not_mem_nil, or_false] at ha
  rcases ha with rfl | rfl | rfl | rfl | rfl | rfl <;> assumption
section
variable {w : World} {s₀ : Shared} {A₀ : List Addr} {R : Result → Shared → Prop} {m i : Nat} {next : (Nat → Nat) → (Nat → Nat) → RLog} {a0 a1 a2 a3 a4 a5 : Nat} {x0 x1 x2 x3 x4 x5 : Tup}
theorem okr_fy {X : CxO} {p0 : Pos} {h ep : Nat} (hl : 140 ≤ h) (k0 : TupOk x0) (k1 : TupOk x1) (k2 : TupOk x2) (k3 : TupOk x3) (k4 : TupOk x4) (k5 : TupOk x5) (hm : m ≤ 1000)
    (ok : ∀ al tk (T : Nat → Tup), T a0 = x0 → T a1 = x1 → T a2 = x2 → T a3 = x3 → T a4 = x4 → T a5 = x5 → (∀ f : Nat → Nat, ((decN (tk i)).map f).sum = ([a0, a1, a2, a3, a4, a5].map f).sum) → IsH ((decN (tk i)).map fun a => tkey (T a)) → OkR (VV w) (model prog w) s₀ A₀ R (next al tk)) :
    OkR (VV w) (model prog w) s₀ A₀ R (.call (.fn 42 [.ref h]) (some (X.ctx (fyC h), p0)) m i [some (h, lsO [a0, a1, a2, a3, a4, a5] ep), some (a0, tupO x0), some (a1, tupO x1), some (a2, tupO x2), some (a3, tupO x3), some (a4, tupO x4), some (a5, tupO x5)] (oFy ep) next) := by
  refine okr_gen fun c Γ p e1 e2 e3 s hnow hc => ?_
  obtain ⟨rfl, rfl⟩ := Prod.mk.inj (e3 _ rfl)
  refine viaG fun G hG => ?_
  obtain ⟨hh, g0, g1, g2, g3, g4, g5, _⟩ := hc
  dsimp only at hh g0 g1 g2 g3 g4 g5
  have T0 := tupAt_eq g0; have T1 := tupAt_eq g1; have T2 := tupAt_eq g2; have T3 := tupAt_eq g3; have T4 := tupAt_eq g4; have T5 := tupAt_eq g5
  have hne : ∀ {a : Nat} {x : Tup}, s.heap.get? a = some (tupO x) → a ∉ [h] := fun {a x} e q => by
    rw [List.mem_singleton.mp q, hh] at e
    exact lsO_ne_tupO (Option.some.inj e)
  have H' : HeapIn w s h (tupAt s) [a0, a1, a2, a3, a4, a5] ep := ⟨hnow.top, hl, hh, mem6 (P := fun a => s.heap.get? a = some (tupO (tupAt s a)) ∧ a ∉ [h]) ⟨by rw [T0]; exact g0, hne g0⟩ ⟨by rw [T1]; exact g1, hne g1⟩ ⟨by rw [T2]; exact g2, hne g2⟩ ⟨by rw [T3]; exact g3, hne g3⟩ ⟨by rw [T4]; exact g4, hne g4⟩ ⟨by rw [T5]; exact g5, hne g5⟩,
    mem6 (P := fun a => TupOk (tupAt s a)) (by rw [T0]; exact k0) (by rw [T1]; exact k1) (by rw [T2]; exact k2) (by rw [T3]; exact k3) (by rw [T4]; exact k4) (by rw [T5]; exact k5)⟩
  obtain ⟨L', s', hr, hg, st, hs, hk⟩ := fy_ret (X := X) (p := p0) H' rfl
  have t0 : alOf i [encN L'] s'.toks i = encN L' := alOf_at i [encN L'] _ 0 (by simp)
  refine hG ⟨s', [], [encN L'], rfl, rfl, _, _, rfl, rfl, hr, rfl, ?_, st, ⟨rfl, by simpa [oFy] using hm, fun k ob e => (by cases e), fun k hk => (by cases hk), fun k k' hk => (by cases hk)⟩, fun k a ob e => (by cases e), ok _ _ (tupAt s) T0 T1 T2 T3 T4 T5 ?_ ?_⟩
  · show s'.heap.get? h = some (lsO (decN (alOf i [encN L'] s'.toks i)) ep) ∧ True
    rw [t0, decN_enc]; exact ⟨hg, trivial⟩
  · rw [t0, decN_enc]; exact hs
  · rw [t0, decN_enc]; exact hk
theorem frO_ne_tupO {w : World} {l : List (String × Nat × Value)} {n : Nat} {x : Tup} (h : frO w l n = tupO x) : False := by
  have e : Value.type "frame" = Value.type "tuple" := congrArg Obj.cls h
  injection e with e
  exact absurd e (by decide)
theorem dO_ne_tupO {L : List Ent} {n : Nat} {x : Tup} (h : dO L n = tupO x) : False := by
  have e : Value.type "dict" = Value.type "tuple" := congrArg Obj.cls h
  injection e with e
  exact absurd e (by decide)
theorem okr_lp {X : CxO} {p0 : Pos} {f d h ch k1 k2 k3 : Nat} {as : List Nat} {T : Nat → Tup} {SA SB : Int} (lf : 140 ≤ f) (ld : 140 ≤ d) (lh : 140 ≤ h) (fd : f ≠ d) (fh : f ≠ h) (dh : d ≠ h) (hm : m ≤ 1000)
    (T0 : T a0 = x0) (T1 : T a1 = x1) (T2 : T a2 = x2) (T3 : T a3 = x3) (T4 : T a4 = x4) (T5 : T a5 = x5) (hs : ∀ g : Nat → Nat, (as.map g).sum = ([a0, a1, a2, a3, a4, a5].map g).sum) (hH : IsH (as.map fun a => tkey (T a)))
    (hok : ∀ a ∈ [a0, a1, a2, a3, a4, a5], TupOk (T a) ∧ (T a).o = (T a).c % 2 ∧ 0 ≤ (T a).p) (hA : chipV cvA T [a0, a1, a2, a3, a4, a5] = SA) (hB : chipV cvB T [a0, a1, a2, a3, a4, a5] = SB)
    (ok : ∀ al tk, Laid1 (decL (tk (i + 16))) → (∀ x ∈ decL (tk (i + 16)), 0 ≤ x.k) → RowIs (decL (tk (i + 16))) SA SB → OkR (VV w) (model prog w) s₀ A₀ R (next al tk)) :
    OkR (VV w) (model prog w) s₀ A₀ R (.call (.other (offLoop f)) (some (X.ctx (offLoop f), p0)) m i [some (f, offF1 w d h ch k1 k2 k3), some (d, dO [] 0), some (h, lsO as 6), some (a0, tupO x0), some (a1, tupO x1), some (a2, tupO x2), some (a3, tupO x3), some (a4, tupO x4), some (a5, tupO x5)] (oLp w d h) next) := by
  refine okr_gen fun c Γ p e1 e2 e3 s hnow hc => ?_
  obtain ⟨rfl, rfl⟩ := Prod.mk.inj (e3 _ rfl)
  refine viaG fun G hG => ?_
  obtain ⟨hf, hd, hh, g0, g1, g2, g3, g4, g5, _⟩ := hc
  dsimp only at hf hd hh g0 g1 g2 g3 g4 g5
  have hp : as.Perm [a0, a1, a2, a3, a4, a5] := perm_of_sums hs
  have sub : ∀ b ∈ as, b ∈ [a0, a1, a2, a3, a4, a5] := fun b hb => hp.subset hb
  have hlen : as.length = 6 := hp.length_eq
  have hne : ∀ {a : Nat} {x : Tup}, s.heap.get? a = some (tupO x) → a ∉ [f, d, h] := fun {a x} e q => by
    rcases List.mem_cons.mp q with q | q
    · rw [q, hf] at e; exact frO_ne_tupO (Option.some.inj e)
    rcases List.mem_cons.mp q with q | q
    · rw [q, hd] at e; exact dO_ne_tupO (Option.some.inj e)
    · rw [List.mem_singleton.mp q, hh] at e; exact lsO_ne_tupO (Option.some.inj e)
  have tup := mem6 (P := fun a => s.heap.get? a = some (tupO (T a)) ∧ a ∉ [f, d, h]) (a0 := a0) (a1 := a1) (a2 := a2) (a3 := a3) (a4 := a4) (a5 := a5) ⟨by rw [T0]; exact g0, hne g0⟩ ⟨by rw [T1]; exact g1, hne g1⟩ ⟨by rw [T2]; exact g2, hne g2⟩ ⟨by rw [T3]; exact g3, hne g3⟩ ⟨by rw [T4]; exact g4, hne g4⟩ ⟨by rw [T5]; exact g5, hne g5⟩
  have I : OffIn w s f d h T as [] := ⟨hnow.top, lf, ld, lh, fd, fh, dh, ⟨_, hd⟩, ⟨_, hh⟩, fun a ha => tup a (sub a ha), fun a ha => (hok a (sub a ha)).1, fun a ha => (hok a (sub a ha)).2.1, fun a ha => (hok a (sub a ha)).2.2, hH, by omega, ⟨by simp, fun x hx => (by cases hx)⟩, fun x hx => (by cases hx), fun x hx => (by cases hx)⟩
  have row0 : ∀ (cv : Int → Int) (n : Nat), rowV cv (dig []) n = 0 := fun cv n => by
    induction n with
    | zero => rfl
    | succ n ih => unfold rowV; rw [ih]; show 0 + 0 * _ = (0 : Int); omega
  have hrow : RowC [] T as SA SB := ⟨0, fun n _ => by
    rw [row0, row0, ← hA, ← hB]
    have p1 := isum_perm (hp.map fun a => cvA (T a).c * (-2) ^ (T a).p.toNat)
    have p2 := isum_perm (hp.map fun a => cvB (T a).c * (-2) ^ (T a).p.toNat)
    unfold chipV
    rw [p1, p2]
    exact ⟨Int.zero_add _, Int.zero_add _⟩⟩
  have hmu : mu T as (dig []) (hdP T as) < 300 := by
    have h1 := nP_le T as (hdP T as)
    have h2 := rk_le T as (dig []) (hdP T as)
    unfold mu; omega
  obtain ⟨r', s', hr', rfl, st, hF, ⟨ep', hh'⟩, L, ed, hd', hL, hpos, hR⟩ := off_loop (w := w) (X := X) (f := f) (d := d) (h := h) (s₀ := s) (SA := SA) (SB := SB) 300 T as [] true p0 s hmu I ⟨_, _, _, _, hf⟩ (fun e => by rw [e] at hlen; cases hlen) ((Step.refl s).mono (by simp)) (by simp) hrow
  obtain ⟨ch', k1', k2', k3', k4', k5', k6', k7', t1', t2', t3', t4', v1', v2', v3', v4', hf'⟩ := hF
  let ts : List Nat := [ch', k1', k2', k3', k4', k5', k6', k7', t1', t2', t3', t4', encI v1', encI v2', encI v3', encI v4', encN (encE L), ed, ep']
  have tk : ∀ k, k < 19 → alOf i ts s'.toks (i + k) = ts.getD k 0 := fun k hk => alOf_at i ts _ k (by simpa [ts] using hk)
  have t0 := tk 0 (by decide); have t1 := tk 1 (by decide); have t2 := tk 2 (by decide); have t3 := tk 3 (by decide); have t4 := tk 4 (by decide)
  have t5 := tk 5 (by decide); have t6 := tk 6 (by decide); have t7 := tk 7 (by decide); have t8 := tk 8 (by decide); have t9 := tk 9 (by decide)
  have t10 := tk 10 (by decide); have t11 := tk 11 (by decide); have t12 := tk 12 (by decide); have t13 := tk 13 (by decide); have t14 := tk 14 (by decide)
  have t15 := tk 15 (by decide); have t16 := tk 16 (by decide); have t17 := tk 17 (by decide); have t18 := tk 18 (by decide)
  have hu : (oLp w d h).upd c m i (alOf m [] s'.heap.objs.size) (alOf i ts s'.toks) = [some (offF2 w d h ch' k1' k2' k3' k4' k5' k6' k7' t1' t2' t3' t4' v1' v2' v3' v4'), some (dO L ed), some (lsO [] ep')] := by
    simp only [oLp, Nat.add_zero] at t0 ⊢
    rw [t0, t1, t2, t3, t4, t5, t6, t7, t8, t9, t10, t11, t12, t13, t14, t15, t16, t17, t18]
    show [some (offF2 w d h ch' k1' k2' k3' k4' k5' k6' k7' t1' t2' t3' t4' (decI (encI v1')) (decI (encI v2')) (decI (encI v3')) (decI (encI v4'))), some (dO (decL (encN (encE L))) ed), some (lsO [] ep')] = _
    rw [decI_enc, decI_enc, decI_enc, decI_enc, decL_enc]
  have eL : decL (alOf i ts s'.toks (i + 16)) = L := by rw [t16]; exact decL_enc L
  refine hG ⟨s', [], ts, rfl, rfl, _, _, rfl, rfl, hr', ?_, ?_, ?_, ⟨rfl, by simpa [oLp] using hm, fun k ob e => (by cases e), fun k hk => (by cases hk), fun k k' hk => (by cases hk)⟩, fun k a ob e => (by cases e), ok _ _ ?_ ?_ ?_⟩
  · rw [hu]; rfl
  · rw [hu]; exact ⟨hf', hd', hh', trivial⟩
  · rw [hu]; exact st
  · rw [eL]; exact hL
  · rw [eL]; exact hpos
  · rw [eL]; exact hR
end
noncomputable def trOffF : List Nat := [127, 126, 256, 256, 2, 256, 256, 256, 1256, 1256, 0, 1256, 258, 258, 258, 0, 258, 258, 258, 1256, 258, 258, 258, 1257, 1257, 1257, 0, 1257, 261, 261, 0, 261, 261, 261, 1257, 261, 261, 261, 0, 261, 261, 261, 1257, 261, 261, 261, 0, 261, 261, 261, 1257, 261, 261, 263, 260, 260, 260, 260, 260, 260, 1, 260, 0, 259, 259, 259, 259, 258, 0, 258, 258, 258, 1256, 258, 258, 258, 1258, 1258, 1258, 0, 1258, 265, 265, 0, 265, 265, 265, 1258, 265, 265, 265, 0, 265, 265, 265, 1258, 265, 265, 265, 0, 265, 265, 265, 1258, 265, 265, 267, 260, 260, 260, 260, 260, 260, 1, 260, 0, 259, 259, 259, 259, 258, 0, 258, 258, 258, 1256, 258, 258, 258, 1259, 1259, 1259, 0, 1259, 269, 269, 0, 269, 269, 269, 1259, 269, 269, 269, 0, 269, 269, 269, 1259, 269, 269, 269, 0, 269, 269, 269, 1259, 269, 269, 271, 260, 260, 260, 260, 260, 260, 1, 260, 0, 259, 259, 259, 259, 258, 0, 258, 258, 258, 1256, 258, 258, 258, 1260, 1260, 1260, 0, 1260, 273, 273, 0, 273, 273, 273, 1260, 273, 273, 273, 0, 273, 273, 273, 1260, 273, 273, 273, 0, 273, 273, 273, 1260, 273, 273, 275, 260, 260, 260, 260, 260, 260, 1, 260, 0, 259, 259, 259, 259, 258, 0, 258, 258, 258, 1256, 258, 258, 258, 1261, 1261, 1261, 0, 1261, 277, 277, 0, 277, 277, 277, 1261, 277, 277, 277, 0, 277, 277, 277, 1261, 277, 277, 277, 0, 277, 277, 277, 1261, 277, 277, 279, 260, 260, 260, 260, 260, 260, 1, 260, 0, 259, 259, 259, 259, 258, 0, 258, 258, 258, 1256, 258, 258, 258, 1262, 1262, 1262, 0, 1262, 281, 281, 0, 281, 281, 281, 1262, 281, 281, 281, 0, 281, 281, 281, 1262, 281, 281, 281, 0, 281, 281, 281, 1262, 281, 281, 283, 260, 260, 260, 260, 260, 260, 1, 260, 0, 259, 259, 259, 259, 258, 0, 258, 258, 258, 1256, 258, 258, 286, 256, 256, 260, 260, 260, 260, 260, 260, 3, 256, 42, 1, 1, 256]
noncomputable def eOffF (w : World) (X : CxL) (p : Pos) (ch ep : Nat) (a0 a1 a2 a3 a4 a5 t0 t1 t2 t3 t4 t5 u0 u1 u2 u3 u4 u5 : Nat) (c0 c1 c2 c3 c4 c5 p0 p1 p2 p3 p4 p5 : Int) (al0 tk0 : Nat → Nat) : RLog := .goto (some (al0 2)) (some ((al0 2), { cls := .type "list_iterator", data := .fields #[.ref ch, .int 0 0] })) <| .call (.bi 116512097088030077292474218 [(.int c0 t0), (.int 2 (tk0 4))]) none 8 5 [] (orcI Int.fmod) fun al1 tk1 => .call (.bi 116512097088030077292474218 [(.int c1 t1), (.int 2 (tk1 8))]) none 12 9 [] (orcI Int.fmod) fun al2 tk2 => .call (.bi 116512097088030077292474218 [(.int c2 t2), (.int 2 (tk2 12))]) none 16 13 [] (orcI Int.fmod) fun al3 tk3 => .call (.bi 116512097088030077292474218 [(.int c3 t3), (.int 2 (tk3 16))]) none 20 17 [] (orcI Int.fmod) fun al4 tk4 => .call (.bi 116512097088030077292474218 [(.int c4 t4), (.int 2 (tk4 20))]) none 24 21 [] (orcI Int.fmod) fun al5 tk5 => .call (.bi 116512097088030077292474218 [(.int c5 t5), (.int 2 (tk5 24))]) none 28 25 [] (orcI Int.fmod) fun al6 tk6 => .call (.fn 42 [(.ref (al0 3))]) (some ((offO X (al0 0) ⟨160, 4, 160, 17⟩).ctx (fyC (al0 3)), ⟨160, 4, 160, 17⟩)) 31 27 [some ((al0 3), lsO [(al1 8), (al2 12), (al3 16), (al4 20), (al5 24), (al6 28)] 6), some ((al1 8), tupO ⟨p0, (Int.fmod c0 2), c0, u0, (tk1 5), t0⟩), some ((al2 12), tupO ⟨p1, (Int.fmod c1 2), c1, u1, (tk2 9), t1⟩), some ((al3 16), tupO ⟨p2, (Int.fmod c2 2), c2, u2, (tk3 13), t2⟩), some ((al4 20), tupO ⟨p3, (Int.fmod c3 2), c3, u3, (tk4 17), t3⟩), some ((al5 24), tupO ⟨p4, (Int.fmod c4 2), c4, u4, (tk5 21), t4⟩), some ((al6 28), tupO ⟨p5, (Int.fmod c5 2), c5, u5, (tk6 25), t5⟩)] (oFy 6) fun al7 tk7 => .call (.other (offLoop (al0 0))) (some ((offO X (al0 0) ⟨161, 4, 165, 51⟩).ctx (offLoop (al0 0)), ⟨161, 4, 165, 51⟩)) 31 28 [some ((al0 0), offF1 w (al0 1) (al0 3) ch (tk0 0) (tk0 1) (tk6 26)), some ((al0 1), dO [] 0), some ((al0 3), lsO (decN (tk7 27)) 6), some ((al1 8), tupO ⟨p0, (Int.fmod c0 2), c0, u0, (tk1 5), t0⟩), some ((al2 12), tupO ⟨p1, (Int.fmod c1 2), c1, u1, (tk2 9), t1⟩), some ((al3 16), tupO ⟨p2, (Int.fmod c2 2), c2, u2, (tk3 13), t2⟩), some ((al4 20), tupO ⟨p3, (Int.fmod c3 2), c3, u3, (tk4 17), t3⟩), some ((al5 24), tupO ⟨p4, (Int.fmod c4 2), c4, u4, (tk5 21), t4⟩), some ((al6 28), tupO ⟨p5, (Int.fmod c5 2), c5, u5, (tk6 25), t5⟩)] (oLp w (al0 1) (al0 3)) fun al8 tk8 => .ret (.ok (.ret (.ref (al0 1)))) [some ((al0 1), dO (decL (tk8 44)) (tk8 45))]
theorem run_offF (w : World) (X : CxL) (p : Pos) (ch ep : Nat) (a0 a1 a2 a3 a4 a5 t0 t1 t2 t3 t4 t5 u0 u1 u2 u3 u4 u5 : Nat) (c0 c1 c2 c3 c4 c5 p0 p1 p2 p3 p4 p5 : Int) (al0 tk0 : Nat → Nat) : mixA [1] (seg (VV w) 634 trOffF [orcI Int.fmod, orcI Int.fmod, orcI Int.fmod, orcI Int.fmod, orcI Int.fmod, orcI Int.fmod, oFy 6, oLp w (al0 1) (al0 3)] (X.ctx (offC ch)) p [] (denF (X.ctx (offC ch)).code) (mkT [] [(ch, lsO [a0, a1, a2, a3, a4, a5] ep), (a0, prO c0 t0 p0 u0), (a1, prO c1 t1 p1 u1), (a2, prO c2 t2 p2 u2), (a3, prO c3 t3 p3 u3), (a4, prO c4 t4 p4 u4), (a5, prO c5 t5 p5 u5)]) 0 0 al0 tk0) = mixB (seg (VV w) 634 trOffF [orcI Int.fmod, orcI Int.fmod, orcI Int.fmod, orcI Int.fmod, orcI Int.fmod, orcI Int.fmod, oFy 6, oLp w (al0 1) (al0 3)] (X.ctx (offC ch)) p [] (denF (X.ctx (offC ch)).code) (mkT [] [(ch, lsO [a0, a1, a2, a3, a4, a5] ep), (a0, prO c0 t0 p0 u0), (a1, prO c1 t1 p1 u1), (a2, prO c2 t2 p2 u2), (a3, prO c3 t3 p3 u3), (a4, prO c4 t4 p4 u4), (a5, prO c5 t5 p5 u5)]) 0 0 al0 tk0) (eOffF w X p ch ep a0 a1 a2 a3 a4 a5 t0 t1 t2 t3 t4 t5 u0 u1 u2 u3 u4 u5 c0 c1 c2 c3 c4 c5 p0 p1 p2 p3 p4 p5 al0 tk0) := by kernel_rfl
noncomputable def chipS (cv : Int → Int) (c0 p0 c1 p1 c2 p2 c3 p3 c4 p4 c5 p5 : Int) : Int := isum [cv c0 * (-2) ^ p0.toNat, cv c1 * (-2) ^ p1.toNat, cv c2 * (-2) ^ p2.toNat, cv c3 * (-2) ^ p3.toNat, cv c4 * (-2) ^ p4.toNat, cv c5 * (-2) ^ p5.toNat]
theorem off_ret {w : World} {X : CxL} {p : Pos} {s : Shared} {ch ep a0 a1 a2 a3 a4 a5 t0 t1 t2 t3 t4 t5 u0 u1 u2 u3 u4 u5 : Nat} {c0 c1 c2 c3 c4 c5 p0 p1 p2 p3 p4 p5 : Int} (htop : TopIn w s) (hch : s.heap.get? ch = some (lsO [a0, a1, a2, a3, a4, a5] ep))
    (g0 : s.heap.get? a0 = some (prO c0 t0 p0 u0)) (g1 : s.heap.get? a1 = some (prO c1 t1 p1 u1)) (g2 : s.heap.get? a2 = some (prO c2 t2 p2 u2)) (g3 : s.heap.get? a3 = some (prO c3 t3 p3 u3)) (g4 : s.heap.get? a4 = some (prO c4 t4 p4 u4)) (g5 : s.heap.get? a5 = some (prO c5 t5 p5 u5))
    (h0 : 0 ≤ c0 ∧ c0 ≤ 5 ∧ 0 ≤ p0) (h1 : 0 ≤ c1 ∧ c1 ≤ 5 ∧ 0 ≤ p1) (h2 : 0 ≤ c2 ∧ c2 ≤ 5 ∧ 0 ≤ p2) (h3 : 0 ≤ c3 ∧ c3 ≤ 5 ∧ 0 ≤ p3) (h4 : 0 ≤ c4 ∧ c4 ≤ 5 ∧ 0 ≤ p4) (h5 : 0 ≤ c5 ∧ c5 ≤ 5 ∧ 0 ≤ p5) :
    ∃ d L ed s', Returns (model prog w) (X.ctx (offC ch)) p s (.ok (.ret (.ref d))) s' ∧ s'.heap.get? d = some (dO L ed) ∧ Laid1 L ∧ (∀ x ∈ L, 0 ≤ x.k) ∧ RowIs L (chipS cvA c0 p0 c1 p1 c2 p2 c3 p3 c4 p4 c5 p5) (chipS cvB c0 p0 c1 p1 c2 p2 c3 p3 c4 p4 c5 p5) ∧ Step s s' [] ∧ s.heap.objs.size ≤ d := by
  have hz := htop.size
  have D0 := rep_start (V := VV w) (s := s) (cs := []) (rs := [(ch, lsO [a0, a1, a2, a3, a4, a5] ep), (a0, prO c0 t0 p0 u0), (a1, prO c1 t1 p1 u1), (a2, prO c2 t2 p2 u2), (a3, prO c3 t3 p3 u3), (a4, prO c4 t4 p4 u4), (a5, prO c5 t5 p5 u5)]) htop (fun c hc => by cases hc) (by simp) (fun c hc => by cases hc) (allC ⟨hch, by simp⟩ (allC ⟨g0, by simp⟩ (allC ⟨g1, by simp⟩ (allC ⟨g2, by simp⟩ (allC ⟨g3, by simp⟩ (allC ⟨g4, by simp⟩ (allC ⟨g5, by simp⟩ allN))))))) (by simp)
  have A : ∀ k, alOf ([] : List Cell).length [] s.heap.objs.size k = s.heap.objs.size + k := fun k => alOf_nil 0 _ k (Nat.zero_le _)
  have okt : ∀ {c q : Int} {t u v : Nat}, 0 ≤ c ∧ c ≤ 5 ∧ 0 ≤ q → TupOk ⟨q, Int.fmod c 2, c, t, u, v⟩ := fun {c q t u v} h => ⟨by dsimp only; rw [fmod_two]; omega, by dsimp only; rw [fmod_two]; omega, h.1, h.2.1⟩
  obtain ⟨r', s', e1, d, L, ed, e2, e3, e4, e5, e6, e7, e8⟩ := run_mix (fs := [1]) (R := fun r' s' => ∃ d L ed, r' = .ok (.ret (.ref d)) ∧ s'.heap.get? d = some (dO L ed) ∧ Laid1 L ∧ (∀ x ∈ L, 0 ≤ x.k) ∧ RowIs L (chipS cvA c0 p0 c1 p1 c2 p2 c3 p3 c4 p4 c5 p5) (chipS cvB c0 p0 c1 p1 c2 p2 c3 p3 c4 p4 c5 p5) ∧ Step s s' [] ∧ s.heap.objs.size ≤ d) (isM w) (skip_ok _ w) D0 (run_offF w X p ch ep a0 a1 a2 a3 a4 a5 t0 t1 t2 t3 t4 t5 u0 u1 u2 u3 u4 u5 c0 c1 c2 c3 c4 c5 p0 p1 p2 p3 p4 p5 _ _)
    ⟨⟨_, _, rfl, rfl, rfl⟩, okr_modI rfl rfl fun al1 tk1 => okr_modI rfl rfl fun al2 tk2 => okr_modI rfl rfl fun al3 tk3 => okr_modI rfl rfl fun al4 tk4 => okr_modI rfl rfl fun al5 tk5 => okr_modI rfl rfl fun al6 tk6 =>
      okr_fy (by rw [A]; omega) (okt h0) (okt h1) (okt h2) (okt h3) (okt h4) (okt h5) (by decide) fun al7 tk7 T T0 T1 T2 T3 T4 T5 hs hH =>
      okr_lp (by rw [A]; omega) (by rw [A]; omega) (by rw [A]; omega) (by rw [A, A]; omega) (by rw [A, A]; omega) (by rw [A, A]; omega) (by decide) T0 T1 T2 T3 T4 T5 hs hH
        (mem6 (P := fun a => TupOk (T a) ∧ (T a).o = (T a).c % 2 ∧ 0 ≤ (T a).p) (by rw [T0]; exact ⟨okt h0, fmod_two _, h0.2.2⟩) (by rw [T1]; exact ⟨okt h1, fmod_two _, h1.2.2⟩) (by rw [T2]; exact ⟨okt h2, fmod_two _, h2.2.2⟩) (by rw [T3]; exact ⟨okt h3, fmod_two _, h3.2.2⟩) (by rw [T4]; exact ⟨okt h4, fmod_two _, h4.2.2⟩) (by rw [T5]; exact ⟨okt h5, fmod_two _, h5.2.2⟩))
        (by unfold chipV; simp only [List.map_cons, List.map_nil]; rw [T0, T1, T2, T3, T4, T5]; rfl) (by unfold chipV; simp only [List.map_cons, List.map_nil]; rw [T0, T1, T2, T3, T4, T5]; rfl)
        fun al8 tk8 q1 q2 q3 => fun s' hn hc => ⟨_, _, _, rfl, hc.1, q1, q2, q3, hn.step, by rw [A]; omega⟩⟩
  subst e2
  exact ⟨d, L, ed, s', e1, e3, e4, e5, e6, e7, e8⟩
end Mine
namespace Mine
open PySem PySem.W PySem.W.X
open Sem (wp finPost)
/-! contracts of the built-ins: texts -/
noncomputable def MkS (mk : Made) (v : Str) : Prop := (∃ t, mk = .val (.str v t)) ∨ (mk = .str v ∧ v.length ≤ sizeLine)
theorem MkS.post {mk : Made} {v : Str} (h : MkS mk v) (s : Shared) : ∃ t s', mk.post (fun x s₁ => x = .str v t ∧ s₁ = s') s ∧ Step s s' [] := by
  rcases h with ⟨t, rfl⟩ | ⟨rfl, hl⟩
  · exact ⟨t, s, ⟨rfl, rfl⟩, Step.refl s⟩
  · exact ⟨s.toks, { s with toks := s.toks + 1 }, ⟨hl, rfl, rfl⟩, Step.toks s 1⟩
theorem post_mono {mk : Made} {Q Q' : Value → Shared → Prop} {s : Shared} (hq : ∀ v s', Q v s' → Q' v s') : mk.post Q s → mk.post Q' s := by
  induction mk with
  | val v => exact hq _ _
  | int i => exact hq _ _
  | str x => exact fun h => ⟨h.1, hq _ _ h.2⟩
  | float b => exact hq _ _
  | bytes b => exact fun h => ⟨h.1, hq _ _ h.2⟩
  | either a b iha ihb => exact fun h => ⟨iha h.1, ihb h.2⟩
section
variable {V : SV} {w : World} {s₀ : Shared} {A₀ : List Addr} {R : Result → Shared → Prop} {m i : Nat} {next : (Nat → Nat) → (Nat → Nat) → RLog}
theorem tS (x : Str) (t : Nat) (s : Shared) : s.TypeIs (.str x t) "str" := typeIs_str s x t
theorem okr_seq {x y : Str} {t u : Nat} (b : Bool) (hb : (x.cps.toList == y.cps.toList) = b) (hm : Nat.ble m 1000 = true) (ok : ∀ al tk, OkR V (model prog w) s₀ A₀ R (next al tk)) :
    OkR V (model prog w) s₀ A₀ R (.call (.bi 455126313168696234964340 [.str x t, .str y u]) none m i [] (orcV fun _ => .bool b) next) :=
  okr_val F.slot_str_eq (tS x t) F.entry_str_eq (F.args_str_eq_2 _ _) (gives_str_eq x y t u) (by decide +kernel) (congrArg Value.bool hb) hm ok
theorem okr_sne {x y : Str} {t u : Nat} (b : Bool) (hb : (x.cps.toList != y.cps.toList) = b) (hm : Nat.ble m 1000 = true) (ok : ∀ al tk, OkR V (model prog w) s₀ A₀ R (next al tk)) :
    OkR V (model prog w) s₀ A₀ R (.call (.bi 455125451010842570225012 [.str x t, .str y u]) none m i [] (orcV fun _ => .bool b) next) :=
  okr_val F.slot_str_ne (tS x t) F.entry_str_ne (F.args_str_ne_2 _ _) (gives_str_ne x y t u) (by decide +kernel) (congrArg Value.bool hb) hm ok
theorem okr_scont {x : Str} {c t u : Nat} (b : Bool) (hb : decide (c ∈ x.cps.toList) = b) (hm : Nat.ble m 1000 = true) (ok : ∀ al tk, OkR V (model prog w) s₀ A₀ R (next al tk)) :
    OkR V (model prog w) s₀ A₀ R (.call (.bi 128106709680535770272165659069392319860 [.str x t, .str ⟨#[c]⟩ u]) none m i [] (orcV fun _ => .bool b) next) :=
  okr_val F.slot_str_contains (tS x t) F.entry_str_contains (F.args_str_contains_2 _ _) (gives_str_contains x ⟨#[c]⟩ t u) (by decide +kernel) (congrArg Value.bool ((StrLaws.found_one x c).trans hb)) hm ok
/-- a call of a built-in that makes a text -/
theorem okr_mk {T : String} {name : Str} {id : String} {B : Builtin} {self : Value} {rest : List Value} {n : Nat} {mk : Made} {v : Str} (slot : Slot T name id) (hT : ∀ s : Shared, s.TypeIs self T) (entry : entryFor table id = some B)
    (args : argsOk id ⟨self :: rest, []⟩) (g : Gives (B ⟨self :: rest, []⟩) mk) (hn : PySem.code id = n) (hp : MkS mk v) (hm : Nat.ble m 1000 = true) (ok : ∀ al tk, OkR V (model prog w) s₀ A₀ R (next al tk)) :
    OkR V (model prog w) s₀ A₀ R (.call (.bi n (self :: rest)) none m i [] (orcV fun t => .str v t) next) := by
  refine okr_V (fun c Γ p h1 h2 s _ => ?_) hm ok
  obtain ⟨t, s', hp, st⟩ := hp.post s
  refine ⟨t, s', ?_, st⟩
  have hc := rc_bi h1 id hn
  subst hc
  exact returns_at h2 fun A => code_gives slot (hT s) entry args g (post_mono (fun v s₁ h => ⟨by rw [h.1], h.2⟩) hp)
theorem okr_sadd {x y : Str} {t u : Nat} (v : Str) (hv : x ++ y = v) (hl : v.length ≤ sizeLine) (hm : Nat.ble m 1000 = true) (ok : ∀ al tk, OkR V (model prog w) s₀ A₀ R (next al tk)) :
    OkR V (model prog w) s₀ A₀ R (.call (.bi 116512096292018843154609524 [.str x t, .str y u]) none m i [] (orcV fun t => .str v t) next) := by
  refine okr_mk F.slot_str_add (tS x t) F.entry_str_add (F.args_str_add_2 _ _) (gives_str_add x y t u) (by decide +kernel) ?_ hm ok
  subst hv
  by_cases h1 : x.length = 0
  · rw [if_pos (by simpa using h1)]
    refine .inl ⟨u, ?_⟩
    have : x = ⟨#[]⟩ := by obtain ⟨a⟩ := x; congr; exact Array.eq_empty_of_size_eq_zero h1
    rw [this]
    show Made.val (.str y u) = .val (.str ⟨#[] ++ y.cps⟩ u)
    simp
  · rw [if_neg (by simpa using h1)]
    by_cases h2 : y.length = 0
    · rw [if_pos (by simpa using h2)]
      refine .inl ⟨t, ?_⟩
      have : y = ⟨#[]⟩ := by obtain ⟨a⟩ := y; congr; exact Array.eq_empty_of_size_eq_zero h2
      rw [this]
      show Made.val (.str x t) = .val (.str ⟨x.cps ++ #[]⟩ t)
      simp
    · rw [if_neg (by simpa using h2)]
      exact .inr ⟨rfl, hl⟩
theorem okr_repr {a : Int} {t : Nat} (v : Str) (ha : a.natAbs.log2 < 1920) (hv : (toString a : Str) = v) (hl : v.length ≤ sizeLine) (hm : Nat.ble m 1000 = true) (ok : ∀ al tk, OkR V (model prog w) s₀ A₀ R (next al tk)) :
    OkR V (model prog w) s₀ A₀ R (.call (.bi 29827162985542091517149409130 [.int a t]) none m i [] (orcV fun t => .str v t) next) :=
  okr_mk F.slot_int_repr (tI a t) F.entry_int_repr (F.args_int_repr_1 _) (gives_int_repr a t ha) (by decide +kernel) (.inr ⟨by rw [hv], hl⟩) hm ok
theorem okr_sidx {x : Str} {k : Int} {t u : Nat} (c : Nat) (hr : (decide (k < -(2 ^ 63 : Int)) || decide (k ≥ 2 ^ 63)) = false) (h : (seqIndex? k x.length).bind (x.cps[·]?) = some c) (hm : Nat.ble m 1000 = true) (ok : ∀ al tk, OkR V (model prog w) s₀ A₀ R (next al tk)) :
    OkR V (model prog w) s₀ A₀ R (.call (.bi 500416356548588640944365259017385332 [.str x t, .int k u]) none m i [] (orcV fun t => .str ⟨#[c]⟩ t) next) :=
  okr_mk F.slot_str_getitem (tS x t) F.entry_str_getitem (F.args_str_getitem_2 _ _) (gives_str_getitem x k t u c hr h) (by decide +kernel) (.inr ⟨rfl, by rw [sizeLine_eq]; exact Nat.le_of_ble_eq_true rfl⟩) hm ok
theorem okr_scount {x : Str} {c t u : Nat} (v : Int) (hv : ((Builtin.Str.occurrences x ⟨#[c]⟩ 0 x.length (x.length + 1)).length : Int) = v) (hm : Nat.ble m 1000 = true) (ok : ∀ al tk, OkR V (model prog w) s₀ A₀ R (next al tk)) :
    OkR V (model prog w) s₀ A₀ R (.call (.bi 2166300787185074533748 [.str x t, .str ⟨#[c]⟩ u]) none m i [] (orcV fun t => .int v t) next) :=
  okr_int F.slot_str_count (tS x t) F.entry_str_count (F.args_str_count_2 _ _) (gives_str_count x ⟨#[c]⟩ t u) (by decide +kernel) hv hm ok
/-- `int(x)`, where its maker is called -/
theorem okr_toint {x : Str} {t : Nat} (v : Int) (hl : x.length ≤ 640) (hv : PySem.intText? x = some v) (hm : Nat.ble m 1000 = true) (ok : ∀ al tk, OkR V (model prog w) s₀ A₀ R (next al tk)) :
    OkR V (model prog w) s₀ A₀ R (.call (.bi 116512446855873012371386218 [.type "int", .str x t]) none m i [] (orcV fun t => .int v t) next) := by
  refine okr_V (fun c Γ p h1 h2 s _ => ⟨s.toks, { s with toks := s.toks + 1 }, ?_, Step.toks s 1⟩) hm ok
  have hc := rc_bi h1 "int.__new__" (by decide +kernel)
  subst hc
  refine returns_at h2 fun A => codeAny_call_builtin (by decide +kernel) F.entry_int_new ?_
  rw [F.newCall_int_1]
  exact wpAny_pure (KIN.gives_text hl hv prog w A (fun r₁ s₁ => r₁ = .ok (.ret (.int v s.toks)) ∧ s₁ = { s with toks := s.toks + 1 }) s ⟨rfl, rfl⟩)
/-- `x[lo:hi]` -/
noncomputable def slI (lo : Int) (tlo : Nat) (hi : Int) (thi : Nat) : Obj := { cls := .type "slice", data := .fields #[.int lo tlo, .int hi thi, .none] }
noncomputable def slF (lo : Int) (tlo : Nat) : Obj := { cls := .type "slice", data := .fields #[.int lo tlo, .none, .none] }
theorem okr_slice {x : Str} {t a j : Nat} {o : Obj} {l u : Option (Int × Tok)} (v : Str) (ho : o.cls = .type "slice" ∧ o.data = .fields #[partValue l, partValue u, partValue none]) (hv : MkS (sliceMade x t l u none) v) (hm : Nat.ble m 1000 = true) (ok : ∀ al tk, OkR V (model prog w) s₀ A₀ R (next al tk)) :
    OkR V (model prog w) s₀ A₀ R (.call (.bi 500416356548588640944365259017385332 [.str x t, .ref a]) none m i [some (a, o)] (orcU [j] (fun t => .str v t) (fun _ => [])) next) := by
  refine okr_U (fun c Γ p h1 h2 s _ hc => ?_) hm ok
  obtain ⟨t', s', hp, st⟩ := hv.post s
  refine ⟨t', s', ?_, rfl, trivial, st⟩
  have hc' := rc_bi h1 "str.__getitem__" (by decide +kernel)
  subst hc'
  refine returns_at h2 fun A => code_meets F.slot_str_getitem (tS x t s) F.entry_str_getitem (F.args_str_getitem_2 _ _) (meets_str_getitem_slice x t a l u none rfl prog w A (fun r₁ s₁ => r₁ = .ok (.ret (.str v t')) ∧ s₁ = s') s ⟨⟨o, hc.1, ho.1, ho.2⟩, post_mono (fun v s₁ h => ⟨by rw [h.1], h.2⟩) hp⟩)
end
theorem str_eq_one {x : Str} {c : Nat} (h : x.cps.toList = [c]) : x = ⟨#[c]⟩ := by
  obtain ⟨a⟩ := x; congr; exact Array.toList_inj.mp h
theorem slice_plain {x : Str} {t tl tu : Nat} {n : Int} {c : Nat} (h0 : 0 ≤ n) (hc : x.cps[n.toNat]? = some c) : MkS (sliceMade x t (some (n, tl)) (some (n + 1, tu)) none) ⟨#[c]⟩ := by
  obtain ⟨k, rfl⟩ := Int.eq_ofNat_of_zero_le h0
  have hk : k < x.length := (Array.getElem?_eq_some_iff.mp hc).1
  have e : slicePicked x (some ((k : Int), tl)) (some ((k : Int) + 1, tu)) none = [k] := by
    have := StrLaws.strSliceIndices_plain (a := k) (b := k + 1) (len := x.length) (by omega) (by omega)
    show Builtin.Str.strSliceIndices (some (k : Int)) (some ((k : Int) + 1)) 1 x.length = [k]
    rw [show ((k : Int) + 1) = ((k + 1 : Nat) : Int) by omega, this]
    simp
  unfold sliceMade
  rw [e]
  have hc' : x.cps[k]? = some c := hc
  simp only [List.filterMap_cons, List.filterMap_nil, hc']
  split
  · rename_i h
    refine .inl ⟨t, ?_⟩
    have hl : x.length = 1 := by simp at h; omega
    congr 2
    refine str_eq_one ?_
    have : k = 0 := by omega
    subst this
    obtain ⟨a⟩ := x
    have hs : a.toList.length = 1 := by simpa [Str.length] using hl
    obtain ⟨b, hb⟩ := List.length_eq_one_iff.mp hs
    have : a.toList[0]? = some c := by simpa using hc'
    rw [hb] at this
    simp at this
    show a.toList = [c]
    rw [hb, this]
  · exact .inr ⟨rfl, by rw [sizeLine_eq]; exact Nat.le_of_ble_eq_true rfl⟩
theorem slice_end {x : Str} {t tl tu : Nat} {n : Int} (h0 : n = x.length) : MkS (sliceMade x t (some (n, tl)) (some (n + 1, tu)) none) ⟨#[]⟩ := by
  subst h0
  have e : slicePicked x (some ((x.length : Int), tl)) (some ((x.length : Int) + 1, tu)) none = [] := by
    show Builtin.Str.strSliceIndices (some (x.length : Int)) (some ((x.length : Int) + 1)) 1 x.length = []
    unfold Builtin.Str.strSliceIndices
    have h1 : ¬ ((x.length : Int) < 0) := by omega
    have h2 : ¬ ((x.length : Int) + 1 < 0) := by omega
    have e1 : max (0 : Int) (min (x.length : Int) (x.length : Int)) = x.length := by omega
    have e2 : max (0 : Int) (min ((x.length : Int) + 1) (x.length : Int)) = x.length := by omega
    simp only [sliceRange, h1, h2, if_false, e1, e2, show ((1 : Int) > 0) = True from by simp, if_true]
    rw [if_neg (by omega)]
    rfl
  unfold sliceMade
  rw [e]
  split
  · rename_i h
    refine .inl ⟨t, ?_⟩
    have hl : x.length = 0 := by simp at h; omega
    obtain ⟨a⟩ := x
    congr
    exact (Array.eq_empty_of_size_eq_zero hl)
  · exact .inr ⟨rfl, by decide⟩
section
variable {V : SV} {w : World} {s₀ : Shared} {A₀ : List Addr} {R : Result → Shared → Prop} {m i : Nat} {next : (Nat → Nat) → (Nat → Nat) → RLog}
theorem okr_schar {x : Str} {t a j tl tu : Nat} {n : Int} (c : Nat) (h0 : 0 ≤ n) (hc : x.cps[n.toNat]? = some c) (hm : Nat.ble m 1000 = true) (ok : ∀ al tk, OkR V (model prog w) s₀ A₀ R (next al tk)) :
    OkR V (model prog w) s₀ A₀ R (.call (.bi 500416356548588640944365259017385332 [.str x t, .ref a]) none m i [some (a, slI n tl (n + 1) tu)] (orcU [j] (fun t => .str ⟨#[c]⟩ t) (fun _ => [])) next) :=
  okr_slice (l := some (n, tl)) (u := some (n + 1, tu)) _ ⟨rfl, rfl⟩ (slice_plain h0 hc) hm ok
theorem okr_send {x : Str} {t a j tl tu : Nat} {n : Int} (h0 : n = x.length) (hm : Nat.ble m 1000 = true) (ok : ∀ al tk, OkR V (model prog w) s₀ A₀ R (next al tk)) :
    OkR V (model prog w) s₀ A₀ R (.call (.bi 500416356548588640944365259017385332 [.str x t, .ref a]) none m i [some (a, slI n tl (n + 1) tu)] (orcU [j] (fun t => .str ⟨#[]⟩ t) (fun _ => [])) next) :=
  okr_slice (l := some (n, tl)) (u := some (n + 1, tu)) _ ⟨rfl, rfl⟩ (slice_end h0) hm ok
end
end Mine
namespace Mine
open PySem PySem.W PySem.W.X
/-! the lexer's objects -/
structure Lx where
  lx : Nat
  ld : Nat
  ai : Nat
  pb : Nat
  fs : Nat
  sd : Nat
  rf : Nat
  cd : Nat
  cT : Nat
  cA : Nat
  fc : Nat
  ct : Nat
  k1 : Nat
  k2 : Nat
  k3 : Nat
  k4 : Nat
  k5 : Nat
  tw : Nat
  c1 : Nat
  c2 : Nat
  c3 : Nat
  c5 : Nat
  r1 : Nat
  r2 : Nat
  r3 : Nat
  r4 : Nat
  r5 : Nat
  c4 : Int
  tt : Nat
noncomputable def lamE : PySem.Expr := match nthS (fnBody (st 11)) 2 with
  | .Assign _ v _ => v
  | _ => default
noncomputable def lxO (X : Lx) : Obj := { cls := .ref 94, dict := some X.ld, data := .plain }
noncomputable def ldO (w : World) (X : Lx) (ln : Int) (tl : Nat) : Obj := { cls := .type "dict", data := .dict #[de w.params "lineno" X.k1 (.int ln tl), de w.params "instream" X.k2 (.ref X.fs), de w.params "whitespace" X.k3 (.str ⟨#[10, 9, 13, 32]⟩ X.tw), de w.params "pushback" X.k4 (.ref X.pb)] 4 }
noncomputable def aiO (n : Int) (tn : Nat) : Obj := { cls := .type "list", data := .seq #[.int n tn] 0 }
noncomputable def pbO (vs : List Value) (ep : Nat) : Obj := { cls := .type "list", data := .seq vs.toArray ep }
noncomputable def fsO (X : Lx) : Obj := match lamE with
  | .Lambda args body scope _ => { cls := .type "function", dict := some X.sd, data := .func { name := "<lambda>", qualname := Str.ofString "_law_lexer.<locals>.<lambda>", params := args, body := .expr body, scope := scope, globals := 3, closure := [], defaults := .none, kwdefaults := .none, doc := .none, pyModule := .str "law_pg0116_01" 320, annotations := none, code := .ref X.fc, closureTuple := .none, builtins := 0 } }
  | _ => default
noncomputable def sdO (w : World) (X : Lx) : Obj := { cls := .type "dict", data := .dict #[de w.params "read" X.k5 (.ref X.rf)] 1 }
noncomputable def rdS : Stmt := nthS (fnBody (st 11)) 1
noncomputable def rfO (X : Lx) : Obj := match rdS with
  | .FunctionDef name args body _ _ _ scope _ _ _ => { cls := .type "function", data := .func { name := name, qualname := Str.ofString "_law_lexer.<locals>._law_read_on", params := args, body := .stmts body, scope := scope, globals := 3, closure := [("text", X.cT), ("at", X.cA)], defaults := .none, kwdefaults := .none, doc := .none, pyModule := .str "law_pg0116_01" 320, annotations := none, code := .ref X.cd, closureTuple := .ref X.ct, builtins := 0 } }
  | _ => default
noncomputable def cdO (X : Lx) : Obj := { cls := .type "code", data := .fields #[.str "_law_read_on" X.c1, .str "_law_lexer.<locals>._law_read_on" X.c2, .str "/claim/cut.py" X.c3, .int 110 0, .int 1 0, .int 0 0, .int 0 0, .int 19 0, .ref X.r1, .bool true, .int 181 0, .ref X.r2, .none, .ref X.r3, .ref X.r4, .ref X.r5, .int X.c4 0, .int 110 0, .str "/claim/cut.py" X.c5] }
noncomputable def cTO (X : Lx) (tx : Str) : Obj := { cls := .type "cell", data := .cell (some (.str tx X.tt)) }
noncomputable def cAO (X : Lx) : Obj := { cls := .type "cell", data := .cell (some (.ref X.ai)) }
/-- read, never turned, while tokens are got -/
noncomputable def lxRo (w : World) (X : Lx) (tx : Str) : List Cell := [(X.lx, lxO X), (X.fs, fsO X), (X.sd, sdO w X), (X.rf, rfO X), (X.cd, cdO X), (X.cT, cTO X tx), (X.cA, cAO X)]
end Mine
namespace Mine
open PySem PySem.W PySem.W.X
/-! get_token: one run for each spelling, and at the end (the kernel runs them) -/
noncomputable def tokC (a : Nat) : Code := .call (.ref 84) ⟨[.ref a], []⟩
noncomputable def trTok0 : List Nat := [84, 83, 259, 259, 2, 259, 1256, 94, 94, 93, 0, 1256, 94, 94, 93, 1256, 1256, 94, 256, 258, 258, 0, 258, 0, 258, 258, 259, 259, 3, 0, 259, 1256, 94, 94, 93, 0, 1256, 94, 94, 93, 77, 77, 77, 1256, 1256, 94, 256, 94, 94, 93, 0, 77, 0, 260, 259, 259, 259, 261, 261, 0, 261, 261, 0, 261, 0, 261, 261, 261, 260, 77, 0, 260, 77, 76, 262, 262, 2, 262, 1256, 94, 94, 93, 0, 1256, 94, 94, 93, 1256, 1256, 94, 256, 1257, 1257, 1257, 1257, 0, 1257, 1257, 1257, 1257, 1258, 1259, 0, 1259, 1260, 263, 263, 2, 1261, 1262, 257, 257, 257, 0, 257, 257, 1262, 257, 257, 257, 0, 257, 257, 263, 1, 1, 263, 263, 1262, 257, 257, 257, 0, 257, 257, 3, 0, 263, 0, 0, 1, 1262, 257, 257, 0, 257, 257, 257, 257, 263, 262, 262, 262, 1, 262, 261, 261, 259, 259, 259, 259, 1256, 94, 94, 93, 0, 1256, 94, 94, 93, 1256, 1256, 94, 256, 1, 259, 1, 259, 1, 259, 259, 1, 259, 259, 259, 261, 261, 0, 261, 261, 0, 261, 0, 261, 261, 261, 260, 77, 0, 260, 77, 76, 265, 265, 2, 265, 1256, 94, 94, 93, 0, 1256, 94, 94, 93, 1256, 1256, 94, 256, 1257, 1257, 1257, 1257, 0, 1257, 1257, 1257, 1257, 1258, 1259, 0, 1259, 1260, 266, 266, 2, 1261, 1262, 257, 257, 257, 0, 257, 257, 1262, 257, 257, 257, 0, 257, 257, 266, 1, 1, 266, 266, 1262, 257, 257, 257, 0, 257, 257, 3, 0, 266, 0, 0, 1, 1262, 257, 257, 0, 257, 257, 257, 257, 266, 265, 265, 265, 0, 265, 261, 261, 259, 259, 259, 259, 1256, 94, 94, 93, 0, 1256, 94, 94, 93, 1256, 1256, 94, 256, 0, 259, 0, 259, 1256, 94, 94, 93, 1256, 94, 94, 93, 1256, 94, 94, 93, 77, 1256, 256, 77, 0, 77, 76, 268, 268, 2, 268, 1256, 94, 94, 93, 0, 1256, 94, 94, 93, 1256, 1256, 94, 256, 1257, 1257, 1257, 1257, 0, 1257, 1257, 1257, 1257, 1258, 1259, 0, 1259, 1260, 269, 269, 2, 1261, 1262, 257, 257, 257, 0, 257, 257, 1262, 257, 257, 257, 0, 257, 257, 269, 1, 1, 269, 269, 1262, 257, 257, 257, 0, 257, 257, 3, 0, 269, 0, 0, 1, 1262, 257, 257, 0, 257, 257, 257, 257, 269, 268, 268, 268, 0, 268, 259, 259, 259, 259, 1, 259, 259, 261, 0, 261, 261, 261, 260, 77, 0, 260, 77, 76, 271, 271, 2, 271, 1256, 94, 94, 93, 0, 1256, 94, 94, 93, 1256, 1256, 94, 256, 1257, 1257, 1257, 1257, 0, 1257, 1257, 1257, 1257, 1258, 1259, 0, 1259, 1260, 272, 272, 2, 1261, 1262, 257, 257, 257, 0, 257, 257, 1262, 257, 257, 257, 0, 257, 257, 272, 1, 1, 272, 272, 1262, 257, 257, 257, 0, 257, 257, 3, 0, 272, 0, 0, 1, 1262, 257, 257, 0, 257, 257, 257, 257, 272, 271, 271, 271, 1, 271, 261, 261, 259, 259, 259, 259, 1256, 94, 94, 93, 0, 1256, 94, 94, 93, 1256, 1256, 94, 256, 1, 259, 1, 259, 259, 1, 259, 259, 261, 0, 261, 261, 261, 260, 77, 0, 260, 77, 76, 274, 274, 2, 274, 1256, 94, 94, 93, 0, 1256, 94, 94, 93, 1256, 1256, 94, 256, 1257, 1257, 1257, 1257, 0, 1257, 1257, 1257, 1257, 1258, 1259, 0, 1259, 1260, 275, 275, 2, 1261, 1262, 257, 257, 257, 0, 257, 257, 1262, 257, 257, 257, 0, 257, 257, 275, 1, 1, 275, 275, 1262, 257, 257, 257, 0, 257, 257, 3, 0, 275, 0, 0, 1, 1262, 257, 257, 0, 257, 257, 257, 257, 275, 274, 274, 274, 0, 274, 1256, 94, 94, 93, 0, 1256, 94, 94, 93, 1256, 1256, 94, 256, 1, 1256, 94, 94, 93, 0, 1256, 94, 1256, 94, 1256, 94, 94, 93, 1256, 94, 256, 256, 256, 274, 261, 261, 259, 259, 259, 259, 1256, 94, 94, 93, 0, 1256, 94, 94, 93, 1256, 1256, 94, 256, 0, 259]
noncomputable def eTok0 (w : World) (X : Lx) (tx : Str) (n l : Int) (tn tl eb c q : Nat) (al0 tk0 : Nat → Nat) : RLog := .call (.bi 116512096292018843154739050 [(.int n tn), (.int 1 (tk0 12))]) none 8 16 [] (orcI fun x y => x + y) fun al1 tk1 => .call (.bi 500416356548588640944365259017385332 [(.str tx X.tt), (.ref (al1 8))]) none 9 17 [some ((al1 8), slI n tn (n + 1) (tk1 16))] (orcU [8] (fun t => .str ⟨#[c]⟩ t) (fun _ => [])) fun al2 tk2 => .call (.bi 116512096292018843154739050 [(.int n tn), (.int 1 (tk2 21))]) none 9 22 [] (orcI fun x y => x + y) fun al3 tk3 => .call (.bi 455126313168696234964340 [(.str ⟨#[c]⟩ (tk2 17)), (.str ⟨#[10]⟩ (tk3 25))]) none 9 26 [] (orcV fun _ => .bool false) fun al4 tk4 => .call (.bi 128106709680535770272165659069392319860 [(.str ⟨#[10, 9, 13, 32]⟩ X.tw), (.str ⟨#[c]⟩ (tk2 17))]) none 9 29 [] (orcV fun _ => .bool false) fun al5 tk5 => .call (.bi 455126313168696234964340 [(.str ⟨#[c]⟩ (tk2 17)), (.str ⟨#[34]⟩ (tk5 30))]) none 9 31 [] (orcV fun _ => .bool false) fun al6 tk6 => .call (.bi 455126313168696234964340 [(.str ⟨#[c]⟩ (tk2 17)), (.str ⟨#[92]⟩ (tk6 32))]) none 9 33 [] (orcV fun _ => .bool false) fun al7 tk7 => .call (.bi 116512096292018843154609524 [(.str "" (tk0 4)), (.str ⟨#[c]⟩ (tk2 17))]) none 9 34 [] (orcV fun t => .str ⟨#[c]⟩ t) fun al8 tk8 => .call (.bi 116512096292018843154739050 [(.int (n + 1) (tk3 22)), (.int 1 (tk8 39))]) none 11 43 [] (orcI fun x y => x + y) fun al9 tk9 => .call (.bi 500416356548588640944365259017385332 [(.str tx X.tt), (.ref (al9 11))]) none 12 44 [some ((al9 11), slI (n + 1) (tk3 22) ((n + 1) + 1) (tk9 43))] (orcU [11] (fun t => .str ⟨#[92]⟩ t) (fun _ => [])) fun al10 tk10 => .call (.bi 116512096292018843154739050 [(.int (n + 1) (tk3 22)), (.int 1 (tk10 48))]) none 12 49 [] (orcI fun x y => x + y) fun al11 tk11 => .call (.bi 116512096292018843154739050 [(.int ((n + 1) + 1) (tk11 49)), (.int 1 (tk11 59))]) none 14 63 [] (orcI fun x y => x + y) fun al12 tk12 => .call (.bi 500416356548588640944365259017385332 [(.str tx X.tt), (.ref (al12 14))]) none 15 64 [some ((al12 14), slI ((n + 1) + 1) (tk11 49) (((n + 1) + 1) + 1) (tk12 63))] (orcU [14] (fun t => .str ⟨#[32]⟩ t) (fun _ => [])) fun al13 tk13 => .call (.bi 116512096292018843154739050 [(.int ((n + 1) + 1) (tk11 49)), (.int 1 (tk13 68))]) none 15 69 [] (orcI fun x y => x + y) fun al14 tk14 => .call (.bi 116512096292018843154609524 [(.str ⟨#[c]⟩ (tk8 34)), (.str ⟨#[32]⟩ (tk13 64))]) none 15 74 [] (orcV fun t => .str ⟨#[c, 32]⟩ t) fun al15 tk15 => .call (.bi 116512096292018843154739050 [(.int (((n + 1) + 1) + 1) (tk14 69)), (.int 1 (tk15 79))]) none 17 83 [] (orcI fun x y => x + y) fun al16 tk16 => .call (.bi 500416356548588640944365259017385332 [(.str tx X.tt), (.ref (al16 17))]) none 18 84 [some ((al16 17), slI (((n + 1) + 1) + 1) (tk14 69) ((((n + 1) + 1) + 1) + 1) (tk16 83))] (orcU [17] (fun t => .str ⟨#[q]⟩ t) (fun _ => [])) fun al17 tk17 => .call (.bi 116512096292018843154739050 [(.int (((n + 1) + 1) + 1) (tk14 69)), (.int 1 (tk17 88))]) none 18 89 [] (orcI fun x y => x + y) fun al18 tk18 => .call (.bi 455126313168696234964340 [(.str ⟨#[q]⟩ (tk17 84)), (.str ⟨#[10]⟩ (tk18 92))]) none 18 93 [] (orcV fun _ => .bool false) fun al19 tk19 => .call (.bi 128106709680535770272165659069392319860 [(.str ⟨#[10, 9, 13, 32]⟩ X.tw), (.str ⟨#[q]⟩ (tk17 84))]) none 18 96 [] (orcV fun _ => .bool false) fun al20 tk20 => .call (.bi 455126313168696234964340 [(.str ⟨#[q]⟩ (tk17 84)), (.str ⟨#[92]⟩ (tk20 97))]) none 18 98 [] (orcV fun _ => .bool false) fun al21 tk21 => .call (.bi 116512096292018843154609524 [(.str ⟨#[c, 32]⟩ (tk15 74)), (.str ⟨#[q]⟩ (tk17 84))]) none 18 99 [] (orcV fun t => .str ⟨#[c, 32, q]⟩ t) fun al22 tk22 => .call (.bi 116512096292018843154739050 [(.int ((((n + 1) + 1) + 1) + 1) (tk18 89)), (.int 1 (tk22 104))]) none 20 108 [] (orcI fun x y => x + y) fun al23 tk23 => .call (.bi 500416356548588640944365259017385332 [(.str tx X.tt), (.ref (al23 20))]) none 21 109 [some ((al23 20), slI ((((n + 1) + 1) + 1) + 1) (tk18 89) (((((n + 1) + 1) + 1) + 1) + 1) (tk23 108))] (orcU [20] (fun t => .str ⟨#[10]⟩ t) (fun _ => [])) fun al24 tk24 => .call (.bi 116512096292018843154739050 [(.int ((((n + 1) + 1) + 1) + 1) (tk18 89)), (.int 1 (tk24 113))]) none 21 114 [] (orcI fun x y => x + y) fun al25 tk25 => .call (.bi 116512096292018843154739050 [(.int l tl), (.int 1 (tk25 119))]) none 21 120 [] (orcI fun x y => x + y) fun al26 tk26 => .ret (.ok (.ret (.str ⟨#[c, 32, q]⟩ (tk22 99)))) [some (X.ld, ldO w X (l + 1) (tk26 120)), some (X.ai, aiO (((((n + 1) + 1) + 1) + 1) + 1) (tk25 114)), some (X.pb, pbO [] eb)]
noncomputable def osTok0 (c q : Nat) : List Orc := [orcI fun x y => x + y, orcU [8] (fun t => .str ⟨#[c]⟩ t) (fun _ => []), orcI fun x y => x + y, orcV fun _ => .bool false, orcV fun _ => .bool false, orcV fun _ => .bool false, orcV fun _ => .bool false, orcV fun t => .str ⟨#[c]⟩ t, orcI fun x y => x + y, orcU [11] (fun t => .str ⟨#[92]⟩ t) (fun _ => []), orcI fun x y => x + y, orcI fun x y => x + y, orcU [14] (fun t => .str ⟨#[32]⟩ t) (fun _ => []), orcI fun x y => x + y, orcV fun t => .str ⟨#[c, 32]⟩ t, orcI fun x y => x + y, orcU [17] (fun t => .str ⟨#[q]⟩ t) (fun _ => []), orcI fun x y => x + y, orcV fun _ => .bool false, orcV fun _ => .bool false, orcV fun _ => .bool false, orcV fun t => .str ⟨#[c, 32, q]⟩ t, orcI fun x y => x + y, orcU [20] (fun t => .str ⟨#[10]⟩ t) (fun _ => []), orcI fun x y => x + y, orcI fun x y => x + y]
theorem run_tok0F (w : World) (X : Lx) (Y : CxO) (p : Pos) (tx : Str) (n l : Int) (tn tl eb c q : Nat) (al0 tk0 : Nat → Nat) : mixA [0, 1, 2] (seg (VV w) 1335 trTok0 (osTok0 c q) (Y.ctx (tokC X.lx)) p [] (denF (Y.ctx (tokC X.lx)).code) (mkT [(X.ld, ldO w X l tl), (X.ai, aiO n tn), (X.pb, pbO [] eb)] (lxRo w X tx)) 3 0 al0 tk0) = mixB (seg (VV w) 1335 trTok0 (osTok0 c q) (Y.ctx (tokC X.lx)) p [] (denF (Y.ctx (tokC X.lx)).code) (mkT [(X.ld, ldO w X l tl), (X.ai, aiO n tn), (X.pb, pbO [] eb)] (lxRo w X tx)) 3 0 al0 tk0) (eTok0 w X tx n l tn tl eb c q al0 tk0) := by kernel_rfl
theorem run_tok0W (w : World) (X : Lx) (Y : CxW) (p : Pos) (tx : Str) (n l : Int) (tn tl eb c q : Nat) (al0 tk0 : Nat → Nat) : mixA [0, 1, 2] (seg (VV w) 1335 trTok0 (osTok0 c q) (Y.ctx (tokC X.lx)) p [] (denF (Y.ctx (tokC X.lx)).code) (mkT [(X.ld, ldO w X l tl), (X.ai, aiO n tn), (X.pb, pbO [] eb)] (lxRo w X tx)) 3 0 al0 tk0) = mixB (seg (VV w) 1335 trTok0 (osTok0 c q) (Y.ctx (tokC X.lx)) p [] (denF (Y.ctx (tokC X.lx)).code) (mkT [(X.ld, ldO w X l tl), (X.ai, aiO n tn), (X.pb, pbO [] eb)] (lxRo w X tx)) 3 0 al0 tk0) (eTok0 w X tx n l tn tl eb c q al0 tk0) := by kernel_rfl
noncomputable def trTok1 : List Nat := [84, 83, 259, 259, 2, 259, 1256, 94, 94, 93, 0, 1256, 94, 94, 93, 1256, 1256, 94, 256, 258, 258, 0, 258, 0, 258, 258, 259, 259, 3, 0, 259, 1256, 94, 94, 93, 0, 1256, 94, 94, 93, 77, 77, 77, 1256, 1256, 94, 256, 94, 94, 93, 0, 77, 0, 260, 259, 259, 259, 261, 261, 0, 261, 261, 0, 261, 0, 261, 261, 261, 260, 77, 0, 260, 77, 76, 262, 262, 2, 262, 1256, 94, 94, 93, 0, 1256, 94, 94, 93, 1256, 1256, 94, 256, 1257, 1257, 1257, 1257, 0, 1257, 1257, 1257, 1257, 1258, 1259, 0, 1259, 1260, 263, 263, 2, 1261, 1262, 257, 257, 257, 0, 257, 257, 1262, 257, 257, 257, 0, 257, 257, 263, 1, 1, 263, 263, 1262, 257, 257, 257, 0, 257, 257, 3, 0, 263, 0, 0, 1, 1262, 257, 257, 0, 257, 257, 257, 257, 263, 262, 262, 262, 0, 262, 261, 261, 259, 259, 259, 259, 1256, 94, 94, 93, 0, 1256, 94, 94, 93, 1256, 1256, 94, 256, 0, 259, 0, 259, 261, 261, 0, 261, 261, 0, 261, 0, 261, 261, 261, 260, 77, 0, 260, 77, 76, 265, 265, 2, 265, 1256, 94, 94, 93, 0, 1256, 94, 94, 93, 1256, 1256, 94, 256, 1257, 1257, 1257, 1257, 0, 1257, 1257, 1257, 1257, 1258, 1259, 0, 1259, 1260, 266, 266, 2, 1261, 1262, 257, 257, 257, 0, 257, 257, 1262, 257, 257, 257, 0, 257, 257, 266, 1, 1, 266, 266, 1262, 257, 257, 257, 0, 257, 257, 3, 0, 266, 0, 0, 1, 1262, 257, 257, 0, 257, 257, 257, 257, 266, 265, 265, 265, 1, 265, 261, 261, 259, 259, 259, 1, 259, 1, 259, 259, 1, 259, 259, 261, 0, 261, 261, 261, 260, 77, 0, 260, 77, 76, 268, 268, 2, 268, 1256, 94, 94, 93, 0, 1256, 94, 94, 93, 1256, 1256, 94, 256, 1257, 1257, 1257, 1257, 0, 1257, 1257, 1257, 1257, 1258, 1259, 0, 1259, 1260, 269, 269, 2, 1261, 1262, 257, 257, 257, 0, 257, 257, 1262, 257, 257, 257, 0, 257, 257, 269, 1, 1, 269, 269, 1262, 257, 257, 257, 0, 257, 257, 3, 0, 269, 0, 0, 1, 1262, 257, 257, 0, 257, 257, 257, 257, 269, 268, 268, 268, 0, 268, 261, 261, 259, 259, 259, 0, 259, 0, 259, 259, 1, 259, 259, 261, 0, 261, 261, 261, 260, 77, 0, 260, 77, 76, 271, 271, 2, 271, 1256, 94, 94, 93, 0, 1256, 94, 94, 93, 1256, 1256, 94, 256, 1257, 1257, 1257, 1257, 0, 1257, 1257, 1257, 1257, 1258, 1259, 0, 1259, 1260, 272, 272, 2, 1261, 1262, 257, 257, 257, 0, 257, 257, 1262, 257, 257, 257, 0, 257, 257, 272, 1, 1, 272, 272, 1262, 257, 257, 257, 0, 257, 257, 3, 0, 272, 0, 0, 1, 1262, 257, 257, 0, 257, 257, 257, 257, 272, 271, 271, 271, 1, 271, 261, 261, 259, 259, 259, 1, 259, 1, 259, 259, 1, 259, 259, 261, 0, 261, 261, 261, 260, 77, 0, 260, 77, 76, 274, 274, 2, 274, 1256, 94, 94, 93, 0, 1256, 94, 94, 93, 1256, 1256, 94, 256, 1257, 1257, 1257, 1257, 0, 1257, 1257, 1257, 1257, 1258, 1259, 0, 1259, 1260, 275, 275, 2, 1261, 1262, 257, 257, 257, 0, 257, 257, 1262, 257, 257, 257, 0, 257, 257, 275, 1, 1, 275, 275, 1262, 257, 257, 257, 0, 257, 257, 3, 0, 275, 0, 0, 1, 1262, 257, 257, 0, 257, 257, 257, 257, 275, 274, 274, 274, 0, 274, 261, 261, 259, 259, 259, 0, 259]
noncomputable def eTok1 (w : World) (X : Lx) (tx : Str) (n l : Int) (tn tl eb c q : Nat) (al0 tk0 : Nat → Nat) : RLog := .call (.bi 116512096292018843154739050 [(.int n tn), (.int 1 (tk0 12))]) none 8 16 [] (orcI fun x y => x + y) fun al1 tk1 => .call (.bi 500416356548588640944365259017385332 [(.str tx X.tt), (.ref (al1 8))]) none 9 17 [some ((al1 8), slI n tn (n + 1) (tk1 16))] (orcU [8] (fun t => .str ⟨#[34]⟩ t) (fun _ => [])) fun al2 tk2 => .call (.bi 116512096292018843154739050 [(.int n tn), (.int 1 (tk2 21))]) none 9 22 [] (orcI fun x y => x + y) fun al3 tk3 => .call (.bi 116512096292018843154739050 [(.int (n + 1) (tk3 22)), (.int 1 (tk3 32))]) none 11 36 [] (orcI fun x y => x + y) fun al4 tk4 => .call (.bi 500416356548588640944365259017385332 [(.str tx X.tt), (.ref (al4 11))]) none 12 37 [some ((al4 11), slI (n + 1) (tk3 22) ((n + 1) + 1) (tk4 36))] (orcU [11] (fun t => .str ⟨#[c]⟩ t) (fun _ => [])) fun al5 tk5 => .call (.bi 116512096292018843154739050 [(.int (n + 1) (tk3 22)), (.int 1 (tk5 41))]) none 12 42 [] (orcI fun x y => x + y) fun al6 tk6 => .call (.bi 455126313168696234964340 [(.str ⟨#[c]⟩ (tk5 37)), (.str ⟨#[10]⟩ (tk6 45))]) none 12 46 [] (orcV fun _ => .bool false) fun al7 tk7 => .call (.bi 455126313168696234964340 [(.str ⟨#[c]⟩ (tk5 37)), (.str ⟨#[34]⟩ (tk7 48))]) none 12 49 [] (orcV fun _ => .bool false) fun al8 tk8 => .call (.bi 455126313168696234964340 [(.str ⟨#[c]⟩ (tk5 37)), (.str ⟨#[92]⟩ (tk8 50))]) none 12 51 [] (orcV fun _ => .bool false) fun al9 tk9 => .call (.bi 116512096292018843154609524 [(.str "" (tk0 4)), (.str ⟨#[c]⟩ (tk5 37))]) none 12 52 [] (orcV fun t => .str ⟨#[c]⟩ t) fun al10 tk10 => .call (.bi 116512096292018843154739050 [(.int ((n + 1) + 1) (tk6 42)), (.int 1 (tk10 57))]) none 14 61 [] (orcI fun x y => x + y) fun al11 tk11 => .call (.bi 500416356548588640944365259017385332 [(.str tx X.tt), (.ref (al11 14))]) none 15 62 [some ((al11 14), slI ((n + 1) + 1) (tk6 42) (((n + 1) + 1) + 1) (tk11 61))] (orcU [14] (fun t => .str ⟨#[32]⟩ t) (fun _ => [])) fun al12 tk12 => .call (.bi 116512096292018843154739050 [(.int ((n + 1) + 1) (tk6 42)), (.int 1 (tk12 66))]) none 15 67 [] (orcI fun x y => x + y) fun al13 tk13 => .call (.bi 116512096292018843154609524 [(.str ⟨#[c]⟩ (tk10 52)), (.str ⟨#[32]⟩ (tk12 62))]) none 15 74 [] (orcV fun t => .str ⟨#[c, 32]⟩ t) fun al14 tk14 => .call (.bi 116512096292018843154739050 [(.int (((n + 1) + 1) + 1) (tk13 67)), (.int 1 (tk14 79))]) none 17 83 [] (orcI fun x y => x + y) fun al15 tk15 => .call (.bi 500416356548588640944365259017385332 [(.str tx X.tt), (.ref (al15 17))]) none 18 84 [some ((al15 17), slI (((n + 1) + 1) + 1) (tk13 67) ((((n + 1) + 1) + 1) + 1) (tk15 83))] (orcU [17] (fun t => .str ⟨#[q]⟩ t) (fun _ => [])) fun al16 tk16 => .call (.bi 116512096292018843154739050 [(.int (((n + 1) + 1) + 1) (tk13 67)), (.int 1 (tk16 88))]) none 18 89 [] (orcI fun x y => x + y) fun al17 tk17 => .call (.bi 455126313168696234964340 [(.str ⟨#[q]⟩ (tk16 84)), (.str ⟨#[10]⟩ (tk17 92))]) none 18 93 [] (orcV fun _ => .bool false) fun al18 tk18 => .call (.bi 455126313168696234964340 [(.str ⟨#[q]⟩ (tk16 84)), (.str ⟨#[34]⟩ (tk18 95))]) none 18 96 [] (orcV fun _ => .bool false) fun al19 tk19 => .call (.bi 455126313168696234964340 [(.str ⟨#[q]⟩ (tk16 84)), (.str ⟨#[92]⟩ (tk19 97))]) none 18 98 [] (orcV fun _ => .bool false) fun al20 tk20 => .call (.bi 116512096292018843154609524 [(.str ⟨#[c, 32]⟩ (tk14 74)), (.str ⟨#[q]⟩ (tk16 84))]) none 18 99 [] (orcV fun t => .str ⟨#[c, 32, q]⟩ t) fun al21 tk21 => .call (.bi 116512096292018843154739050 [(.int ((((n + 1) + 1) + 1) + 1) (tk17 89)), (.int 1 (tk21 104))]) none 20 108 [] (orcI fun x y => x + y) fun al22 tk22 => .call (.bi 500416356548588640944365259017385332 [(.str tx X.tt), (.ref (al22 20))]) none 21 109 [some ((al22 20), slI ((((n + 1) + 1) + 1) + 1) (tk17 89) (((((n + 1) + 1) + 1) + 1) + 1) (tk22 108))] (orcU [20] (fun t => .str ⟨#[34]⟩ t) (fun _ => [])) fun al23 tk23 => .call (.bi 116512096292018843154739050 [(.int ((((n + 1) + 1) + 1) + 1) (tk17 89)), (.int 1 (tk23 113))]) none 21 114 [] (orcI fun x y => x + y) fun al24 tk24 => .ret (.ok (.ret (.str ⟨#[c, 32, q]⟩ (tk21 99)))) [some (X.ld, ldO w X l tl), some (X.ai, aiO (((((n + 1) + 1) + 1) + 1) + 1) (tk24 114)), some (X.pb, pbO [] eb)]
noncomputable def osTok1 (c q : Nat) : List Orc := [orcI fun x y => x + y, orcU [8] (fun t => .str ⟨#[34]⟩ t) (fun _ => []), orcI fun x y => x + y, orcI fun x y => x + y, orcU [11] (fun t => .str ⟨#[c]⟩ t) (fun _ => []), orcI fun x y => x + y, orcV fun _ => .bool false, orcV fun _ => .bool false, orcV fun _ => .bool false, orcV fun t => .str ⟨#[c]⟩ t, orcI fun x y => x + y, orcU [14] (fun t => .str ⟨#[32]⟩ t) (fun _ => []), orcI fun x y => x + y, orcV fun t => .str ⟨#[c, 32]⟩ t, orcI fun x y => x + y, orcU [17] (fun t => .str ⟨#[q]⟩ t) (fun _ => []), orcI fun x y => x + y, orcV fun _ => .bool false, orcV fun _ => .bool false, orcV fun _ => .bool false, orcV fun t => .str ⟨#[c, 32, q]⟩ t, orcI fun x y => x + y, orcU [20] (fun t => .str ⟨#[34]⟩ t) (fun _ => []), orcI fun x y => x + y]
theorem run_tok1F (w : World) (X : Lx) (Y : CxO) (p : Pos) (tx : Str) (n l : Int) (tn tl eb c q : Nat) (al0 tk0 : Nat → Nat) : mixA [0, 1, 2] (seg (VV w) 1242 trTok1 (osTok1 c q) (Y.ctx (tokC X.lx)) p [] (denF (Y.ctx (tokC X.lx)).code) (mkT [(X.ld, ldO w X l tl), (X.ai, aiO n tn), (X.pb, pbO [] eb)] (lxRo w X tx)) 3 0 al0 tk0) = mixB (seg (VV w) 1242 trTok1 (osTok1 c q) (Y.ctx (tokC X.lx)) p [] (denF (Y.ctx (tokC X.lx)).code) (mkT [(X.ld, ldO w X l tl), (X.ai, aiO n tn), (X.pb, pbO [] eb)] (lxRo w X tx)) 3 0 al0 tk0) (eTok1 w X tx n l tn tl eb c q al0 tk0) := by kernel_rfl
theorem run_tok1W (w : World) (X : Lx) (Y : CxW) (p : Pos) (tx : Str) (n l : Int) (tn tl eb c q : Nat) (al0 tk0 : Nat → Nat) : mixA [0, 1, 2] (seg (VV w) 1242 trTok1 (osTok1 c q) (Y.ctx (tokC X.lx)) p [] (denF (Y.ctx (tokC X.lx)).code) (mkT [(X.ld, ldO w X l tl), (X.ai, aiO n tn), (X.pb, pbO [] eb)] (lxRo w X tx)) 3 0 al0 tk0) = mixB (seg (VV w) 1242 trTok1 (osTok1 c q) (Y.ctx (tokC X.lx)) p [] (denF (Y.ctx (tokC X.lx)).code) (mkT [(X.ld, ldO w X l tl), (X.ai, aiO n tn), (X.pb, pbO [] eb)] (lxRo w X tx)) 3 0 al0 tk0) (eTok1 w X tx n l tn tl eb c q al0 tk0) := by kernel_rfl
noncomputable def trTok2 : List Nat := [84, 83, 259, 259, 2, 259, 1256, 94, 94, 93, 0, 1256, 94, 94, 93, 1256, 1256, 94, 256, 258, 258, 0, 258, 0, 258, 258, 259, 259, 3, 0, 259, 1256, 94, 94, 93, 0, 1256, 94, 94, 93, 77, 77, 77, 1256, 1256, 94, 256, 94, 94, 93, 0, 77, 0, 260, 259, 259, 259, 261, 261, 0, 261, 261, 0, 261, 0, 261, 261, 261, 260, 77, 0, 260, 77, 76, 262, 262, 2, 262, 1256, 94, 94, 93, 0, 1256, 94, 94, 93, 1256, 1256, 94, 256, 1257, 1257, 1257, 1257, 0, 1257, 1257, 1257, 1257, 1258, 1259, 0, 1259, 1260, 263, 263, 2, 1261, 1262, 257, 257, 257, 0, 257, 257, 1262, 257, 257, 257, 0, 257, 257, 263, 1, 1, 263, 263, 1262, 257, 257, 257, 0, 257, 257, 3, 0, 263, 0, 0, 1, 1262, 257, 257, 0, 257, 257, 257, 257, 263, 262, 262, 262, 0, 262, 261, 261, 259, 259, 259, 259, 1256, 94, 94, 93, 0, 1256, 94, 94, 93, 1256, 1256, 94, 256, 0, 259, 0, 259, 0, 259, 1256, 94, 94, 93, 1256, 94, 94, 93, 1256, 94, 94, 93, 77, 1256, 256, 77, 0, 77, 76, 265, 265, 2, 265, 1256, 94, 94, 93, 0, 1256, 94, 94, 93, 1256, 1256, 94, 256, 1257, 1257, 1257, 1257, 0, 1257, 1257, 1257, 1257, 1258, 1259, 0, 1259, 1260, 266, 266, 2, 1261, 1262, 257, 257, 257, 0, 257, 257, 1262, 257, 257, 257, 0, 257, 257, 266, 1, 1, 266, 266, 1262, 257, 257, 257, 0, 257, 257, 3, 0, 266, 0, 0, 1, 1262, 257, 257, 0, 257, 257, 257, 257, 266, 265, 265, 265, 1, 265, 259, 259, 259, 259, 1, 259, 259, 259, 261, 261, 0, 261, 261, 0, 261, 0, 261, 261, 261, 260, 77, 0, 260, 77, 76, 268, 268, 2, 268, 1256, 94, 94, 93, 0, 1256, 94, 94, 93, 1256, 1256, 94, 256, 1257, 1257, 1257, 1257, 0, 1257, 1257, 1257, 1257, 1258, 1259, 0, 1259, 1260, 269, 269, 2, 1261, 1262, 257, 257, 257, 0, 257, 257, 1262, 257, 257, 257, 0, 257, 257, 269, 1, 1, 269, 269, 1262, 257, 257, 257, 0, 257, 257, 3, 0, 269, 0, 0, 1, 1262, 257, 257, 0, 257, 257, 257, 257, 269, 268, 268, 268, 0, 268, 261, 261, 259, 259, 259, 259, 1256, 94, 94, 93, 0, 1256, 94, 94, 93, 1256, 1256, 94, 256, 0, 259, 0, 259, 1256, 94, 94, 93, 1256, 94, 94, 93, 1256, 94, 94, 93, 77, 1256, 256, 77, 0, 77, 76, 271, 271, 2, 271, 1256, 94, 94, 93, 0, 1256, 94, 94, 93, 1256, 1256, 94, 256, 1257, 1257, 1257, 1257, 0, 1257, 1257, 1257, 1257, 1258, 1259, 0, 1259, 1260, 272, 272, 2, 1261, 1262, 257, 257, 257, 0, 257, 257, 1262, 257, 257, 257, 0, 257, 257, 272, 1, 1, 272, 272, 1262, 257, 257, 257, 0, 257, 257, 3, 0, 272, 0, 0, 1, 1262, 257, 257, 0, 257, 257, 257, 257, 272, 271, 271, 271, 0, 271, 259, 259, 259, 259, 1, 259, 259, 261, 0, 261, 261, 261, 260, 77, 0, 260, 77, 76, 274, 274, 2, 274, 1256, 94, 94, 93, 0, 1256, 94, 94, 93, 1256, 1256, 94, 256, 1257, 1257, 1257, 1257, 0, 1257, 1257, 1257, 1257, 1258, 1259, 0, 1259, 1260, 275, 275, 2, 1261, 1262, 257, 257, 257, 0, 257, 257, 1262, 257, 257, 257, 0, 257, 257, 275, 1, 1, 275, 275, 1262, 257, 257, 257, 0, 257, 257, 3, 0, 275, 0, 0, 1, 1262, 257, 257, 0, 257, 257, 257, 257, 275, 274, 274, 274, 0, 274, 261, 261, 259, 259, 259, 259, 1256, 94, 94, 93, 0, 1256, 94, 94, 93, 1256, 1256, 94, 256, 0, 259, 0, 259, 1256, 94, 94, 93, 1256, 94, 94, 93, 1256, 94, 94, 93, 77, 1256, 256, 77, 0, 77, 76, 277, 277, 2, 277, 1256, 94, 94, 93, 0, 1256, 94, 94, 93, 1256, 1256, 94, 256, 1257, 1257, 1257, 1257, 0, 1257, 1257, 1257, 1257, 1258, 1259, 0, 1259, 1260, 278, 278, 2, 1261, 1262, 257, 257, 257, 0, 257, 257, 1262, 257, 257, 257, 0, 257, 257, 278, 1, 1, 278, 278, 1262, 257, 257, 257, 0, 257, 257, 3, 0, 278, 0, 0, 1, 1262, 257, 257, 0, 257, 257, 257, 257, 278, 277, 277, 277, 1, 277, 259, 259, 259, 259, 1, 259, 259, 261, 0, 261, 261, 261, 260, 77, 0, 260, 77, 76, 280, 280, 2, 280, 1256, 94, 94, 93, 0, 1256, 94, 94, 93, 1256, 1256, 94, 256, 1257, 1257, 1257, 1257, 0, 1257, 1257, 1257, 1257, 1258, 1259, 0, 1259, 1260, 281, 281, 2, 1261, 1262, 257, 257, 257, 0, 257, 257, 1262, 257, 257, 257, 0, 257, 257, 281, 1, 1, 281, 281, 1262, 257, 257, 257, 0, 257, 257, 3, 0, 281, 0, 0, 1, 1262, 257, 257, 0, 257, 257, 257, 257, 281, 280, 280, 280, 0, 280, 261, 261, 259, 259, 259, 259, 1256, 94, 94, 93, 0, 1256, 94, 94, 93, 1256, 1256, 94, 256, 0, 259]
noncomputable def eTok2 (w : World) (X : Lx) (tx : Str) (n l : Int) (tn tl eb c q : Nat) (al0 tk0 : Nat → Nat) : RLog := .call (.bi 116512096292018843154739050 [(.int n tn), (.int 1 (tk0 12))]) none 8 16 [] (orcI fun x y => x + y) fun al1 tk1 => .call (.bi 500416356548588640944365259017385332 [(.str tx X.tt), (.ref (al1 8))]) none 9 17 [some ((al1 8), slI n tn (n + 1) (tk1 16))] (orcU [8] (fun t => .str ⟨#[92]⟩ t) (fun _ => [])) fun al2 tk2 => .call (.bi 116512096292018843154739050 [(.int n tn), (.int 1 (tk2 21))]) none 9 22 [] (orcI fun x y => x + y) fun al3 tk3 => .call (.bi 116512096292018843154739050 [(.int (n + 1) (tk3 22)), (.int 1 (tk3 33))]) none 11 37 [] (orcI fun x y => x + y) fun al4 tk4 => .call (.bi 500416356548588640944365259017385332 [(.str tx X.tt), (.ref (al4 11))]) none 12 38 [some ((al4 11), slI (n + 1) (tk3 22) ((n + 1) + 1) (tk4 37))] (orcU [11] (fun t => .str ⟨#[c]⟩ t) (fun _ => [])) fun al5 tk5 => .call (.bi 116512096292018843154739050 [(.int (n + 1) (tk3 22)), (.int 1 (tk5 42))]) none 12 43 [] (orcI fun x y => x + y) fun al6 tk6 => .call (.bi 455126313168696234964340 [(.str ⟨#[c]⟩ (tk5 38)), (.str ⟨#[10]⟩ (tk6 46))]) none 12 47 [] (orcV fun _ => .bool false) fun al7 tk7 => .call (.bi 116512096292018843154609524 [(.str "" (tk0 4)), (.str ⟨#[c]⟩ (tk5 38))]) none 12 49 [] (orcV fun t => .str ⟨#[c]⟩ t) fun al8 tk8 => .call (.bi 116512096292018843154739050 [(.int ((n + 1) + 1) (tk6 43)), (.int 1 (tk8 54))]) none 14 58 [] (orcI fun x y => x + y) fun al9 tk9 => .call (.bi 500416356548588640944365259017385332 [(.str tx X.tt), (.ref (al9 14))]) none 15 59 [some ((al9 14), slI ((n + 1) + 1) (tk6 43) (((n + 1) + 1) + 1) (tk9 58))] (orcU [14] (fun t => .str ⟨#[92]⟩ t) (fun _ => [])) fun al10 tk10 => .call (.bi 116512096292018843154739050 [(.int ((n + 1) + 1) (tk6 43)), (.int 1 (tk10 63))]) none 15 64 [] (orcI fun x y => x + y) fun al11 tk11 => .call (.bi 116512096292018843154739050 [(.int (((n + 1) + 1) + 1) (tk11 64)), (.int 1 (tk11 74))]) none 17 78 [] (orcI fun x y => x + y) fun al12 tk12 => .call (.bi 500416356548588640944365259017385332 [(.str tx X.tt), (.ref (al12 17))]) none 18 79 [some ((al12 17), slI (((n + 1) + 1) + 1) (tk11 64) ((((n + 1) + 1) + 1) + 1) (tk12 78))] (orcU [17] (fun t => .str ⟨#[32]⟩ t) (fun _ => [])) fun al13 tk13 => .call (.bi 116512096292018843154739050 [(.int (((n + 1) + 1) + 1) (tk11 64)), (.int 1 (tk13 83))]) none 18 84 [] (orcI fun x y => x + y) fun al14 tk14 => .call (.bi 116512096292018843154609524 [(.str ⟨#[c]⟩ (tk8 49)), (.str ⟨#[32]⟩ (tk13 79))]) none 18 89 [] (orcV fun t => .str ⟨#[c, 32]⟩ t) fun al15 tk15 => .call (.bi 116512096292018843154739050 [(.int ((((n + 1) + 1) + 1) + 1) (tk14 84)), (.int 1 (tk15 94))]) none 20 98 [] (orcI fun x y => x + y) fun al16 tk16 => .call (.bi 500416356548588640944365259017385332 [(.str tx X.tt), (.ref (al16 20))]) none 21 99 [some ((al16 20), slI ((((n + 1) + 1) + 1) + 1) (tk14 84) (((((n + 1) + 1) + 1) + 1) + 1) (tk16 98))] (orcU [20] (fun t => .str ⟨#[92]⟩ t) (fun _ => [])) fun al17 tk17 => .call (.bi 116512096292018843154739050 [(.int ((((n + 1) + 1) + 1) + 1) (tk14 84)), (.int 1 (tk17 103))]) none 21 104 [] (orcI fun x y => x + y) fun al18 tk18 => .call (.bi 116512096292018843154739050 [(.int (((((n + 1) + 1) + 1) + 1) + 1) (tk18 104)), (.int 1 (tk18 114))]) none 23 118 [] (orcI fun x y => x + y) fun al19 tk19 => .call (.bi 500416356548588640944365259017385332 [(.str tx X.tt), (.ref (al19 23))]) none 24 119 [some ((al19 23), slI (((((n + 1) + 1) + 1) + 1) + 1) (tk18 104) ((((((n + 1) + 1) + 1) + 1) + 1) + 1) (tk19 118))] (orcU [23] (fun t => .str ⟨#[q]⟩ t) (fun _ => [])) fun al20 tk20 => .call (.bi 116512096292018843154739050 [(.int (((((n + 1) + 1) + 1) + 1) + 1) (tk18 104)), (.int 1 (tk20 123))]) none 24 124 [] (orcI fun x y => x + y) fun al21 tk21 => .call (.bi 455126313168696234964340 [(.str ⟨#[q]⟩ (tk20 119)), (.str ⟨#[10]⟩ (tk21 127))]) none 24 128 [] (orcV fun _ => .bool false) fun al22 tk22 => .call (.bi 116512096292018843154609524 [(.str ⟨#[c, 32]⟩ (tk15 89)), (.str ⟨#[q]⟩ (tk20 119))]) none 24 130 [] (orcV fun t => .str ⟨#[c, 32, q]⟩ t) fun al23 tk23 => .call (.bi 116512096292018843154739050 [(.int ((((((n + 1) + 1) + 1) + 1) + 1) + 1) (tk21 124)), (.int 1 (tk23 135))]) none 26 139 [] (orcI fun x y => x + y) fun al24 tk24 => .call (.bi 500416356548588640944365259017385332 [(.str tx X.tt), (.ref (al24 26))]) none 27 140 [some ((al24 26), slI ((((((n + 1) + 1) + 1) + 1) + 1) + 1) (tk21 124) (((((((n + 1) + 1) + 1) + 1) + 1) + 1) + 1) (tk24 139))] (orcU [26] (fun t => .str ⟨#[9]⟩ t) (fun _ => [])) fun al25 tk25 => .call (.bi 116512096292018843154739050 [(.int ((((((n + 1) + 1) + 1) + 1) + 1) + 1) (tk21 124)), (.int 1 (tk25 144))]) none 27 145 [] (orcI fun x y => x + y) fun al26 tk26 => .ret (.ok (.ret (.str ⟨#[c, 32, q]⟩ (tk23 130)))) [some (X.ld, ldO w X l tl), some (X.ai, aiO (((((((n + 1) + 1) + 1) + 1) + 1) + 1) + 1) (tk26 145)), some (X.pb, pbO [] eb)]
noncomputable def osTok2 (c q : Nat) : List Orc := [orcI fun x y => x + y, orcU [8] (fun t => .str ⟨#[92]⟩ t) (fun _ => []), orcI fun x y => x + y, orcI fun x y => x + y, orcU [11] (fun t => .str ⟨#[c]⟩ t) (fun _ => []), orcI fun x y => x + y, orcV fun _ => .bool false, orcV fun t => .str ⟨#[c]⟩ t, orcI fun x y => x + y, orcU [14] (fun t => .str ⟨#[92]⟩ t) (fun _ => []), orcI fun x y => x + y, orcI fun x y => x + y, orcU [17] (fun t => .str ⟨#[32]⟩ t) (fun _ => []), orcI fun x y => x + y, orcV fun t => .str ⟨#[c, 32]⟩ t, orcI fun x y => x + y, orcU [20] (fun t => .str ⟨#[92]⟩ t) (fun _ => []), orcI fun x y => x + y, orcI fun x y => x + y, orcU [23] (fun t => .str ⟨#[q]⟩ t) (fun _ => []), orcI fun x y => x + y, orcV fun _ => .bool false, orcV fun t => .str ⟨#[c, 32, q]⟩ t, orcI fun x y => x + y, orcU [26] (fun t => .str ⟨#[9]⟩ t) (fun _ => []), orcI fun x y => x + y]
theorem run_tok2F (w : World) (X : Lx) (Y : CxO) (p : Pos) (tx : Str) (n l : Int) (tn tl eb c q : Nat) (al0 tk0 : Nat → Nat) : mixA [0, 1, 2] (seg (VV w) 1702 trTok2 (osTok2 c q) (Y.ctx (tokC X.lx)) p [] (denF (Y.ctx (tokC X.lx)).code) (mkT [(X.ld, ldO w X l tl), (X.ai, aiO n tn), (X.pb, pbO [] eb)] (lxRo w X tx)) 3 0 al0 tk0) = mixB (seg (VV w) 1702 trTok2 (osTok2 c q) (Y.ctx (tokC X.lx)) p [] (denF (Y.ctx (tokC X.lx)).code) (mkT [(X.ld, ldO w X l tl), (X.ai, aiO n tn), (X.pb, pbO [] eb)] (lxRo w X tx)) 3 0 al0 tk0) (eTok2 w X tx n l tn tl eb c q al0 tk0) := by kernel_rfl
theorem run_tok2W (w : World) (X : Lx) (Y : CxW) (p : Pos) (tx : Str) (n l : Int) (tn tl eb c q : Nat) (al0 tk0 : Nat → Nat) : mixA [0, 1, 2] (seg (VV w) 1702 trTok2 (osTok2 c q) (Y.ctx (tokC X.lx)) p [] (denF (Y.ctx (tokC X.lx)).code) (mkT [(X.ld, ldO w X l tl), (X.ai, aiO n tn), (X.pb, pbO [] eb)] (lxRo w X tx)) 3 0 al0 tk0) = mixB (seg (VV w) 1702 trTok2 (osTok2 c q) (Y.ctx (tokC X.lx)) p [] (denF (Y.ctx (tokC X.lx)).code) (mkT [(X.ld, ldO w X l tl), (X.ai, aiO n tn), (X.pb, pbO [] eb)] (lxRo w X tx)) 3 0 al0 tk0) (eTok2 w X tx n l tn tl eb c q al0 tk0) := by kernel_rfl
noncomputable def trTokE : List Nat := [84, 83, 259, 259, 2, 259, 1256, 94, 94, 93, 0, 1256, 94, 94, 93, 1256, 1256, 94, 256, 258, 258, 0, 258, 0, 258, 258, 259, 259, 3, 0, 259, 1256, 94, 94, 93, 0, 1256, 94, 94, 93, 77, 77, 77, 1256, 1256, 94, 256, 94, 94, 93, 0, 77, 0, 260, 259, 259, 259, 261, 261, 0, 261, 261, 0, 261, 0, 261, 261, 261, 260, 77, 0, 260, 77, 76, 262, 262, 2, 262, 1256, 94, 94, 93, 0, 1256, 94, 94, 93, 1256, 1256, 94, 256, 1257, 1257, 1257, 1257, 0, 1257, 1257, 1257, 1257, 1258, 1259, 0, 1259, 1260, 263, 263, 2, 1261, 1262, 257, 257, 257, 0, 257, 257, 1262, 257, 257, 257, 0, 257, 257, 263, 1, 1, 263, 263, 1262, 257, 257, 257, 0, 257, 257, 3, 0, 263, 0, 0, 1, 1262, 257, 257, 0, 257, 257, 257, 257, 263, 262, 262, 262, 0, 262, 261, 261, 261, 260, 77, 261, 261, 261, 261, 261, 261, 266, 259]
noncomputable def eTokE (w : World) (X : Lx) (tx : Str) (n l : Int) (tn tl eb c q : Nat) (al0 tk0 : Nat → Nat) : RLog := .call (.bi 116512096292018843154739050 [(.int n tn), (.int 1 (tk0 12))]) none 8 16 [] (orcI fun x y => x + y) fun al1 tk1 => .call (.bi 500416356548588640944365259017385332 [(.str tx X.tt), (.ref (al1 8))]) none 9 17 [some ((al1 8), slI n tn (n + 1) (tk1 16))] (orcU [8] (fun t => .str ⟨#[]⟩ t) (fun _ => [])) fun al2 tk2 => .call (.bi 116512096292018843154739050 [(.int n tn), (.int 0 (tk2 21))]) none 9 22 [] (orcI fun x y => x + y) fun al3 tk3 => .ret (.ok (.ret (.str "" (tk0 4)))) [some (X.ld, ldO w X l tl), some (X.ai, aiO (n + 0) (tk3 22)), some (X.pb, pbO [] eb)]
noncomputable def osTokE (c q : Nat) : List Orc := [orcI fun x y => x + y, orcU [8] (fun t => .str ⟨#[]⟩ t) (fun _ => []), orcI fun x y => x + y]
theorem run_tokEF (w : World) (X : Lx) (Y : CxO) (p : Pos) (tx : Str) (n l : Int) (tn tl eb c q : Nat) (al0 tk0 : Nat → Nat) : mixA [0, 1, 2] (seg (VV w) 325 trTokE (osTokE c q) (Y.ctx (tokC X.lx)) p [] (denF (Y.ctx (tokC X.lx)).code) (mkT [(X.ld, ldO w X l tl), (X.ai, aiO n tn), (X.pb, pbO [] eb)] (lxRo w X tx)) 3 0 al0 tk0) = mixB (seg (VV w) 325 trTokE (osTokE c q) (Y.ctx (tokC X.lx)) p [] (denF (Y.ctx (tokC X.lx)).code) (mkT [(X.ld, ldO w X l tl), (X.ai, aiO n tn), (X.pb, pbO [] eb)] (lxRo w X tx)) 3 0 al0 tk0) (eTokE w X tx n l tn tl eb c q al0 tk0) := by kernel_rfl
theorem run_tokEW (w : World) (X : Lx) (Y : CxW) (p : Pos) (tx : Str) (n l : Int) (tn tl eb c q : Nat) (al0 tk0 : Nat → Nat) : mixA [0, 1, 2] (seg (VV w) 325 trTokE (osTokE c q) (Y.ctx (tokC X.lx)) p [] (denF (Y.ctx (tokC X.lx)).code) (mkT [(X.ld, ldO w X l tl), (X.ai, aiO n tn), (X.pb, pbO [] eb)] (lxRo w X tx)) 3 0 al0 tk0) = mixB (seg (VV w) 325 trTokE (osTokE c q) (Y.ctx (tokC X.lx)) p [] (denF (Y.ctx (tokC X.lx)).code) (mkT [(X.ld, ldO w X l tl), (X.ai, aiO n tn), (X.pb, pbO [] eb)] (lxRo w X tx)) 3 0 al0 tk0) (eTokE w X tx n l tn tl eb c q al0 tk0) := by kernel_rfl
end Mine
namespace Mine
open PySem PySem.W PySem.W.X
open Sem (wp finPost)
/-! get_token: its contract -/
structure LxIn (w : World) (s : Shared) (X : Lx) (tx : Str) : Prop where
  top : TopIn w s
  ro : ∀ c ∈ lxRo w X tx, s.heap.get? c.1 = some c.2
  nd : [X.ld, X.ai, X.pb].Nodup
  big : 140 ≤ X.ld ∧ 140 ≤ X.ai ∧ 140 ≤ X.pb
  off : ∀ c ∈ lxRo w X tx, c.1 ∉ [X.ld, X.ai, X.pb]
theorem at_ok {tx : Str} {n : Int} {L : List Nat} (hd : tx.cps.toList.drop n.toNat = L) (h0 : 0 ≤ n) (k : Nat) {m : Int} {c : Nat} (hm : m = n + k) (hc : L[k]? = some c) : tx.cps[m.toNat]? = some c := by
  subst hm
  rw [← hd, List.getElem?_drop] at hc
  rw [show (n + (k : Int)).toNat = n.toNat + k by omega]
  simpa using hc
theorem ne_one {c d : Nat} (h : c ≠ d) : ((⟨#[c]⟩ : Str).cps.toList == (⟨#[d]⟩ : Str).cps.toList) = false := by
  show ([c] == [d]) = false
  simpa using h
theorem not_white {c : Nat} (h : 48 ≤ c) : decide (c ∈ (⟨#[10, 9, 13, 32]⟩ : Str).cps.toList) = false := by
  show decide (c ∈ [10, 9, 13, 32]) = false
  simp; omega
theorem line_small {x : Str} (h : Nat.ble x.length 1000 = true) : x.length ≤ sizeLine := by
  rw [sizeLine_eq]
  have := Nat.le_of_ble_eq_true h
  omega
theorem lx_rep {w : World} {s : Shared} {X : Lx} {tx : Str} {n l : Int} {tn tl eb : Nat} {vs : List Value} (H : LxIn w s X tx) (h1 : s.heap.get? X.ld = some (ldO w X l tl)) (h2 : s.heap.get? X.ai = some (aiO n tn)) (h3 : s.heap.get? X.pb = some (pbO vs eb)) :
    Rep (VV w) s [X.ld, X.ai, X.pb] (mkT [(X.ld, ldO w X l tl), (X.ai, aiO n tn), (X.pb, pbO vs eb)] (lxRo w X tx)) 3 0 (alOf 3 [] s.heap.objs.size) (alOf 0 [] s.toks) s :=
  rep_start (V := VV w) (cs := [(X.ld, ldO w X l tl), (X.ai, aiO n tn), (X.pb, pbO vs eb)]) (rs := lxRo w X tx) H.top ((allC h1 (allC h2 (allC h3 allN)))) H.nd ((allC (top_off H.big.1) (allC (top_off H.big.2.1) (allC (top_off H.big.2.2) allN)))) (fun c hc => ⟨H.ro c hc, H.off c hc⟩) (by simp)
/-- what a token got leaves -/
noncomputable def TokTo (w : World) (X : Lx) (s s' : Shared) (n l : Int) (eb : Nat) : Prop := (∃ tl, s'.heap.get? X.ld = some (ldO w X l tl)) ∧ (∃ tn, s'.heap.get? X.ai = some (aiO n tn)) ∧ s'.heap.get? X.pb = some (pbO [] eb) ∧ Step s s' [X.ld, X.ai, X.pb]
noncomputable def spellL (way c q : Nat) : List Nat := if way = 0 then [c, 92, 32, q, 10] else if way = 1 then [34, c, 32, q, 34] else [92, c, 92, 32, 92, q, 9]
theorem tok_0F {w : World} {X : Lx} {Y : CxO} {p : Pos} {s : Shared} {tx : Str} {n l : Int} {tn tl eb c q : Nat} {rest : List Nat} (H : LxIn w s X tx) (h1 : s.heap.get? X.ld = some (ldO w X l tl)) (h2 : s.heap.get? X.ai = some (aiO n tn)) (h3 : s.heap.get? X.pb = some (pbO [] eb)) (h0 : 0 ≤ n) (hc : 48 ≤ c ∧ c ≤ 57) (hq : 48 ≤ q ∧ q ≤ 57) (hd : tx.cps.toList.drop n.toNat = spellL 0 c q ++ rest) :
    ∃ t s', Returns (model prog w) (Y.ctx (tokC X.lx)) p s (.ok (.ret (.str ⟨#[c, 32, q]⟩ t))) s' ∧ TokTo w X s s' (n + 5) (l + 1) eb := by
  obtain ⟨r, s', hr, t, rfl, h⟩ := run_mix (fs := [0, 1, 2]) (R := fun r s' => ∃ t, r = .ok (.ret (.str ⟨#[c, 32, q]⟩ t)) ∧ TokTo w X s s' (n + 5) (l + 1) eb) (isM w) (skip_ok _ w) (lx_rep H h1 h2 h3) (run_tok0F w X Y p tx n l tn tl eb c q _ _)
    (okr_addI rfl fun al1 tk1 => okr_schar c (by omega) (at_ok hd h0 0 (by omega) rfl) rfl fun al2 tk2 => okr_addI rfl fun al3 tk3 => okr_seq false (ne_one (by omega)) rfl fun al4 tk4 => okr_scont false (not_white (by omega)) rfl fun al5 tk5 => okr_seq false (ne_one (by omega)) rfl fun al6 tk6 => okr_seq false (ne_one (by omega)) rfl fun al7 tk7 => okr_sadd ⟨#[c]⟩ rfl (line_small rfl) rfl fun al8 tk8 => okr_addI rfl fun al9 tk9 => okr_schar 92 (by omega) (at_ok hd h0 1 (by omega) rfl) rfl fun al10 tk10 => okr_addI rfl fun al11 tk11 => okr_addI rfl fun al12 tk12 => okr_schar 32 (by omega) (at_ok hd h0 2 (by omega) rfl) rfl fun al13 tk13 => okr_addI rfl fun al14 tk14 => okr_sadd ⟨#[c, 32]⟩ rfl (line_small rfl) rfl fun al15 tk15 => okr_addI rfl fun al16 tk16 => okr_schar q (by omega) (at_ok hd h0 3 (by omega) rfl) rfl fun al17 tk17 => okr_addI rfl fun al18 tk18 => okr_seq false (ne_one (by omega)) rfl fun al19 tk19 => okr_scont false (not_white (by omega)) rfl fun al20 tk20 => okr_seq false (ne_one (by omega)) rfl fun al21 tk21 => okr_sadd ⟨#[c, 32, q]⟩ rfl (line_small rfl) rfl fun al22 tk22 => okr_addI rfl fun al23 tk23 => okr_schar 10 (by omega) (at_ok hd h0 4 (by omega) rfl) rfl fun al24 tk24 => okr_addI rfl fun al25 tk25 => okr_addI rfl fun al26 tk26 => fun s' hn hc => ⟨_, rfl, ⟨_, hc.1⟩, ⟨_, (by have z := hc.2.1; rw [show n + 5 = n + 1 + 1 + 1 + 1 + 1 by omega]; exact z)⟩, hc.2.2.1, hn.step⟩)
  exact ⟨t, s', hr, h⟩
theorem tok_0W {w : World} {X : Lx} {Y : CxW} {p : Pos} {s : Shared} {tx : Str} {n l : Int} {tn tl eb c q : Nat} {rest : List Nat} (H : LxIn w s X tx) (h1 : s.heap.get? X.ld = some (ldO w X l tl)) (h2 : s.heap.get? X.ai = some (aiO n tn)) (h3 : s.heap.get? X.pb = some (pbO [] eb)) (h0 : 0 ≤ n) (hc : 48 ≤ c ∧ c ≤ 57) (hq : 48 ≤ q ∧ q ≤ 57) (hd : tx.cps.toList.drop n.toNat = spellL 0 c q ++ rest) :
    ∃ t s', Returns (model prog w) (Y.ctx (tokC X.lx)) p s (.ok (.ret (.str ⟨#[c, 32, q]⟩ t))) s' ∧ TokTo w X s s' (n + 5) (l + 1) eb := by
  obtain ⟨r, s', hr, t, rfl, h⟩ := run_mix (fs := [0, 1, 2]) (R := fun r s' => ∃ t, r = .ok (.ret (.str ⟨#[c, 32, q]⟩ t)) ∧ TokTo w X s s' (n + 5) (l + 1) eb) (isM w) (skip_ok _ w) (lx_rep H h1 h2 h3) (run_tok0W w X Y p tx n l tn tl eb c q _ _)
    (okr_addI rfl fun al1 tk1 => okr_schar c (by omega) (at_ok hd h0 0 (by omega) rfl) rfl fun al2 tk2 => okr_addI rfl fun al3 tk3 => okr_seq false (ne_one (by omega)) rfl fun al4 tk4 => okr_scont false (not_white (by omega)) rfl fun al5 tk5 => okr_seq false (ne_one (by omega)) rfl fun al6 tk6 => okr_seq false (ne_one (by omega)) rfl fun al7 tk7 => okr_sadd ⟨#[c]⟩ rfl (line_small rfl) rfl fun al8 tk8 => okr_addI rfl fun al9 tk9 => okr_schar 92 (by omega) (at_ok hd h0 1 (by omega) rfl) rfl fun al10 tk10 => okr_addI rfl fun al11 tk11 => okr_addI rfl fun al12 tk12 => okr_schar 32 (by omega) (at_ok hd h0 2 (by omega) rfl) rfl fun al13 tk13 => okr_addI rfl fun al14 tk14 => okr_sadd ⟨#[c, 32]⟩ rfl (line_small rfl) rfl fun al15 tk15 => okr_addI rfl fun al16 tk16 => okr_schar q (by omega) (at_ok hd h0 3 (by omega) rfl) rfl fun al17 tk17 => okr_addI rfl fun al18 tk18 => okr_seq false (ne_one (by omega)) rfl fun al19 tk19 => okr_scont false (not_white (by omega)) rfl fun al20 tk20 => okr_seq false (ne_one (by omega)) rfl fun al21 tk21 => okr_sadd ⟨#[c, 32, q]⟩ rfl (line_small rfl) rfl fun al22 tk22 => okr_addI rfl fun al23 tk23 => okr_schar 10 (by omega) (at_ok hd h0 4 (by omega) rfl) rfl fun al24 tk24 => okr_addI rfl fun al25 tk25 => okr_addI rfl fun al26 tk26 => fun s' hn hc => ⟨_, rfl, ⟨_, hc.1⟩, ⟨_, (by have z := hc.2.1; rw [show n + 5 = n + 1 + 1 + 1 + 1 + 1 by omega]; exact z)⟩, hc.2.2.1, hn.step⟩)
  exact ⟨t, s', hr, h⟩
theorem tok_1F {w : World} {X : Lx} {Y : CxO} {p : Pos} {s : Shared} {tx : Str} {n l : Int} {tn tl eb c q : Nat} {rest : List Nat} (H : LxIn w s X tx) (h1 : s.heap.get? X.ld = some (ldO w X l tl)) (h2 : s.heap.get? X.ai = some (aiO n tn)) (h3 : s.heap.get? X.pb = some (pbO [] eb)) (h0 : 0 ≤ n) (hc : 48 ≤ c ∧ c ≤ 57) (hq : 48 ≤ q ∧ q ≤ 57) (hd : tx.cps.toList.drop n.toNat = spellL 1 c q ++ rest) :
    ∃ t s', Returns (model prog w) (Y.ctx (tokC X.lx)) p s (.ok (.ret (.str ⟨#[c, 32, q]⟩ t))) s' ∧ TokTo w X s s' (n + 5) (l) eb := by
  obtain ⟨r, s', hr, t, rfl, h⟩ := run_mix (fs := [0, 1, 2]) (R := fun r s' => ∃ t, r = .ok (.ret (.str ⟨#[c, 32, q]⟩ t)) ∧ TokTo w X s s' (n + 5) (l) eb) (isM w) (skip_ok _ w) (lx_rep H h1 h2 h3) (run_tok1F w X Y p tx n l tn tl eb c q _ _)
    (okr_addI rfl fun al1 tk1 => okr_schar 34 (by omega) (at_ok hd h0 0 (by omega) rfl) rfl fun al2 tk2 => okr_addI rfl fun al3 tk3 => okr_addI rfl fun al4 tk4 => okr_schar c (by omega) (at_ok hd h0 1 (by omega) rfl) rfl fun al5 tk5 => okr_addI rfl fun al6 tk6 => okr_seq false (ne_one (by omega)) rfl fun al7 tk7 => okr_seq false (ne_one (by omega)) rfl fun al8 tk8 => okr_seq false (ne_one (by omega)) rfl fun al9 tk9 => okr_sadd ⟨#[c]⟩ rfl (line_small rfl) rfl fun al10 tk10 => okr_addI rfl fun al11 tk11 => okr_schar 32 (by omega) (at_ok hd h0 2 (by omega) rfl) rfl fun al12 tk12 => okr_addI rfl fun al13 tk13 => okr_sadd ⟨#[c, 32]⟩ rfl (line_small rfl) rfl fun al14 tk14 => okr_addI rfl fun al15 tk15 => okr_schar q (by omega) (at_ok hd h0 3 (by omega) rfl) rfl fun al16 tk16 => okr_addI rfl fun al17 tk17 => okr_seq false (ne_one (by omega)) rfl fun al18 tk18 => okr_seq false (ne_one (by omega)) rfl fun al19 tk19 => okr_seq false (ne_one (by omega)) rfl fun al20 tk20 => okr_sadd ⟨#[c, 32, q]⟩ rfl (line_small rfl) rfl fun al21 tk21 => okr_addI rfl fun al22 tk22 => okr_schar 34 (by omega) (at_ok hd h0 4 (by omega) rfl) rfl fun al23 tk23 => okr_addI rfl fun al24 tk24 => fun s' hn hc => ⟨_, rfl, ⟨_, hc.1⟩, ⟨_, (by have z := hc.2.1; rw [show n + 5 = n + 1 + 1 + 1 + 1 + 1 by omega]; exact z)⟩, hc.2.2.1, hn.step⟩)
  exact ⟨t, s', hr, h⟩
theorem tok_1W {w : World} {X : Lx} {Y : CxW} {p : Pos} {s : Shared} {tx : Str} {n l : Int} {tn tl eb c q : Nat} {rest : List Nat} (H : LxIn w s X tx) (h1 : s.heap.get? X.ld = some (ldO w X l tl)) (h2 : s.heap.get? X.ai = some (aiO n tn)) (h3 : s.heap.get? X.pb = some (pbO [] eb)) (h0 : 0 ≤ n) (hc : 48 ≤ c ∧ c ≤ 57) (hq : 48 ≤ q ∧ q ≤ 57) (hd : tx.cps.toList.drop n.toNat = spellL 1 c q ++ rest) :
    ∃ t s', Returns (model prog w) (Y.ctx (tokC X.lx)) p s (.ok (.ret (.str ⟨#[c, 32, q]⟩ t))) s' ∧ TokTo w X s s' (n + 5) (l) eb := by
  obtain ⟨r, s', hr, t, rfl, h⟩ := run_mix (fs := [0, 1, 2]) (R := fun r s' => ∃ t, r = .ok (.ret (.str ⟨#[c, 32, q]⟩ t)) ∧ TokTo w X s s' (n + 5) (l) eb) (isM w) (skip_ok _ w) (lx_rep H h1 h2 h3) (run_tok1W w X Y p tx n l tn tl eb c q _ _)
    (okr_addI rfl fun al1 tk1 => okr_schar 34 (by omega) (at_ok hd h0 0 (by omega) rfl) rfl fun al2 tk2 => okr_addI rfl fun al3 tk3 => okr_addI rfl fun al4 tk4 => okr_schar c (by omega) (at_ok hd h0 1 (by omega) rfl) rfl fun al5 tk5 => okr_addI rfl fun al6 tk6 => okr_seq false (ne_one (by omega)) rfl fun al7 tk7 => okr_seq false (ne_one (by omega)) rfl fun al8 tk8 => okr_seq false (ne_one (by omega)) rfl fun al9 tk9 => okr_sadd ⟨#[c]⟩ rfl (line_small rfl) rfl fun al10 tk10 => okr_addI rfl fun al11 tk11 => okr_schar 32 (by omega) (at_ok hd h0 2 (by omega) rfl) rfl fun al12 tk12 => okr_addI rfl fun al13 tk13 => okr_sadd ⟨#[c, 32]⟩ rfl (line_small rfl) rfl fun al14 tk14 => okr_addI rfl fun al15 tk15 => okr_schar q (by omega) (at_ok hd h0 3 (by omega) rfl) rfl fun al16 tk16 => okr_addI rfl fun al17 tk17 => okr_seq false (ne_one (by omega)) rfl fun al18 tk18 => okr_seq false (ne_one (by omega)) rfl fun al19 tk19 => okr_seq false (ne_one (by omega)) rfl fun al20 tk20 => okr_sadd ⟨#[c, 32, q]⟩ rfl (line_small rfl) rfl fun al21 tk21 => okr_addI rfl fun al22 tk22 => okr_schar 34 (by omega) (at_ok hd h0 4 (by omega) rfl) rfl fun al23 tk23 => okr_addI rfl fun al24 tk24 => fun s' hn hc => ⟨_, rfl, ⟨_, hc.1⟩, ⟨_, (by have z := hc.2.1; rw [show n + 5 = n + 1 + 1 + 1 + 1 + 1 by omega]; exact z)⟩, hc.2.2.1, hn.step⟩)
  exact ⟨t, s', hr, h⟩
theorem tok_2F {w : World} {X : Lx} {Y : CxO} {p : Pos} {s : Shared} {tx : Str} {n l : Int} {tn tl eb c q : Nat} {rest : List Nat} (H : LxIn w s X tx) (h1 : s.heap.get? X.ld = some (ldO w X l tl)) (h2 : s.heap.get? X.ai = some (aiO n tn)) (h3 : s.heap.get? X.pb = some (pbO [] eb)) (h0 : 0 ≤ n) (hc : 48 ≤ c ∧ c ≤ 57) (hq : 48 ≤ q ∧ q ≤ 57) (hd : tx.cps.toList.drop n.toNat = spellL 2 c q ++ rest) :
    ∃ t s', Returns (model prog w) (Y.ctx (tokC X.lx)) p s (.ok (.ret (.str ⟨#[c, 32, q]⟩ t))) s' ∧ TokTo w X s s' (n + 7) (l) eb := by
  obtain ⟨r, s', hr, t, rfl, h⟩ := run_mix (fs := [0, 1, 2]) (R := fun r s' => ∃ t, r = .ok (.ret (.str ⟨#[c, 32, q]⟩ t)) ∧ TokTo w X s s' (n + 7) (l) eb) (isM w) (skip_ok _ w) (lx_rep H h1 h2 h3) (run_tok2F w X Y p tx n l tn tl eb c q _ _)
    (okr_addI rfl fun al1 tk1 => okr_schar 92 (by omega) (at_ok hd h0 0 (by omega) rfl) rfl fun al2 tk2 => okr_addI rfl fun al3 tk3 => okr_addI rfl fun al4 tk4 => okr_schar c (by omega) (at_ok hd h0 1 (by omega) rfl) rfl fun al5 tk5 => okr_addI rfl fun al6 tk6 => okr_seq false (ne_one (by omega)) rfl fun al7 tk7 => okr_sadd ⟨#[c]⟩ rfl (line_small rfl) rfl fun al8 tk8 => okr_addI rfl fun al9 tk9 => okr_schar 92 (by omega) (at_ok hd h0 2 (by omega) rfl) rfl fun al10 tk10 => okr_addI rfl fun al11 tk11 => okr_addI rfl fun al12 tk12 => okr_schar 32 (by omega) (at_ok hd h0 3 (by omega) rfl) rfl fun al13 tk13 => okr_addI rfl fun al14 tk14 => okr_sadd ⟨#[c, 32]⟩ rfl (line_small rfl) rfl fun al15 tk15 => okr_addI rfl fun al16 tk16 => okr_schar 92 (by omega) (at_ok hd h0 4 (by omega) rfl) rfl fun al17 tk17 => okr_addI rfl fun al18 tk18 => okr_addI rfl fun al19 tk19 => okr_schar q (by omega) (at_ok hd h0 5 (by omega) rfl) rfl fun al20 tk20 => okr_addI rfl fun al21 tk21 => okr_seq false (ne_one (by omega)) rfl fun al22 tk22 => okr_sadd ⟨#[c, 32, q]⟩ rfl (line_small rfl) rfl fun al23 tk23 => okr_addI rfl fun al24 tk24 => okr_schar 9 (by omega) (at_ok hd h0 6 (by omega) rfl) rfl fun al25 tk25 => okr_addI rfl fun al26 tk26 => fun s' hn hc => ⟨_, rfl, ⟨_, hc.1⟩, ⟨_, (by have z := hc.2.1; rw [show n + 7 = n + 1 + 1 + 1 + 1 + 1 + 1 + 1 by omega]; exact z)⟩, hc.2.2.1, hn.step⟩)
  exact ⟨t, s', hr, h⟩
theorem tok_2W {w : World} {X : Lx} {Y : CxW} {p : Pos} {s : Shared} {tx : Str} {n l : Int} {tn tl eb c q : Nat} {rest : List Nat} (H : LxIn w s X tx) (h1 : s.heap.get? X.ld = some (ldO w X l tl)) (h2 : s.heap.get? X.ai = some (aiO n tn)) (h3 : s.heap.get? X.pb = some (pbO [] eb)) (h0 : 0 ≤ n) (hc : 48 ≤ c ∧ c ≤ 57) (hq : 48 ≤ q ∧ q ≤ 57) (hd : tx.cps.toList.drop n.toNat = spellL 2 c q ++ rest) :
    ∃ t s', Returns (model prog w) (Y.ctx (tokC X.lx)) p s (.ok (.ret (.str ⟨#[c, 32, q]⟩ t))) s' ∧ TokTo w X s s' (n + 7) (l) eb := by
  obtain ⟨r, s', hr, t, rfl, h⟩ := run_mix (fs := [0, 1, 2]) (R := fun r s' => ∃ t, r = .ok (.ret (.str ⟨#[c, 32, q]⟩ t)) ∧ TokTo w X s s' (n + 7) (l) eb) (isM w) (skip_ok _ w) (lx_rep H h1 h2 h3) (run_tok2W w X Y p tx n l tn tl eb c q _ _)
    (okr_addI rfl fun al1 tk1 => okr_schar 92 (by omega) (at_ok hd h0 0 (by omega) rfl) rfl fun al2 tk2 => okr_addI rfl fun al3 tk3 => okr_addI rfl fun al4 tk4 => okr_schar c (by omega) (at_ok hd h0 1 (by omega) rfl) rfl fun al5 tk5 => okr_addI rfl fun al6 tk6 => okr_seq false (ne_one (by omega)) rfl fun al7 tk7 => okr_sadd ⟨#[c]⟩ rfl (line_small rfl) rfl fun al8 tk8 => okr_addI rfl fun al9 tk9 => okr_schar 92 (by omega) (at_ok hd h0 2 (by omega) rfl) rfl fun al10 tk10 => okr_addI rfl fun al11 tk11 => okr_addI rfl fun al12 tk12 => okr_schar 32 (by omega) (at_ok hd h0 3 (by omega) rfl) rfl fun al13 tk13 => okr_addI rfl fun al14 tk14 => okr_sadd ⟨#[c, 32]⟩ rfl (line_small rfl) rfl fun al15 tk15 => okr_addI rfl fun al16 tk16 => okr_schar 92 (by omega) (at_ok hd h0 4 (by omega) rfl) rfl fun al17 tk17 => okr_addI rfl fun al18 tk18 => okr_addI rfl fun al19 tk19 => okr_schar q (by omega) (at_ok hd h0 5 (by omega) rfl) rfl fun al20 tk20 => okr_addI rfl fun al21 tk21 => okr_seq false (ne_one (by omega)) rfl fun al22 tk22 => okr_sadd ⟨#[c, 32, q]⟩ rfl (line_small rfl) rfl fun al23 tk23 => okr_addI rfl fun al24 tk24 => okr_schar 9 (by omega) (at_ok hd h0 6 (by omega) rfl) rfl fun al25 tk25 => okr_addI rfl fun al26 tk26 => fun s' hn hc => ⟨_, rfl, ⟨_, hc.1⟩, ⟨_, (by have z := hc.2.1; rw [show n + 7 = n + 1 + 1 + 1 + 1 + 1 + 1 + 1 by omega]; exact z)⟩, hc.2.2.1, hn.step⟩)
  exact ⟨t, s', hr, h⟩
theorem tok_EF {w : World} {X : Lx} {Y : CxO} {p : Pos} {s : Shared} {tx : Str} {n l : Int} {tn tl eb : Nat} (H : LxIn w s X tx) (h1 : s.heap.get? X.ld = some (ldO w X l tl)) (h2 : s.heap.get? X.ai = some (aiO n tn)) (h3 : s.heap.get? X.pb = some (pbO [] eb)) (hend : n = tx.length) :
    ∃ t s', Returns (model prog w) (Y.ctx (tokC X.lx)) p s (.ok (.ret (.str ⟨#[]⟩ t))) s' ∧ TokTo w X s s' n l eb := by
  obtain ⟨r, s', hr, t, rfl, h⟩ := run_mix (fs := [0, 1, 2]) (R := fun r s' => ∃ t, r = .ok (.ret (.str ⟨#[]⟩ t)) ∧ TokTo w X s s' n l eb) (isM w) (skip_ok _ w) (lx_rep H h1 h2 h3) (run_tokEF w X Y p tx n l tn tl eb 0 0 _ _)
    (okr_addI rfl fun al1 tk1 => okr_send (hend) rfl fun al2 tk2 => okr_addI rfl fun al3 tk3 => fun s' hn hc => ⟨_, rfl, ⟨_, hc.1⟩, ⟨_, (by have z := hc.2.1; simpa using z)⟩, hc.2.2.1, hn.step⟩)
  exact ⟨t, s', hr, h⟩
theorem tok_EW {w : World} {X : Lx} {Y : CxW} {p : Pos} {s : Shared} {tx : Str} {n l : Int} {tn tl eb : Nat} (H : LxIn w s X tx) (h1 : s.heap.get? X.ld = some (ldO w X l tl)) (h2 : s.heap.get? X.ai = some (aiO n tn)) (h3 : s.heap.get? X.pb = some (pbO [] eb)) (hend : n = tx.length) :
    ∃ t s', Returns (model prog w) (Y.ctx (tokC X.lx)) p s (.ok (.ret (.str ⟨#[]⟩ t))) s' ∧ TokTo w X s s' n l eb := by
  obtain ⟨r, s', hr, t, rfl, h⟩ := run_mix (fs := [0, 1, 2]) (R := fun r s' => ∃ t, r = .ok (.ret (.str ⟨#[]⟩ t)) ∧ TokTo w X s s' n l eb) (isM w) (skip_ok _ w) (lx_rep H h1 h2 h3) (run_tokEW w X Y p tx n l tn tl eb 0 0 _ _)
    (okr_addI rfl fun al1 tk1 => okr_send (hend) rfl fun al2 tk2 => okr_addI rfl fun al3 tk3 => fun s' hn hc => ⟨_, rfl, ⟨_, hc.1⟩, ⟨_, (by have z := hc.2.1; simpa using z)⟩, hc.2.2.1, hn.step⟩)
  exact ⟨t, s', hr, h⟩
end Mine
namespace Mine
open PySem PySem.W PySem.W.X
open Sem (wp finPost)
/-! _law_as_read: its contracts -/
noncomputable def asLoop (f : Nat) : Code := whC (st 14) 2 "_law_as_read.<locals>." 122 f
noncomputable def rdX (Z : CxO) (f : Nat) (p1 : Pos) : CxW := { wt := whT (nthS (fnBody (st 14)) 2), wb := whB (nthS (fnBody (st 14)) 2), wo := whO (nthS (fnBody (st 14)) 2), we := envF (st 14) "_law_as_read.<locals>." 122 f, e2 := Z.e2, e3 := Z.e3, b2 := Z.b2, b3 := Z.b3, p1 := p1, p2 := Z.p2, p3 := Z.p3, p4 := Z.p4 }
noncomputable def ssO (ws : List (Str × Tok)) (ep : Nat) : Obj := { cls := .type "list", data := .seq (strValues ws).toArray ep }
noncomputable def appU (ws : List (Str × Tok)) (ep : Nat) (c : Code) : List (Option Obj) := match c with
  | .call _ a => match a with
    | ⟨as, _⟩ => match as with
      | [_, .str x t] => [some (ssO (ws ++ [(x, t)]) (ep + 1))]
      | _ => []
  | _ => []
noncomputable def oApp (j : Nat) (ws : List (Str × Tok)) (ep : Nat) : Orc := orcU [j] (fun _ => .none) (appU ws ep)
noncomputable def oTok (w : World) (X : Lx) (js : List Nat) (v : Str) (n l : Int) (eb : Nat) : Orc := { ctx := true, sel := js, r := (fun _ _ i _ tk => .ok (.ret (.str v (tk i)))), upd := (fun _ _ i _ tk => [some (ldO w X l (tk (i + 1))), some (aiO n (tk (i + 2))), some (pbO [] eb)]), di := 3 }
section
variable {w : World} {s₀ : Shared} {A₀ : List Addr} {R : Result → Shared → Prop} {m i : Nat} {next : (Nat → Nat) → (Nat → Nat) → RLog}
theorem okr_app {V : SV} {a j ep t : Nat} {ws : List (Str × Tok)} {x : Str} (hz : ws.length ≤ 1000) (hj : Nat.blt j 1000 = true) (hm : Nat.ble m 1000 = true) (ok : ∀ al tk, OkR V (model prog w) s₀ A₀ R (next al tk)) :
    OkR V (model prog w) s₀ A₀ R (.call (.bi 122627580202994350266018413 [.ref a, .str x t]) none m i [some (a, ssO ws ep)] (oApp j ws ep) next) := by
  refine okr_U (fun c Γ p h1 h2 s _ hc => ?_) hm ok
  have hc' := rc_bi h1 "list.append" (by decide +kernel)
  subst hc'
  have hT : s.TypeIs (.ref a) "list" := ⟨_, hc.1, rfl⟩
  have hsz : (strValues ws).toArray.size ≤ sizeLine := by rw [sizeLine_eq]; simp [strValues]; omega
  refine ⟨0, { s with heap := s.heap.update a (Obj.mapSeq fun xs => xs.push (.str x t)), toks := s.toks + 0 }, returns_at h2 fun A => code_meets slot_list_append hT entry_list_append (args_list_append _ _) (AutoListH.list_append_list_val_0 a (strValues ws).toArray ep (.str x t) hsz prog w A (fun r₁ s₁ => r₁ = .ok (.ret .none) ∧ s₁ = _) s ⟨hc.1, rfl, rfl⟩), (by simp [selOk, appU, hj]), ⟨?_, trivial⟩, step_update 0 hc.1⟩
  show (s.heap.update a _).get? a = some (ssO (ws ++ [(x, t)]) (ep + 1))
  have e : ssO (ws ++ [(x, t)]) (ep + 1) = Obj.mapSeq (fun xs => xs.push (.str x t)) (ssO ws ep) := by
    unfold ssO Obj.mapSeq
    simp [strValues]
  rw [e]
  exact Heap.get?_update_self _ hc.1 rfl
theorem LxIn.now {w : World} {s₀ s : Shared} {A₀ : List Addr} {X : Lx} {tx : Str} (H : LxIn w s₀ X tx) (hA : ∀ c ∈ lxRo w X tx, c.1 ∉ A₀) (hn : Now (VV w) s₀ A₀ s) : LxIn w s X tx :=
  ⟨hn.top, fun c hc => hn.keep c.1 c.2 (H.ro c hc) (hA c hc), H.nd, H.big, H.off⟩
theorem okr_tok {Γ₀ : Ctx} {p0 : Pos} {X : Lx} {tx v : Str} {n l n' l' : Int} {tn tl eb : Nat} {js : List Nat} (hL : LxIn w s₀ X tx) (hA : ∀ c ∈ lxRo w X tx, c.1 ∉ A₀) (hj : selOk js [some default, some default, some default] = true)
    (H : ∀ s, LxIn w s X tx → s.heap.get? X.ld = some (ldO w X l tl) → s.heap.get? X.ai = some (aiO n tn) → s.heap.get? X.pb = some (pbO [] eb) → ∃ t s', Returns (model prog w) Γ₀ p0 s (.ok (.ret (.str v t))) s' ∧ TokTo w X s s' n' l' eb) (hm : m ≤ 1000) (ok : ∀ al tk, OkR (VV w) (model prog w) s₀ A₀ R (next al tk)) :
    OkR (VV w) (model prog w) s₀ A₀ R (.call (.fn 84 [.ref X.lx]) (some (Γ₀, p0)) m i [some (X.ld, ldO w X l tl), some (X.ai, aiO n tn), some (X.pb, pbO [] eb)] (oTok w X js v n' l' eb) next) := by
  refine okr_gen fun c Γ p e1 e2 e3 s hnow hc => ?_
  obtain ⟨rfl, rfl⟩ := Prod.mk.inj (e3 _ rfl)
  refine viaG fun G hG => ?_
  obtain ⟨c1, c2, c3, _⟩ := hc
  obtain ⟨t, s', hr, ⟨tl', g1⟩, ⟨tn', g2⟩, g3, st⟩ := H s (hL.now hA hnow) c1 c2 c3
  have t0 : alOf i [t, tl', tn'] s'.toks i = t := alOf_at i [t, tl', tn'] _ 0 (by simp)
  have t1 : alOf i [t, tl', tn'] s'.toks (i + 1) = tl' := alOf_at i [t, tl', tn'] _ 1 (by simp)
  have t2 : alOf i [t, tl', tn'] s'.toks (i + 2) = tn' := alOf_at i [t, tl', tn'] _ 2 (by simp)
  refine hG ⟨s', [], [t, tl', tn'], rfl, rfl, _, _, rfl, rfl, ?_, ?_, ?_, st, ⟨rfl, by simpa [oTok] using hm, fun k ob e => (by cases e), fun k hk => (by cases hk), fun k k' hk => (by cases hk)⟩, fun k a ob e => (by cases e), ok _ _⟩
  · show Returns _ _ _ s (.ok (.ret (.str v (alOf i [t, tl', tn'] s'.toks i)))) s'
    rw [t0]; exact hr
  · match js, hj with
    | [], _ => rfl
    | [_], h => exact h
    | [_, _], h => exact h
    | _ :: _ :: _ :: _, h => exact h
  · show s'.heap.get? X.ld = some (ldO w X l' (alOf i [t, tl', tn'] s'.toks (i + 1))) ∧ s'.heap.get? X.ai = some (aiO n' (alOf i [t, tl', tn'] s'.toks (i + 2))) ∧ s'.heap.get? X.pb = some (pbO [] eb) ∧ True
    rw [t1, t2]; exact ⟨g1, g2, g3, trivial⟩
end
/-! words -/
noncomputable def rp (a : Int) : Str := Str.ofString (toString a)
noncomputable def wordS (c p : Int) : Str := rp c ++ ⟨#[32]⟩ ++ rp p
noncomputable def wordOk (c p : Int) : Bool :=
  decide ((wordS c p).cps.toList ≠ []) && decide ((wordS c p).length ≤ 100) && decide ((Builtin.Str.strSliceIndices (some 2) none 1 (wordS c p).length).length ≠ (wordS c p).length) && decide (((Builtin.Str.strSliceIndices (some 2) none 1 (wordS c p).length).filterMap ((wordS c p).cps[·]?)) = (rp p).cps.toList)
  && decide ((rp p).length ≤ 100) && decide (PySem.intText? (rp p) = some p) && decide (PySem.intText? (⟨#[(48 + c).toNat]⟩ : Str) = some c) && decide ((seqIndex? 0 (wordS c p).length).bind ((wordS c p).cps[·]?) = some (48 + c).toNat)
  && decide ((rp c).length ≤ 100) && decide ((rp c ++ ⟨#[32]⟩).length ≤ 100)
theorem words_ok : (List.range 6).all (fun c => (List.range 40).all fun p => wordOk (c : Int) (p : Int)) = true := by decide +kernel
theorem word_ok {c p : Int} (hc0 : 0 ≤ c) (hc : c ≤ 5) (hp0 : 0 ≤ p) (hp : p < 40) : wordOk c p = true := by
  obtain ⟨a, rfl⟩ := Int.eq_ofNat_of_zero_le hc0
  obtain ⟨b, rfl⟩ := Int.eq_ofNat_of_zero_le hp0
  have h := List.all_eq_true.mp words_ok a (List.mem_range.mpr (by omega))
  exact List.all_eq_true.mp h b (List.mem_range.mpr (by omega))
end Mine
namespace Mine
open PySem PySem.W PySem.W.X
/-! the turns of the loop of _law_as_read (the kernel runs them) -/
noncomputable def rdF1 (w : World) (X : Lx) (d sn k1 k2 k3 k4 k5 kw : Nat) (b : Bool) (x : Str) : Obj := frO w [("lexer", k1, (.ref X.lx)), ("seen", k2, (.ref sn)), ("laid", k3, (.ref d)), ("word", k4, (.str x kw)), ("fresh", k5, (.bool b))] 5
noncomputable def rdF2 (w : World) (X : Lx) (d sn k1 k2 k3 k4 k5 kw k6 k7 t1 t2 : Nat) (b : Bool) (x : Str) (v1 v2 : Int) : Obj := frO w [("lexer", k1, (.ref X.lx)), ("seen", k2, (.ref sn)), ("laid", k3, (.ref d)), ("word", k4, (.str x kw)), ("fresh", k5, (.bool b)), ("place", k6, (.int v1 t1)), ("up", k7, (.int v2 t2))] 7
noncomputable def trRdE1T : List Nat := [256, 1, 256, 256, 258, 258, 258, 258, 256, 1, 3, 0, 256, 1, 0, 1, 0, 256, 256, 3, 256, 3, 0, 256, 1, 0, 1, 0, 256, 115, 1, 256, 256, 256, 1, 256, 1256, 94, 94, 93, 0, 1256, 94, 94, 93, 1256, 1256, 94, 259, 261, 263, 261, 0, 261, 263, 261, 263, 261, 263, 261, 263, 256, 256, 256, 1256, 94, 94, 93, 1256, 94, 94, 93, 1256, 94, 94, 93, 84, 1256, 259, 84, 1, 256, 256, 255]
noncomputable def eRdE1T (w : World) (X : Lx) (Z : CxO) (p : Pos) (f d sn ed ep eb k1 k2 k3 k4 k5 kw tl tn : Nat) (L : List Ent) (ws : List (Str × Tok)) (txt x y z u1 u2 u3 u4 : Str) (c q u n l n' l' : Int) (c0 : Nat) (al0 tk0 : Nat → Nat) : RLog := .call (.bi 455125451010842570225012 [(.str x kw), (.str "" (tk0 0))]) none 6 1 [] (orcV fun _ => .bool true) fun al1 tk1 => .call (.bi 122627580202994350266018413 [(.ref sn), (.str x kw)]) none 6 2 [some (sn, ssO ws ep)] (oApp 2 ws ep) fun al2 tk2 => .call (.bi 500416356548588640944365259017385332 [(.str x kw), (.ref (al2 6))]) none 7 4 [some ((al2 6), slF 2 (tk2 3))] (orcU [6] (fun t => .str y t) (fun _ => [])) fun al3 tk3 => .call (.bi 116512446855873012371386218 [(.type "int"), (.str y (tk3 4))]) none 7 5 [] (orcV fun t => .int q t) fun al4 tk4 => .call (.bi 500416356548588640944365259017385332 [(.str x kw), (.int 0 (tk4 7))]) none 7 8 [] (orcV fun t => .str ⟨#[c0]⟩ t) fun al5 tk5 => .call (.bi 116512446855873012371386218 [(.type "int"), (.str ⟨#[c0]⟩ (tk5 8))]) none 7 9 [] (orcV fun t => .int c t) fun al6 tk6 => .call (.fn 115 [(.ref d), (.int c (tk6 9)), (.int q (tk4 5))]) (some ((rdX Z f ⟨151, 13, 151, 48⟩).ctx (putC d c (tk6 9) q (tk4 5)), ⟨151, 13, 151, 48⟩)) 7 10 [some (d, dO L ed)] (oPutH u) fun al7 tk7 => .call (.bi 455126531311803185852266 [(.int u (tk7 10)), (.int 6 (tk7 14))]) none 7 15 [] (orcV fun _ => .bool false) fun al8 tk8 => .call (.fn 84 [(.ref X.lx)]) (some ((rdX Z f ⟨155, 15, 155, 32⟩).ctx (tokC X.lx), ⟨155, 15, 155, 32⟩)) 8 18 [some (X.ld, ldO w X l tl), some (X.ai, aiO n tn), some (X.pb, pbO [] eb)] (oTok w X [3, 4, 5] z n' l' eb) fun al9 tk9 => .again (Z.ctx (asLoop f)) [some (f, rdF2 w X d sn k1 k2 k3 k4 k5 (tk9 18) (tk4 6) (tk7 13) (tk4 5) (tk7 10) true z q u), some (d, dO (decL (tk7 11)) (tk7 12)), some (sn, ssO (ws ++ [(x, kw)]) (ep + 1)), some (X.ld, ldO w X l' (tk9 19)), some (X.ai, aiO n' (tk9 20)), some (X.pb, pbO [] eb)]
theorem run_rdE1T (w : World) (X : Lx) (Z : CxO) (p : Pos) (f d sn ed ep eb k1 k2 k3 k4 k5 kw tl tn : Nat) (L : List Ent) (ws : List (Str × Tok)) (txt x y z u1 u2 u3 u4 : Str) (c q u n l n' l' : Int) (c0 : Nat) (al0 tk0 : Nat → Nat) : mixA [0, 1, 2, 3, 4, 5] (seg (VV w) 172 trRdE1T [orcV fun _ => .bool true, oApp 2 ws ep, orcU [6] (fun t => .str y t) (fun _ => []), orcV fun t => .int q t, orcV fun t => .str ⟨#[c0]⟩ t, orcV fun t => .int c t, oPutH u, orcV fun _ => .bool false, oTok w X [3, 4, 5] z n' l' eb] (Z.ctx (asLoop f)) p [] (denF (Z.ctx (asLoop f)).code) (mkT [(f, rdF1 w X d sn k1 k2 k3 k4 k5 kw true x), (d, dO L ed), (sn, ssO ws ep), (X.ld, ldO w X l tl), (X.ai, aiO n tn), (X.pb, pbO [] eb)] (lxRo w X txt)) 6 0 al0 tk0) = mixB (seg (VV w) 172 trRdE1T [orcV fun _ => .bool true, oApp 2 ws ep, orcU [6] (fun t => .str y t) (fun _ => []), orcV fun t => .int q t, orcV fun t => .str ⟨#[c0]⟩ t, orcV fun t => .int c t, oPutH u, orcV fun _ => .bool false, oTok w X [3, 4, 5] z n' l' eb] (Z.ctx (asLoop f)) p [] (denF (Z.ctx (asLoop f)).code) (mkT [(f, rdF1 w X d sn k1 k2 k3 k4 k5 kw true x), (d, dO L ed), (sn, ssO ws ep), (X.ld, ldO w X l tl), (X.ai, aiO n tn), (X.pb, pbO [] eb)] (lxRo w X txt)) 6 0 al0 tk0) (eRdE1T w X Z p f d sn ed ep eb k1 k2 k3 k4 k5 kw tl tn L ws txt x y z u1 u2 u3 u4 c q u n l n' l' c0 al0 tk0) := by kernel_rfl
noncomputable def trRdU1T : List Nat := [256, 1, 256, 256, 258, 258, 258, 258, 256, 1, 3, 0, 256, 1, 0, 1, 0, 256, 256, 3, 256, 3, 0, 256, 1, 0, 1, 0, 256, 115, 1, 256, 256, 256, 1, 256, 1256, 94, 94, 93, 1256, 94, 94, 93, 1256, 94, 94, 93, 91, 1256, 259, 3, 0, 256, 0, 0, 0, 1, 0, 1, 3, 0, 256, 1, 0, 0, 0, 1, 0, 1, 91, 0, 91, 90, 263, 263, 263, 263, 2, 263, 1256, 94, 94, 93, 0, 1256, 94, 94, 93, 1256, 1256, 94, 259, 261, 261, 261, 261, 263, 0, 261, 261, 261, 261, 256, 1256, 94, 94, 93, 0, 1256, 94, 94, 93, 1256, 1256, 94, 259, 261, 264, 261, 0, 261, 264, 261, 264, 256, 256, 256, 1256, 94, 94, 93, 1256, 94, 94, 93, 1256, 94, 94, 93, 84, 1256, 259, 84, 0, 84, 83, 265, 265, 2, 265, 1256, 94, 94, 93, 0, 1256, 94, 94, 93, 1256, 1256, 94, 259, 261, 261, 0, 261, 0, 261, 261, 265, 1256, 94, 94, 93, 0, 1256, 94, 94, 93, 1256, 1256, 94, 259, 261, 261, 261, 261, 0, 261, 261, 261, 261, 261, 256, 256, 255]
noncomputable def eRdU1T (w : World) (X : Lx) (Z : CxO) (p : Pos) (f d sn ed ep eb k1 k2 k3 k4 k5 kw tl tn : Nat) (L : List Ent) (ws : List (Str × Tok)) (txt x y z u1 u2 u3 u4 : Str) (c q u n l n' l' : Int) (c0 : Nat) (al0 tk0 : Nat → Nat) : RLog := .call (.bi 455125451010842570225012 [(.str x kw), (.str "" (tk0 0))]) none 6 1 [] (orcV fun _ => .bool true) fun al1 tk1 => .call (.bi 122627580202994350266018413 [(.ref sn), (.str x kw)]) none 6 2 [some (sn, ssO ws ep)] (oApp 2 ws ep) fun al2 tk2 => .call (.bi 500416356548588640944365259017385332 [(.str x kw), (.ref (al2 6))]) none 7 4 [some ((al2 6), slF 2 (tk2 3))] (orcU [6] (fun t => .str y t) (fun _ => [])) fun al3 tk3 => .call (.bi 116512446855873012371386218 [(.type "int"), (.str y (tk3 4))]) none 7 5 [] (orcV fun t => .int q t) fun al4 tk4 => .call (.bi 500416356548588640944365259017385332 [(.str x kw), (.int 0 (tk4 7))]) none 7 8 [] (orcV fun t => .str ⟨#[c0]⟩ t) fun al5 tk5 => .call (.bi 116512446855873012371386218 [(.type "int"), (.str ⟨#[c0]⟩ (tk5 8))]) none 7 9 [] (orcV fun t => .int c t) fun al6 tk6 => .call (.fn 115 [(.ref d), (.int c (tk6 9)), (.int q (tk4 5))]) (some ((rdX Z f ⟨151, 13, 151, 48⟩).ctx (putC d c (tk6 9) q (tk4 5)), ⟨151, 13, 151, 48⟩)) 7 10 [some (d, dO L ed)] (oPutH u) fun al7 tk7 => .call (.bi 455126531311803185852266 [(.int u (tk7 10)), (.int 6 (tk7 14))]) none 7 15 [] (orcV fun _ => .bool true) fun al8 tk8 => .call (.bi 29827162985542091517149409130 [(.int u (tk7 10))]) none 7 16 [] (orcV fun t => .str u1 t) fun al9 tk9 => .call (.bi 116512096292018843154609524 [(.str u1 (tk9 16)), (.str ⟨#[32]⟩ (tk9 17))]) none 7 18 [] (orcV fun t => .str u2 t) fun al10 tk10 => .call (.bi 116512096292018843154739050 [(.int q (tk4 5)), (.int 1 (tk10 19))]) none 7 20 [] (orcI fun x y => x + y) fun al11 tk11 => .call (.bi 29827162985542091517149409130 [(.int (q + 1) (tk11 20))]) none 7 21 [] (orcV fun t => .str u3 t) fun al12 tk12 => .call (.bi 116512096292018843154609524 [(.str u2 (tk10 18)), (.str u3 (tk12 21))]) none 7 22 [] (orcV fun t => .str u4 t) fun al13 tk13 => .again (Z.ctx (asLoop f)) [some (f, rdF2 w X d sn k1 k2 k3 k4 k5 (tk13 22) (tk4 6) (tk7 13) (tk4 5) (tk7 10) false u4 q u), some (d, dO (decL (tk7 11)) (tk7 12)), some (sn, ssO (ws ++ [(x, kw)]) (ep + 1)), some (X.ld, ldO w X l tl), some (X.ai, aiO n tn), some (X.pb, pbO [] (eb + 2))]
theorem run_rdU1T (w : World) (X : Lx) (Z : CxO) (p : Pos) (f d sn ed ep eb k1 k2 k3 k4 k5 kw tl tn : Nat) (L : List Ent) (ws : List (Str × Tok)) (txt x y z u1 u2 u3 u4 : Str) (c q u n l n' l' : Int) (c0 : Nat) (al0 tk0 : Nat → Nat) : mixA [0, 1, 2, 3, 4, 5] (seg (VV w) 380 trRdU1T [orcV fun _ => .bool true, oApp 2 ws ep, orcU [6] (fun t => .str y t) (fun _ => []), orcV fun t => .int q t, orcV fun t => .str ⟨#[c0]⟩ t, orcV fun t => .int c t, oPutH u, orcV fun _ => .bool true, orcV fun t => .str u1 t, orcV fun t => .str u2 t, orcI fun x y => x + y, orcV fun t => .str u3 t, orcV fun t => .str u4 t] (Z.ctx (asLoop f)) p [] (denF (Z.ctx (asLoop f)).code) (mkT [(f, rdF1 w X d sn k1 k2 k3 k4 k5 kw true x), (d, dO L ed), (sn, ssO ws ep), (X.ld, ldO w X l tl), (X.ai, aiO n tn), (X.pb, pbO [] eb)] (lxRo w X txt)) 6 0 al0 tk0) = mixB (seg (VV w) 380 trRdU1T [orcV fun _ => .bool true, oApp 2 ws ep, orcU [6] (fun t => .str y t) (fun _ => []), orcV fun t => .int q t, orcV fun t => .str ⟨#[c0]⟩ t, orcV fun t => .int c t, oPutH u, orcV fun _ => .bool true, orcV fun t => .str u1 t, orcV fun t => .str u2 t, orcI fun x y => x + y, orcV fun t => .str u3 t, orcV fun t => .str u4 t] (Z.ctx (asLoop f)) p [] (denF (Z.ctx (asLoop f)).code) (mkT [(f, rdF1 w X d sn k1 k2 k3 k4 k5 kw true x), (d, dO L ed), (sn, ssO ws ep), (X.ld, ldO w X l tl), (X.ai, aiO n tn), (X.pb, pbO [] eb)] (lxRo w X txt)) 6 0 al0 tk0) (eRdU1T w X Z p f d sn ed ep eb k1 k2 k3 k4 k5 kw tl tn L ws txt x y z u1 u2 u3 u4 c q u n l n' l' c0 al0 tk0) := by kernel_rfl
noncomputable def trRdE2T : List Nat := [256, 1, 256, 256, 258, 258, 258, 258, 256, 1, 3, 0, 256, 1, 0, 1, 0, 256, 256, 3, 256, 3, 0, 256, 1, 0, 1, 0, 256, 115, 1, 256, 256, 256, 1, 256, 1256, 94, 94, 93, 0, 1256, 94, 94, 93, 1256, 1256, 94, 259, 261, 263, 261, 0, 261, 263, 261, 263, 261, 263, 261, 263, 256, 256, 256, 1256, 94, 94, 93, 1256, 94, 94, 93, 1256, 94, 94, 93, 84, 1256, 259, 84, 1, 256, 256, 255]
noncomputable def eRdE2T (w : World) (X : Lx) (Z : CxO) (p : Pos) (f d sn ed ep eb k1 k2 k3 k4 k5 kw k6 k7 t1 t2 tl tn : Nat) (v1 v2 : Int) (L : List Ent) (ws : List (Str × Tok)) (txt x y z u1 u2 u3 u4 : Str) (c q u n l n' l' : Int) (c0 : Nat) (al0 tk0 : Nat → Nat) : RLog := .call (.bi 455125451010842570225012 [(.str x kw), (.str "" (tk0 0))]) none 6 1 [] (orcV fun _ => .bool true) fun al1 tk1 => .call (.bi 122627580202994350266018413 [(.ref sn), (.str x kw)]) none 6 2 [some (sn, ssO ws ep)] (oApp 2 ws ep) fun al2 tk2 => .call (.bi 500416356548588640944365259017385332 [(.str x kw), (.ref (al2 6))]) none 7 4 [some ((al2 6), slF 2 (tk2 3))] (orcU [6] (fun t => .str y t) (fun _ => [])) fun al3 tk3 => .call (.bi 116512446855873012371386218 [(.type "int"), (.str y (tk3 4))]) none 7 5 [] (orcV fun t => .int q t) fun al4 tk4 => .call (.bi 500416356548588640944365259017385332 [(.str x kw), (.int 0 (tk4 7))]) none 7 8 [] (orcV fun t => .str ⟨#[c0]⟩ t) fun al5 tk5 => .call (.bi 116512446855873012371386218 [(.type "int"), (.str ⟨#[c0]⟩ (tk5 8))]) none 7 9 [] (orcV fun t => .int c t) fun al6 tk6 => .call (.fn 115 [(.ref d), (.int c (tk6 9)), (.int q (tk4 5))]) (some ((rdX Z f ⟨151, 13, 151, 48⟩).ctx (putC d c (tk6 9) q (tk4 5)), ⟨151, 13, 151, 48⟩)) 7 10 [some (d, dO L ed)] (oPutH u) fun al7 tk7 => .call (.bi 455126531311803185852266 [(.int u (tk7 10)), (.int 6 (tk7 14))]) none 7 15 [] (orcV fun _ => .bool false) fun al8 tk8 => .call (.fn 84 [(.ref X.lx)]) (some ((rdX Z f ⟨155, 15, 155, 32⟩).ctx (tokC X.lx), ⟨155, 15, 155, 32⟩)) 8 18 [some (X.ld, ldO w X l tl), some (X.ai, aiO n tn), some (X.pb, pbO [] eb)] (oTok w X [3, 4, 5] z n' l' eb) fun al9 tk9 => .again (Z.ctx (asLoop f)) [some (f, rdF2 w X d sn k1 k2 k3 k4 k5 (tk9 18) k6 k7 (tk4 5) (tk7 10) true z q u), some (d, dO (decL (tk7 11)) (tk7 12)), some (sn, ssO (ws ++ [(x, kw)]) (ep + 1)), some (X.ld, ldO w X l' (tk9 19)), some (X.ai, aiO n' (tk9 20)), some (X.pb, pbO [] eb)]
theorem run_rdE2T (w : World) (X : Lx) (Z : CxO) (p : Pos) (f d sn ed ep eb k1 k2 k3 k4 k5 kw k6 k7 t1 t2 tl tn : Nat) (v1 v2 : Int) (L : List Ent) (ws : List (Str × Tok)) (txt x y z u1 u2 u3 u4 : Str) (c q u n l n' l' : Int) (c0 : Nat) (al0 tk0 : Nat → Nat) : mixA [0, 1, 2, 3, 4, 5] (seg (VV w) 172 trRdE2T [orcV fun _ => .bool true, oApp 2 ws ep, orcU [6] (fun t => .str y t) (fun _ => []), orcV fun t => .int q t, orcV fun t => .str ⟨#[c0]⟩ t, orcV fun t => .int c t, oPutH u, orcV fun _ => .bool false, oTok w X [3, 4, 5] z n' l' eb] (Z.ctx (asLoop f)) p [] (denF (Z.ctx (asLoop f)).code) (mkT [(f, rdF2 w X d sn k1 k2 k3 k4 k5 kw k6 k7 t1 t2 true x v1 v2), (d, dO L ed), (sn, ssO ws ep), (X.ld, ldO w X l tl), (X.ai, aiO n tn), (X.pb, pbO [] eb)] (lxRo w X txt)) 6 0 al0 tk0) = mixB (seg (VV w) 172 trRdE2T [orcV fun _ => .bool true, oApp 2 ws ep, orcU [6] (fun t => .str y t) (fun _ => []), orcV fun t => .int q t, orcV fun t => .str ⟨#[c0]⟩ t, orcV fun t => .int c t, oPutH u, orcV fun _ => .bool false, oTok w X [3, 4, 5] z n' l' eb] (Z.ctx (asLoop f)) p [] (denF (Z.ctx (asLoop f)).code) (mkT [(f, rdF2 w X d sn k1 k2 k3 k4 k5 kw k6 k7 t1 t2 true x v1 v2), (d, dO L ed), (sn, ssO ws ep), (X.ld, ldO w X l tl), (X.ai, aiO n tn), (X.pb, pbO [] eb)] (lxRo w X txt)) 6 0 al0 tk0) (eRdE2T w X Z p f d sn ed ep eb k1 k2 k3 k4 k5 kw k6 k7 t1 t2 tl tn v1 v2 L ws txt x y z u1 u2 u3 u4 c q u n l n' l' c0 al0 tk0) := by kernel_rfl
noncomputable def trRdU2T : List Nat := [256, 1, 256, 256, 258, 258, 258, 258, 256, 1, 3, 0, 256, 1, 0, 1, 0, 256, 256, 3, 256, 3, 0, 256, 1, 0, 1, 0, 256, 115, 1, 256, 256, 256, 1, 256, 1256, 94, 94, 93, 1256, 94, 94, 93, 1256, 94, 94, 93, 91, 1256, 259, 3, 0, 256, 0, 0, 0, 1, 0, 1, 3, 0, 256, 1, 0, 0, 0, 1, 0, 1, 91, 0, 91, 90, 263, 263, 263, 263, 2, 263, 1256, 94, 94, 93, 0, 1256, 94, 94, 93, 1256, 1256, 94, 259, 261, 261, 261, 261, 263, 0, 261, 261, 261, 261, 256, 1256, 94, 94, 93, 0, 1256, 94, 94, 93, 1256, 1256, 94, 259, 261, 264, 261, 0, 261, 264, 261, 264, 256, 256, 256, 1256, 94, 94, 93, 1256, 94, 94, 93, 1256, 94, 94, 93, 84, 1256, 259, 84, 0, 84, 83, 265, 265, 2, 265, 1256, 94, 94, 93, 0, 1256, 94, 94, 93, 1256, 1256, 94, 259, 261, 261, 0, 261, 0, 261, 261, 265, 1256, 94, 94, 93, 0, 1256, 94, 94, 93, 1256, 1256, 94, 259, 261, 261, 261, 261, 0, 261, 261, 261, 261, 261, 256, 256, 255]
noncomputable def eRdU2T (w : World) (X : Lx) (Z : CxO) (p : Pos) (f d sn ed ep eb k1 k2 k3 k4 k5 kw k6 k7 t1 t2 tl tn : Nat) (v1 v2 : Int) (L : List Ent) (ws : List (Str × Tok)) (txt x y z u1 u2 u3 u4 : Str) (c q u n l n' l' : Int) (c0 : Nat) (al0 tk0 : Nat → Nat) : RLog := .call (.bi 455125451010842570225012 [(.str x kw), (.str "" (tk0 0))]) none 6 1 [] (orcV fun _ => .bool true) fun al1 tk1 => .call (.bi 122627580202994350266018413 [(.ref sn), (.str x kw)]) none 6 2 [some (sn, ssO ws ep)] (oApp 2 ws ep) fun al2 tk2 => .call (.bi 500416356548588640944365259017385332 [(.str x kw), (.ref (al2 6))]) none 7 4 [some ((al2 6), slF 2 (tk2 3))] (orcU [6] (fun t => .str y t) (fun _ => [])) fun al3 tk3 => .call (.bi 116512446855873012371386218 [(.type "int"), (.str y (tk3 4))]) none 7 5 [] (orcV fun t => .int q t) fun al4 tk4 => .call (.bi 500416356548588640944365259017385332 [(.str x kw), (.int 0 (tk4 7))]) none 7 8 [] (orcV fun t => .str ⟨#[c0]⟩ t) fun al5 tk5 => .call (.bi 116512446855873012371386218 [(.type "int"), (.str ⟨#[c0]⟩ (tk5 8))]) none 7 9 [] (orcV fun t => .int c t) fun al6 tk6 => .call (.fn 115 [(.ref d), (.int c (tk6 9)), (.int q (tk4 5))]) (some ((rdX Z f ⟨151, 13, 151, 48⟩).ctx (putC d c (tk6 9) q (tk4 5)), ⟨151, 13, 151, 48⟩)) 7 10 [some (d, dO L ed)] (oPutH u) fun al7 tk7 => .call (.bi 455126531311803185852266 [(.int u (tk7 10)), (.int 6 (tk7 14))]) none 7 15 [] (orcV fun _ => .bool true) fun al8 tk8 => .call (.bi 29827162985542091517149409130 [(.int u (tk7 10))]) none 7 16 [] (orcV fun t => .str u1 t) fun al9 tk9 => .call (.bi 116512096292018843154609524 [(.str u1 (tk9 16)), (.str ⟨#[32]⟩ (tk9 17))]) none 7 18 [] (orcV fun t => .str u2 t) fun al10 tk10 => .call (.bi 116512096292018843154739050 [(.int q (tk4 5)), (.int 1 (tk10 19))]) none 7 20 [] (orcI fun x y => x + y) fun al11 tk11 => .call (.bi 29827162985542091517149409130 [(.int (q + 1) (tk11 20))]) none 7 21 [] (orcV fun t => .str u3 t) fun al12 tk12 => .call (.bi 116512096292018843154609524 [(.str u2 (tk10 18)), (.str u3 (tk12 21))]) none 7 22 [] (orcV fun t => .str u4 t) fun al13 tk13 => .again (Z.ctx (asLoop f)) [some (f, rdF2 w X d sn k1 k2 k3 k4 k5 (tk13 22) k6 k7 (tk4 5) (tk7 10) false u4 q u), some (d, dO (decL (tk7 11)) (tk7 12)), some (sn, ssO (ws ++ [(x, kw)]) (ep + 1)), some (X.ld, ldO w X l tl), some (X.ai, aiO n tn), some (X.pb, pbO [] (eb + 2))]
theorem run_rdU2T (w : World) (X : Lx) (Z : CxO) (p : Pos) (f d sn ed ep eb k1 k2 k3 k4 k5 kw k6 k7 t1 t2 tl tn : Nat) (v1 v2 : Int) (L : List Ent) (ws : List (Str × Tok)) (txt x y z u1 u2 u3 u4 : Str) (c q u n l n' l' : Int) (c0 : Nat) (al0 tk0 : Nat → Nat) : mixA [0, 1, 2, 3, 4, 5] (seg (VV w) 380 trRdU2T [orcV fun _ => .bool true, oApp 2 ws ep, orcU [6] (fun t => .str y t) (fun _ => []), orcV fun t => .int q t, orcV fun t => .str ⟨#[c0]⟩ t, orcV fun t => .int c t, oPutH u, orcV fun _ => .bool true, orcV fun t => .str u1 t, orcV fun t => .str u2 t, orcI fun x y => x + y, orcV fun t => .str u3 t, orcV fun t => .str u4 t] (Z.ctx (asLoop f)) p [] (denF (Z.ctx (asLoop f)).code) (mkT [(f, rdF2 w X d sn k1 k2 k3 k4 k5 kw k6 k7 t1 t2 true x v1 v2), (d, dO L ed), (sn, ssO ws ep), (X.ld, ldO w X l tl), (X.ai, aiO n tn), (X.pb, pbO [] eb)] (lxRo w X txt)) 6 0 al0 tk0) = mixB (seg (VV w) 380 trRdU2T [orcV fun _ => .bool true, oApp 2 ws ep, orcU [6] (fun t => .str y t) (fun _ => []), orcV fun t => .int q t, orcV fun t => .str ⟨#[c0]⟩ t, orcV fun t => .int c t, oPutH u, orcV fun _ => .bool true, orcV fun t => .str u1 t, orcV fun t => .str u2 t, orcI fun x y => x + y, orcV fun t => .str u3 t, orcV fun t => .str u4 t] (Z.ctx (asLoop f)) p [] (denF (Z.ctx (asLoop f)).code) (mkT [(f, rdF2 w X d sn k1 k2 k3 k4 k5 kw k6 k7 t1 t2 true x v1 v2), (d, dO L ed), (sn, ssO ws ep), (X.ld, ldO w X l tl), (X.ai, aiO n tn), (X.pb, pbO [] eb)] (lxRo w X txt)) 6 0 al0 tk0) (eRdU2T w X Z p f d sn ed ep eb k1 k2 k3 k4 k5 kw k6 k7 t1 t2 tl tn v1 v2 L ws txt x y z u1 u2 u3 u4 c q u n l n' l' c0 al0 tk0) := by kernel_rfl
noncomputable def trRdE2F : List Nat := [256, 1, 256, 3, 0, 256, 1, 0, 1, 0, 256, 256, 3, 256, 3, 0, 256, 1, 0, 1, 0, 256, 115, 1, 256, 256, 256, 1, 256, 1256, 94, 94, 93, 0, 1256, 94, 94, 93, 1256, 1256, 94, 259, 261, 263, 261, 0, 261, 263, 261, 263, 261, 263, 261, 263, 256, 256, 256, 1256, 94, 94, 93, 1256, 94, 94, 93, 1256, 94, 94, 93, 84, 1256, 259, 84, 1, 256, 256, 255]
noncomputable def eRdE2F (w : World) (X : Lx) (Z : CxO) (p : Pos) (f d sn ed ep eb k1 k2 k3 k4 k5 kw k6 k7 t1 t2 tl tn : Nat) (v1 v2 : Int) (L : List Ent) (ws : List (Str × Tok)) (txt x y z u1 u2 u3 u4 : Str) (c q u n l n' l' : Int) (c0 : Nat) (al0 tk0 : Nat → Nat) : RLog := .call (.bi 455125451010842570225012 [(.str x kw), (.str "" (tk0 0))]) none 6 1 [] (orcV fun _ => .bool true) fun al1 tk1 => .call (.bi 500416356548588640944365259017385332 [(.str x kw), (.ref (al1 6))]) none 7 3 [some ((al1 6), slF 2 (tk1 2))] (orcU [6] (fun t => .str y t) (fun _ => [])) fun al2 tk2 => .call (.bi 116512446855873012371386218 [(.type "int"), (.str y (tk2 3))]) none 7 4 [] (orcV fun t => .int q t) fun al3 tk3 => .call (.bi 500416356548588640944365259017385332 [(.str x kw), (.int 0 (tk3 6))]) none 7 7 [] (orcV fun t => .str ⟨#[c0]⟩ t) fun al4 tk4 => .call (.bi 116512446855873012371386218 [(.type "int"), (.str ⟨#[c0]⟩ (tk4 7))]) none 7 8 [] (orcV fun t => .int c t) fun al5 tk5 => .call (.fn 115 [(.ref d), (.int c (tk5 8)), (.int q (tk3 4))]) (some ((rdX Z f ⟨151, 13, 151, 48⟩).ctx (putC d c (tk5 8) q (tk3 4)), ⟨151, 13, 151, 48⟩)) 7 9 [some (d, dO L ed)] (oPutH u) fun al6 tk6 => .call (.bi 455126531311803185852266 [(.int u (tk6 9)), (.int 6 (tk6 13))]) none 7 14 [] (orcV fun _ => .bool false) fun al7 tk7 => .call (.fn 84 [(.ref X.lx)]) (some ((rdX Z f ⟨155, 15, 155, 32⟩).ctx (tokC X.lx), ⟨155, 15, 155, 32⟩)) 8 17 [some (X.ld, ldO w X l tl), some (X.ai, aiO n tn), some (X.pb, pbO [] eb)] (oTok w X [3, 4, 5] z n' l' eb) fun al8 tk8 => .again (Z.ctx (asLoop f)) [some (f, rdF2 w X d sn k1 k2 k3 k4 k5 (tk8 17) k6 k7 (tk3 4) (tk6 9) true z q u), some (d, dO (decL (tk6 10)) (tk6 11)), some (sn, ssO ws ep), some (X.ld, ldO w X l' (tk8 18)), some (X.ai, aiO n' (tk8 19)), some (X.pb, pbO [] eb)]
theorem run_rdE2F (w : World) (X : Lx) (Z : CxO) (p : Pos) (f d sn ed ep eb k1 k2 k3 k4 k5 kw k6 k7 t1 t2 tl tn : Nat) (v1 v2 : Int) (L : List Ent) (ws : List (Str × Tok)) (txt x y z u1 u2 u3 u4 : Str) (c q u n l n' l' : Int) (c0 : Nat) (al0 tk0 : Nat → Nat) : mixA [0, 1, 2, 3, 4, 5] (seg (VV w) 158 trRdE2F [orcV fun _ => .bool true, orcU [6] (fun t => .str y t) (fun _ => []), orcV fun t => .int q t, orcV fun t => .str ⟨#[c0]⟩ t, orcV fun t => .int c t, oPutH u, orcV fun _ => .bool false, oTok w X [3, 4, 5] z n' l' eb] (Z.ctx (asLoop f)) p [] (denF (Z.ctx (asLoop f)).code) (mkT [(f, rdF2 w X d sn k1 k2 k3 k4 k5 kw k6 k7 t1 t2 false x v1 v2), (d, dO L ed), (sn, ssO ws ep), (X.ld, ldO w X l tl), (X.ai, aiO n tn), (X.pb, pbO [] eb)] (lxRo w X txt)) 6 0 al0 tk0) = mixB (seg (VV w) 158 trRdE2F [orcV fun _ => .bool true, orcU [6] (fun t => .str y t) (fun _ => []), orcV fun t => .int q t, orcV fun t => .str ⟨#[c0]⟩ t, orcV fun t => .int c t, oPutH u, orcV fun _ => .bool false, oTok w X [3, 4, 5] z n' l' eb] (Z.ctx (asLoop f)) p [] (denF (Z.ctx (asLoop f)).code) (mkT [(f, rdF2 w X d sn k1 k2 k3 k4 k5 kw k6 k7 t1 t2 false x v1 v2), (d, dO L ed), (sn, ssO ws ep), (X.ld, ldO w X l tl), (X.ai, aiO n tn), (X.pb, pbO [] eb)] (lxRo w X txt)) 6 0 al0 tk0) (eRdE2F w X Z p f d sn ed ep eb k1 k2 k3 k4 k5 kw k6 k7 t1 t2 tl tn v1 v2 L ws txt x y z u1 u2 u3 u4 c q u n l n' l' c0 al0 tk0) := by kernel_rfl
noncomputable def trRdU2F : List Nat := [256, 1, 256, 3, 0, 256, 1, 0, 1, 0, 256, 256, 3, 256, 3, 0, 256, 1, 0, 1, 0, 256, 115, 1, 256, 256, 256, 1, 256, 1256, 94, 94, 93, 1256, 94, 94, 93, 1256, 94, 94, 93, 91, 1256, 259, 3, 0, 256, 0, 0, 0, 1, 0, 1, 3, 0, 256, 1, 0, 0, 0, 1, 0, 1, 91, 0, 91, 90, 263, 263, 263, 263, 2, 263, 1256, 94, 94, 93, 0, 1256, 94, 94, 93, 1256, 1256, 94, 259, 261, 261, 261, 261, 263, 0, 261, 261, 261, 261, 256, 1256, 94, 94, 93, 0, 1256, 94, 94, 93, 1256, 1256, 94, 259, 261, 264, 261, 0, 261, 264, 261, 264, 256, 256, 256, 1256, 94, 94, 93, 1256, 94, 94, 93, 1256, 94, 94, 93, 84, 1256, 259, 84, 0, 84, 83, 265, 265, 2, 265, 1256, 94, 94, 93, 0, 1256, 94, 94, 93, 1256, 1256, 94, 259, 261, 261, 0, 261, 0, 261, 261, 265, 1256, 94, 94, 93, 0, 1256, 94, 94, 93, 1256, 1256, 94, 259, 261, 261, 261, 261, 0, 261, 261, 261, 261, 261, 256, 256, 255]
noncomputable def eRdU2F (w : World) (X : Lx) (Z : CxO) (p : Pos) (f d sn ed ep eb k1 k2 k3 k4 k5 kw k6 k7 t1 t2 tl tn : Nat) (v1 v2 : Int) (L : List Ent) (ws : List (Str × Tok)) (txt x y z u1 u2 u3 u4 : Str) (c q u n l n' l' : Int) (c0 : Nat) (al0 tk0 : Nat → Nat) : RLog := .call (.bi 455125451010842570225012 [(.str x kw), (.str "" (tk0 0))]) none 6 1 [] (orcV fun _ => .bool true) fun al1 tk1 => .call (.bi 500416356548588640944365259017385332 [(.str x kw), (.ref (al1 6))]) none 7 3 [some ((al1 6), slF 2 (tk1 2))] (orcU [6] (fun t => .str y t) (fun _ => [])) fun al2 tk2 => .call (.bi 116512446855873012371386218 [(.type "int"), (.str y (tk2 3))]) none 7 4 [] (orcV fun t => .int q t) fun al3 tk3 => .call (.bi 500416356548588640944365259017385332 [(.str x kw), (.int 0 (tk3 6))]) none 7 7 [] (orcV fun t => .str ⟨#[c0]⟩ t) fun al4 tk4 => .call (.bi 116512446855873012371386218 [(.type "int"), (.str ⟨#[c0]⟩ (tk4 7))]) none 7 8 [] (orcV fun t => .int c t) fun al5 tk5 => .call (.fn 115 [(.ref d), (.int c (tk5 8)), (.int q (tk3 4))]) (some ((rdX Z f ⟨151, 13, 151, 48⟩).ctx (putC d c (tk5 8) q (tk3 4)), ⟨151, 13, 151, 48⟩)) 7 9 [some (d, dO L ed)] (oPutH u) fun al6 tk6 => .call (.bi 455126531311803185852266 [(.int u (tk6 9)), (.int 6 (tk6 13))]) none 7 14 [] (orcV fun _ => .bool true) fun al7 tk7 => .call (.bi 29827162985542091517149409130 [(.int u (tk6 9))]) none 7 15 [] (orcV fun t => .str u1 t) fun al8 tk8 => .call (.bi 116512096292018843154609524 [(.str u1 (tk8 15)), (.str ⟨#[32]⟩ (tk8 16))]) none 7 17 [] (orcV fun t => .str u2 t) fun al9 tk9 => .call (.bi 116512096292018843154739050 [(.int q (tk3 4)), (.int 1 (tk9 18))]) none 7 19 [] (orcI fun x y => x + y) fun al10 tk10 => .call (.bi 29827162985542091517149409130 [(.int (q + 1) (tk10 19))]) none 7 20 [] (orcV fun t => .str u3 t) fun al11 tk11 => .call (.bi 116512096292018843154609524 [(.str u2 (tk9 17)), (.str u3 (tk11 20))]) none 7 21 [] (orcV fun t => .str u4 t) fun al12 tk12 => .again (Z.ctx (asLoop f)) [some (f, rdF2 w X d sn k1 k2 k3 k4 k5 (tk12 21) k6 k7 (tk3 4) (tk6 9) false u4 q u), some (d, dO (decL (tk6 10)) (tk6 11)), some (sn, ssO ws ep), some (X.ld, ldO w X l tl), some (X.ai, aiO n tn), some (X.pb, pbO [] (eb + 2))]
theorem run_rdU2F (w : World) (X : Lx) (Z : CxO) (p : Pos) (f d sn ed ep eb k1 k2 k3 k4 k5 kw k6 k7 t1 t2 tl tn : Nat) (v1 v2 : Int) (L : List Ent) (ws : List (Str × Tok)) (txt x y z u1 u2 u3 u4 : Str) (c q u n l n' l' : Int) (c0 : Nat) (al0 tk0 : Nat → Nat) : mixA [0, 1, 2, 3, 4, 5] (seg (VV w) 366 trRdU2F [orcV fun _ => .bool true, orcU [6] (fun t => .str y t) (fun _ => []), orcV fun t => .int q t, orcV fun t => .str ⟨#[c0]⟩ t, orcV fun t => .int c t, oPutH u, orcV fun _ => .bool true, orcV fun t => .str u1 t, orcV fun t => .str u2 t, orcI fun x y => x + y, orcV fun t => .str u3 t, orcV fun t => .str u4 t] (Z.ctx (asLoop f)) p [] (denF (Z.ctx (asLoop f)).code) (mkT [(f, rdF2 w X d sn k1 k2 k3 k4 k5 kw k6 k7 t1 t2 false x v1 v2), (d, dO L ed), (sn, ssO ws ep), (X.ld, ldO w X l tl), (X.ai, aiO n tn), (X.pb, pbO [] eb)] (lxRo w X txt)) 6 0 al0 tk0) = mixB (seg (VV w) 366 trRdU2F [orcV fun _ => .bool true, orcU [6] (fun t => .str y t) (fun _ => []), orcV fun t => .int q t, orcV fun t => .str ⟨#[c0]⟩ t, orcV fun t => .int c t, oPutH u, orcV fun _ => .bool true, orcV fun t => .str u1 t, orcV fun t => .str u2 t, orcI fun x y => x + y, orcV fun t => .str u3 t, orcV fun t => .str u4 t] (Z.ctx (asLoop f)) p [] (denF (Z.ctx (asLoop f)).code) (mkT [(f, rdF2 w X d sn k1 k2 k3 k4 k5 kw k6 k7 t1 t2 false x v1 v2), (d, dO L ed), (sn, ssO ws ep), (X.ld, ldO w X l tl), (X.ai, aiO n tn), (X.pb, pbO [] eb)] (lxRo w X txt)) 6 0 al0 tk0) (eRdU2F w X Z p f d sn ed ep eb k1 k2 k3 k4 k5 kw k6 k7 t1 t2 tl tn v1 v2 L ws txt x y z u1 u2 u3 u4 c q u n l n' l' c0 al0 tk0) := by kernel_rfl
noncomputable def trRdX : List Nat := [256, 0]
noncomputable def eRdX (w : World) (X : Lx) (Z : CxO) (p : Pos) (f d sn ed ep eb k1 k2 k3 k4 k5 kw k6 k7 t1 t2 tl tn : Nat) (v1 v2 : Int) (L : List Ent) (ws : List (Str × Tok)) (txt x y z u1 u2 u3 u4 : Str) (c q u n l n' l' : Int) (c0 : Nat) (al0 tk0 : Nat → Nat) : RLog := .ret (.ok .next) [some (f, rdF2 w X d sn k1 k2 k3 k4 k5 kw k6 k7 t1 t2 true "" v1 v2), some (d, dO L ed), some (sn, ssO ws ep), some (X.ld, ldO w X l tl), some (X.ai, aiO n tn), some (X.pb, pbO [] eb)]
theorem run_rdX (w : World) (X : Lx) (Z : CxO) (p : Pos) (f d sn ed ep eb k1 k2 k3 k4 k5 kw k6 k7 t1 t2 tl tn : Nat) (v1 v2 : Int) (L : List Ent) (ws : List (Str × Tok)) (txt x y z u1 u2 u3 u4 : Str) (c q u n l n' l' : Int) (c0 : Nat) (al0 tk0 : Nat → Nat) : mixA [0, 1, 2, 3, 4, 5] (seg (VV w) 9 trRdX [] (Z.ctx (asLoop f)) p [] (denF (Z.ctx (asLoop f)).code) (mkT [(f, rdF2 w X d sn k1 k2 k3 k4 k5 kw k6 k7 t1 t2 true ⟨#[]⟩ v1 v2), (d, dO L ed), (sn, ssO ws ep), (X.ld, ldO w X l tl), (X.ai, aiO n tn), (X.pb, pbO [] eb)] (lxRo w X txt)) 6 0 al0 tk0) = mixB (seg (VV w) 9 trRdX [] (Z.ctx (asLoop f)) p [] (denF (Z.ctx (asLoop f)).code) (mkT [(f, rdF2 w X d sn k1 k2 k3 k4 k5 kw k6 k7 t1 t2 true ⟨#[]⟩ v1 v2), (d, dO L ed), (sn, ssO ws ep), (X.ld, ldO w X l tl), (X.ai, aiO n tn), (X.pb, pbO [] eb)] (lxRo w X txt)) 6 0 al0 tk0) (eRdX w X Z p f d sn ed ep eb k1 k2 k3 k4 k5 kw k6 k7 t1 t2 tl tn v1 v2 L ws txt x y z u1 u2 u3 u4 c q u n l n' l' c0 al0 tk0) := by kernel_rfl
end Mine
namespace Mine
open PySem PySem.W PySem.W.X
open Sem (wp finPost)
/-! the loop of _law_as_read, all turns -/
noncomputable abbrev W3 := Nat × Nat × Nat
noncomputable def spC (x : W3) : List Nat := spellL x.1 (48 + x.2.1) (48 + x.2.2)
noncomputable def w3S (x : W3) : Str := wordS x.2.1 x.2.2
noncomputable def w3Ok (x : W3) : Prop := x.2.1 < 6 ∧ x.2.2 < 3
theorem w3_all : (List.range 6).all (fun c => (List.range 3).all fun q => decide (wordS (c : Int) (q : Int) = ⟨#[48 + c, 32, 48 + q]⟩)) = true := by decide +kernel
theorem w3_eq {x : W3} (h : w3Ok x) : (⟨#[48 + x.2.1, 32, 48 + x.2.2]⟩ : Str) = w3S x := by
  have h1 := List.all_eq_true.mp w3_all x.2.1 (List.mem_range.mpr h.1)
  have h2 := List.all_eq_true.mp h1 x.2.2 (List.mem_range.mpr h.2)
  exact (of_decide_eq_true h2).symm
noncomputable def flat3 (l : List W3) : List Nat := l.flatMap spC
noncomputable def nxS : List W3 → Str
  | [] => ⟨#[]⟩
  | x :: _ => w3S x
noncomputable def nxN (n : Int) : List W3 → Int
  | [] => n
  | x :: _ => n + (spC x).length
noncomputable def nxL (l : Int) : List W3 → Int
  | [] => l
  | x :: _ => if x.1 = 0 then l + 1 else l
/-- where the reading stands -/
structure TxAt (tx : Str) (n : Int) (rest : List W3) : Prop where
  drop : tx.cps.toList.drop n.toNat = flat3 rest
  pos : 0 ≤ n
  len : n + (flat3 rest).length = tx.length
  ok : ∀ x ∈ rest, w3Ok x
theorem TxAt.next {tx : Str} {n : Int} {x : W3} {rest : List W3} (h : TxAt tx n (x :: rest)) : TxAt tx (n + (spC x).length) rest := by
  have hd := h.drop
  have hl := h.len
  have hp := h.pos
  simp only [flat3, List.flatMap_cons] at hd hl
  refine ⟨?_, by omega, ?_, fun y hy => h.ok y (.tail _ hy)⟩
  · rw [show (n + ((spC x).length : Int)).toNat = n.toNat + (spC x).length by omega, ← List.drop_drop, hd, List.drop_left]
    rfl
  · rw [List.length_append] at hl
    simp only [flat3]
    omega
section
variable {w : World} {X : Lx} {p : Pos} {s : Shared} {tx : Str} {n l : Int} {tn tl eb : Nat}
theorem tokN_W {Y : CxW} {rest : List W3} (H : LxIn w s X tx) (h1 : s.heap.get? X.ld = some (ldO w X l tl)) (h2 : s.heap.get? X.ai = some (aiO n tn)) (h3 : s.heap.get? X.pb = some (pbO [] eb)) (hT : TxAt tx n rest) :
    ∃ t s', Returns (model prog w) (Y.ctx (tokC X.lx)) p s (.ok (.ret (.str (nxS rest) t))) s' ∧ TokTo w X s s' (nxN n rest) (nxL l rest) eb := by
  cases rest with
  | nil =>
    have := hT.len
    exact tok_EW H h1 h2 h3 (by simp [flat3] at this; exact this)
  | cons x rest =>
    have hd := hT.drop
    have hk := hT.ok x (.head _)
    have hc : 48 ≤ 48 + x.2.1 ∧ 48 + x.2.1 ≤ 57 := by have := hk.1; omega
    have hq : 48 ≤ 48 + x.2.2 ∧ 48 + x.2.2 ≤ 57 := by have := hk.2; omega
    simp only [flat3, List.flatMap_cons] at hd
    show ∃ t s', Returns _ _ _ _ (.ok (.ret (.str (w3S x) t))) s' ∧ TokTo w X s s' (n + (spC x).length) (if x.1 = 0 then l + 1 else l) eb
    rw [← w3_eq hk]
    unfold spC at hd ⊢
    by_cases w0 : x.1 = 0
    · rw [w0] at hd ⊢
      exact tok_0W H h1 h2 h3 hT.pos hc hq hd
    · rw [if_neg w0]
      by_cases w1 : x.1 = 1
      · rw [w1] at hd ⊢
        exact tok_1W H h1 h2 h3 hT.pos hc hq hd
      · have e : ∀ a b, spellL x.1 a b = spellL 2 a b := fun a b => by unfold spellL; rw [if_neg w0, if_neg w1]; rfl
        rw [e] at hd ⊢
        exact tok_2W H h1 h2 h3 hT.pos hc hq hd
theorem tokN_F {Y : CxO} {rest : List W3} (H : LxIn w s X tx) (h1 : s.heap.get? X.ld = some (ldO w X l tl)) (h2 : s.heap.get? X.ai = some (aiO n tn)) (h3 : s.heap.get? X.pb = some (pbO [] eb)) (hT : TxAt tx n rest) :
    ∃ t s', Returns (model prog w) (Y.ctx (tokC X.lx)) p s (.ok (.ret (.str (nxS rest) t))) s' ∧ TokTo w X s s' (nxN n rest) (nxL l rest) eb := by
  cases rest with
  | nil =>
    have := hT.len
    exact tok_EF H h1 h2 h3 (by simp [flat3] at this; exact this)
  | cons x rest =>
    have hd := hT.drop
    have hk := hT.ok x (.head _)
    have hc : 48 ≤ 48 + x.2.1 ∧ 48 + x.2.1 ≤ 57 := by have := hk.1; omega
    have hq : 48 ≤ 48 + x.2.2 ∧ 48 + x.2.2 ≤ 57 := by have := hk.2; omega
    simp only [flat3, List.flatMap_cons] at hd
    show ∃ t s', Returns _ _ _ _ (.ok (.ret (.str (w3S x) t))) s' ∧ TokTo w X s s' (n + (spC x).length) (if x.1 = 0 then l + 1 else l) eb
    rw [← w3_eq hk]
    unfold spC at hd ⊢
    by_cases w0 : x.1 = 0
    · rw [w0] at hd ⊢
      exact tok_0F H h1 h2 h3 hT.pos hc hq hd
    · rw [if_neg w0]
      by_cases w1 : x.1 = 1
      · rw [w1] at hd ⊢
        exact tok_1F H h1 h2 h3 hT.pos hc hq hd
      · have e : ∀ a b, spellL x.1 a b = spellL 2 a b := fun a b => by unfold spellL; rw [if_neg w0, if_neg w1]; rfl
        rw [e] at hd ⊢
        exact tok_2F H h1 h2 h3 hT.pos hc hq hd
end
theorem ofE : Str.ofString "" = ⟨#[]⟩ := by decide +kernel
structure WordOk (c q : Int) : Prop where
  ne : ((wordS c q).cps.toList != (Str.ofString "").cps.toList) = true
  len : (wordS c q).length ≤ sizeLine
  slice : ∀ t tl, MkS (sliceMade (wordS c q) t (some (2, tl)) none none) (rp q)
  ql : (rp q).length ≤ 640
  qq : PySem.intText? (rp q) = some q
  cc : PySem.intText? (⟨#[(48 + c).toNat]⟩ : Str) = some c
  idx : (seqIndex? 0 (wordS c q).length).bind ((wordS c q).cps[·]?) = some (48 + c).toNat
  l1 : (rp c).length ≤ sizeLine
  l2 : (rp c ++ ⟨#[32]⟩).length ≤ sizeLine
  l3 : (rp q).length ≤ sizeLine
theorem wordOk_of {c q : Int} (hc0 : 0 ≤ c) (hc : c ≤ 5) (hq0 : 0 ≤ q) (hq : q < 40) : WordOk c q := by
  have h := word_ok hc0 hc hq0 hq
  unfold wordOk at h
  simp only [Bool.and_eq_true, decide_eq_true_eq] at h
  obtain ⟨⟨⟨⟨⟨⟨⟨⟨⟨h1, h2⟩, h3⟩, h4⟩, h5⟩, h6⟩, h7⟩, h8⟩, h9⟩, h10⟩ := h
  have sl : 1000 ≤ sizeLine := by rw [sizeLine_eq]; omega
  refine ⟨by rw [ofE]; exact bne_iff_ne.mpr h1, by omega, fun t tl => ?_, by omega, h6, h7, h8, by omega, by omega, by omega⟩
  have e : slicePicked (wordS c q) (some (2, tl)) none none = Builtin.Str.strSliceIndices (some 2) none 1 (wordS c q).length := rfl
  refine .inr ⟨?_, by omega⟩
  unfold sliceMade
  rw [e, if_neg (by
    intro hh
    have := (Bool.and_eq_true_iff.mp hh).2
    exact h3 (beq_iff_eq.mp this)), h4]
end Mine
namespace Mine
open PySem PySem.W PySem.W.X
open Sem (wp finPost)
structure RdIn (w : World) (s : Shared) (f d sn : Nat) (X : Lx) (tx : Str) (L : List Ent) (ws : List (Str × Tok)) (n l : Int) : Prop where
  lx : LxIn w s X tx
  nd : [f, d, sn, X.ld, X.ai, X.pb].Nodup
  big : 140 ≤ f ∧ 140 ≤ d ∧ 140 ≤ sn
  off : ∀ c ∈ lxRo w X tx, c.1 ∉ [f, d, sn, X.ld, X.ai, X.pb]
  dd : ∃ ed, s.heap.get? d = some (dO L ed)
  ss : ∃ ep, s.heap.get? sn = some (ssO ws ep)
  ld : ∃ tl, s.heap.get? X.ld = some (ldO w X l tl)
  ai : ∃ tn, s.heap.get? X.ai = some (aiO n tn)
  pb : ∃ eb, s.heap.get? X.pb = some (pbO [] eb)
  laid : Laid1 L
  pos : ∀ x ∈ L, 0 ≤ x.k
noncomputable def FrR (w : World) (s : Shared) (f d sn : Nat) (X : Lx) (later b : Bool) (x : Str) : Prop := match later with
  | false => ∃ k1 k2 k3 k4 k5 kw, s.heap.get? f = some (rdF1 w X d sn k1 k2 k3 k4 k5 kw b x)
  | true => ∃ k1 k2 k3 k4 k5 kw k6 k7 t1 t2 v1 v2, s.heap.get? f = some (rdF2 w X d sn k1 k2 k3 k4 k5 kw k6 k7 t1 t2 b x v1 v2)
noncomputable def v3 (cv : Int → Int) (x : W3) : Int := cv x.2.1 * (-2) ^ x.2.2
noncomputable def curV (cv : Int → Int) : Option (Int × Int) → Int
  | none => 0
  | some x => cv x.1 * (-2) ^ x.2.toNat
noncomputable def curS : Option (Int × Int) → Str
  | none => ⟨#[]⟩
  | some x => wordS x.1 x.2
noncomputable def mu3 (cur : Option (Int × Int)) (K : Int) (rest : List W3) : Nat := match cur with
  | none => 0
  | some x => 100 * rest.length + 50 + (K + 1 - x.2).toNat
structure RdSt (L : List Ent) (ws : List (Str × Tok)) (n l : Int) (tx : Str) (cur : Option (Int × Int)) (fr : Bool) (K : Int) (rest : List W3) (W : List Str) (LN SA SB : Int) : Prop where
  txt : TxAt tx n rest
  ended : cur = none → fr = true ∧ rest = []
  chip : ∀ x, cur = some x → 0 ≤ x.1 ∧ x.1 ≤ 5 ∧ 0 ≤ x.2 ∧ x.2 ≤ K + 1 ∧ (x.2 = K + 1 → x.1 % 2 = 0) ∧ ∀ y ∈ L, y.k < K ∨ y.k < x.2
  room : 2 ≤ K ∧ (cur ≠ none → K + 2 * rest.length ≤ 14)
  seen : ws.map (·.1) ++ (if fr = true then (match cur with | none => [] | some x => [wordS x.1 x.2]) else []) ++ rest.map w3S = W
  line : l + (rest.countP fun x => x.1 = 0) = LN
  sum : ∃ n0 : Nat, ∀ k : Nat, n0 ≤ k → rowV cvA (dig L) k + curV cvA cur + isum (rest.map (v3 cvA)) = SA ∧ rowV cvB (dig L) k + curV cvB cur + isum (rest.map (v3 cvB)) = SB
noncomputable def curOf : List W3 → Option (Int × Int)
  | [] => none
  | x :: _ => some ((x.2.1 : Int), (x.2.2 : Int))
theorem curS_of (rest : List W3) : curS (curOf rest) = nxS rest := by cases rest <;> rfl
theorem curV_of {cv : Int → Int} (rest : List W3) : curV cv (curOf rest) + isum (rest.tail.map (v3 cv)) = isum (rest.map (v3 cv)) := by
  cases rest with
  | nil => rfl
  | cons x r => rfl
section
variable {L L' : List Ent} {ws ws' : List (Str × Tok)} {n l : Int} {tx : Str} {c q K : Int} {fr : Bool} {rest : List W3} {W : List Str} {LN SA SB : Int}
/-- the words seen after a turn -/
noncomputable def wsTo (fr : Bool) (ws : List (Str × Tok)) (x : Str) (t : Tok) : List (Str × Tok) := if fr = true then ws ++ [(x, t)] else ws
theorem wsTo_map (x : Str) (t : Tok) : (wsTo fr ws x t).map (·.1) = ws.map (·.1) ++ (if fr = true then [x] else []) := by
  unfold wsTo
  split <;> simp
/-- nothing goes up: the next word is read -/
theorem rd_E (H : RdSt L ws n l tx (some (c, q)) fr K rest W LN SA SB) (hL : Laid1 L) (P : PutTo L L' q (newF c (dig L q))) (hu : upF c (dig L q) = 6) (kw : Tok) :
    RdSt L' (wsTo fr ws (wordS c q) kw) (nxN n rest) (nxL l rest) tx (curOf rest) true (K + 2) rest.tail W LN SA SB ∧ mu3 (curOf rest) (K + 2) rest.tail < mu3 (some (c, q)) K rest := by
  obtain ⟨h1, h2, h3, h4, h5, h6⟩ := H.chip _ rfl
  dsimp only at h1 h2 h3 h4 h5 h6
  have hr : 2 ≤ K ∧ K + 2 * rest.length ≤ 14 := ⟨H.room.1, H.room.2 (by simp)⟩
  have hq : ∀ x, curOf rest = some x → 0 ≤ x.1 ∧ x.1 ≤ 5 ∧ 0 ≤ x.2 ∧ x.2 ≤ 2 := fun x hx => by
    cases rest with
    | nil => cases hx
    | cons y r =>
      cases hx
      have := H.txt.ok y (.head _)
      have a := this.1; have b := this.2
      dsimp only; omega
  have hlen : rest.tail.length = rest.length - 1 := List.length_tail
  refine ⟨⟨?_, ?_, fun x hx => ?_, ⟨by omega, ?_⟩, ?_, ?_, ?_⟩, ?_⟩
  · cases rest with
    | nil => exact H.txt
    | cons y r => exact H.txt.next
  · intro e
    cases rest with
    | nil => exact ⟨rfl, rfl⟩
    | cons y r => cases e
  · obtain ⟨a, b, c', d⟩ := hq x hx
    refine ⟨a, b, c', by omega, fun e => by omega, fun y hy => .inl ?_⟩
    rcases P.keys y hy with e | ⟨z, hz, e⟩
    · omega
    · have := h6 z hz; omega
  · cases rest with
    | nil => exact fun h => absurd rfl h
    | cons y r => have := hr.2; intro _; simp at this ⊢; omega
  · rw [wsTo_map]
    have := H.seen
    cases rest with
    | nil => simpa [curOf] using this
    | cons y r => simpa [curOf, w3S] using this
  · have := H.line
    cases rest with
    | nil => exact this
    | cons y r =>
      rw [List.countP_cons] at this
      by_cases e : y.1 = 0
      · simp only [e, decide_true, if_true] at this
        show (if y.1 = 0 then l + 1 else l) + _ = _
        rw [if_pos e]
        simp only [List.tail_cons]
        omega
      · simp only [e, decide_false] at this
        show (if y.1 = 0 then l + 1 else l) + _ = _
        rw [if_neg e]
        simp only [List.tail_cons]
        simpa using this
  · obtain ⟨n0, hn⟩ := H.sum
    refine ⟨max n0 (q.toNat + 1), fun k hk => ?_⟩
    have a := hn k (by omega)
    have t := turn_sum hL (corners h1 h2) h3 P k (by omega)
    rw [hu] at t
    have z1 : cvA 6 = 0 := rfl
    have z2 : cvB 6 = 0 := rfl
    rw [z1, z2] at t
    have e1 := curV_of (cv := cvA) rest
    have e2 := curV_of (cv := cvB) rest
    have e3 : curV cvA (some (c, q)) = cvA c * (-2) ^ q.toNat := rfl
    have e4 : curV cvB (some (c, q)) = cvB c * (-2) ^ q.toNat := rfl
    omega
  · cases rest with
    | nil => show 0 < _; unfold mu3; dsimp only; omega
    | cons y r =>
      have := hq _ rfl
      have hk := hr.2
      unfold mu3 curOf
      simp only [List.length_cons, List.tail_cons] at hk ⊢
      dsimp only at this
      omega
/-- a chip goes up: it is pushed back, and read next -/
theorem rd_U (H : RdSt L ws n l tx (some (c, q)) fr K rest W LN SA SB) (hL : Laid1 L) (P : PutTo L L' q (newF c (dig L q))) (hu : upF c (dig L q) < 6) (kw : Tok) :
    RdSt L' (wsTo fr ws (wordS c q) kw) n l tx (some (upF c (dig L q), q + 1)) false K rest W LN SA SB ∧ mu3 (some (upF c (dig L q), q + 1)) K rest < mu3 (some (c, q)) K rest := by
  obtain ⟨h1, h2, h3, h4, h5, h6⟩ := H.chip _ rfl
  dsimp only at h1 h2 h3 h4 h5 h6
  have hr : 2 ≤ K ∧ K + 2 * rest.length ≤ 14 := ⟨H.room.1, H.room.2 (by simp)⟩
  have pu := put_up c (dig L q) (corners h1 h2) (dig_isDig hL q)
  have hn0 : K ≤ q → dig L q = none := fun hk => dig_none fun y hy e => by have := h6 y hy; omega
  have hqK : q ≤ K := by
    apply Classical.byContradiction
    intro hc
    have e : q = K + 1 := by omega
    have := pu.2.1 (hn0 (by omega)) (h5 e)
    omega
  refine ⟨⟨H.txt, fun e => by (cases e), fun x hx => ?_, ⟨hr.1, fun _ => hr.2⟩, ?_, H.line, ?_⟩, ?_⟩
  · cases hx
    refine ⟨pu.1.1, by dsimp only; omega, by dsimp only; omega, by dsimp only; omega, fun e => ?_, fun y hy => ?_⟩
    · dsimp only at e ⊢
      have hk : q = K := by omega
      have nn := hn0 (by omega)
      have c2 : c % 2 = 1 := by
        apply Classical.byContradiction
        intro h
        have := pu.2.1 nn (by omega)
        omega
      exact pu.2.2.1 nn c2 hu
    · dsimp only
      rcases P.keys y hy with e | ⟨z, hz, e⟩
      · right; omega
      · have := h6 z hz
        rw [e] at this
        omega
  · rw [wsTo_map]
    have := H.seen
    simpa using this
  · obtain ⟨n0, hn⟩ := H.sum
    refine ⟨max n0 (q.toNat + 1), fun k hk => ?_⟩
    have a := hn k (by omega)
    have t := turn_sum hL (corners h1 h2) h3 P k (by omega)
    have e3 : curV cvA (some (c, q)) = cvA c * (-2) ^ q.toNat := rfl
    have e4 : curV cvB (some (c, q)) = cvB c * (-2) ^ q.toNat := rfl
    have ep : (q + 1).toNat = q.toNat + 1 := by omega
    have e5 : curV cvA (some (upF c (dig L q), q + 1)) = -2 * cvA (upF c (dig L q)) * (-2) ^ q.toNat := by
      show cvA (upF c (dig L q)) * (-2) ^ (q + 1).toNat = _
      rw [ep, Int.pow_succ, Int.mul_comm ((-2) ^ q.toNat) (-2), ← Int.mul_assoc, Int.mul_comm (cvA _) (-2)]
    have e6 : curV cvB (some (upF c (dig L q), q + 1)) = -2 * cvB (upF c (dig L q)) * (-2) ^ q.toNat := by
      show cvB (upF c (dig L q)) * (-2) ^ (q + 1).toNat = _
      rw [ep, Int.pow_succ, Int.mul_comm ((-2) ^ q.toNat) (-2), ← Int.mul_assoc, Int.mul_comm (cvB _) (-2)]
    have z1 : -2 * cvA (upF c (dig L q)) * (-2) ^ q.toNat = -(2 * cvA (upF c (dig L q)) * (-2) ^ q.toNat) := by rw [Int.neg_mul, Int.neg_mul]
    have z2 : -2 * cvB (upF c (dig L q)) * (-2) ^ q.toNat = -(2 * cvB (upF c (dig L q)) * (-2) ^ q.toNat) := by rw [Int.neg_mul, Int.neg_mul]
    omega
  · unfold mu3
    dsimp only
    omega
end
end Mine
namespace Mine
open PySem PySem.W PySem.W.X
open Sem (wp finPost)
theorem log_small {a : Int} (h0 : 0 ≤ a) (h : a < 1000) : a.natAbs.log2 < 1920 := by
  have := Nat.log2_le_self a.natAbs
  omega
noncomputable def rdR (w : World) (s₀ : Shared) (f d sn : Nat) (X : Lx) (W : List Str) (LN SA SB : Int) (r : Result) (s' : Shared) : Prop :=
  r = .ok .next ∧ Step s₀ s' [f, d, sn, X.ld, X.ai, X.pb] ∧ FrR w s' f d sn X true true ⟨#[]⟩ ∧ (∃ L ed, s'.heap.get? d = some (dO L ed) ∧ Laid1 L ∧ (∀ x ∈ L, 0 ≤ x.k) ∧ RowIs L SA SB) ∧ (∃ ws ep, s'.heap.get? sn = some (ssO ws ep) ∧ ws.map (·.1) = W) ∧
    (∃ tl, s'.heap.get? X.ld = some (ldO w X LN tl)) ∧ (∃ n tn, s'.heap.get? X.ai = some (aiO n tn)) ∧ ∃ eb, s'.heap.get? X.pb = some (pbO [] eb)
theorem six {P : Cell → Prop} {a b c d e g : Cell} (h1 : P a) (h2 : P b) (h3 : P c) (h4 : P d) (h5 : P e) (h6 : P g) : ∀ x ∈ [a, b, c, d, e, g], P x := fun x hx => by
  simp only [List.mem_cons, List.not_mem_nil, or_false] at hx
  rcases hx with rfl | rfl | rfl | rfl | rfl | rfl <;> assumption
section
variable {w : World} {Z : CxO} {f d sn : Nat} {X : Lx} {tx : Str} {s₀ : Shared} {W : List Str} {LN SA SB : Int}
theorem rd_rep {s : Shared} {L : List Ent} {ws : List (Str × Tok)} {n l : Int} {o : Obj} {ed ep tl tn eb : Nat} (I : RdIn w s f d sn X tx L ws n l) (hf : s.heap.get? f = some o) (hd : s.heap.get? d = some (dO L ed)) (hs : s.heap.get? sn = some (ssO ws ep)) (h1 : s.heap.get? X.ld = some (ldO w X l tl)) (h2 : s.heap.get? X.ai = some (aiO n tn)) (h3 : s.heap.get? X.pb = some (pbO [] eb)) :
    Rep (VV w) s [f, d, sn, X.ld, X.ai, X.pb] (mkT [(f, o), (d, dO L ed), (sn, ssO ws ep), (X.ld, ldO w X l tl), (X.ai, aiO n tn), (X.pb, pbO [] eb)] (lxRo w X tx)) 6 0 (alOf 6 [] s.heap.objs.size) (alOf 0 [] s.toks) s :=
  rep_start (V := VV w) (cs := [(f, o), (d, dO L ed), (sn, ssO ws ep), (X.ld, ldO w X l tl), (X.ai, aiO n tn), (X.pb, pbO [] eb)]) (rs := lxRo w X tx) I.lx.top
    (six (P := fun c => s.heap.get? c.1 = some c.2) hf hd hs h1 h2 h3) I.nd
    (six (P := fun c => (VV w).top.get c.1 = none) (top_off I.big.1) (top_off I.big.2.1) (top_off I.big.2.2) (top_off I.lx.big.1) (top_off I.lx.big.2.1) (top_off I.lx.big.2.2)) (fun c hc => ⟨I.lx.ro c hc, I.off c hc⟩) (by simp)
theorem RdIn.go {s s' : Shared} {L L' : List Ent} {ws ws' : List (Str × Tok)} {n l n' l' : Int} (I : RdIn w s f d sn X tx L ws n l) (st : Step s s' [f, d, sn, X.ld, X.ai, X.pb]) (hd : ∃ ed, s'.heap.get? d = some (dO L' ed)) (hs : ∃ ep, s'.heap.get? sn = some (ssO ws' ep))
    (h1 : ∃ tl, s'.heap.get? X.ld = some (ldO w X l' tl)) (h2 : ∃ tn, s'.heap.get? X.ai = some (aiO n' tn)) (h3 : ∃ eb, s'.heap.get? X.pb = some (pbO [] eb)) (q : Int) (hq : 0 ≤ q) {v : Option Int} (P : PutTo L L' q v) : RdIn w s' f d sn X tx L' ws' n' l' :=
  ⟨⟨I.lx.top.step st ((allC (I.big.1) (allC (I.big.2.1) (allC (I.big.2.2) (allC (I.lx.big.1) (allC (I.lx.big.2.1) (allC (I.lx.big.2.2) allN))))))), fun c hc => st.keep c.1 c.2 (I.lx.ro c hc) (I.off c hc), I.lx.nd, I.lx.big, I.lx.off⟩, I.nd, I.big, I.off, hd, hs, h1, h2, h3, P.laid, fun x hx => (P.keys x hx).elim (fun e => by omega) fun ⟨y, hy, e⟩ => by rw [← e]; exact I.pos y hy⟩
theorem rd_loop : ∀ (N : Nat) (L : List Ent) (ws : List (Str × Tok)) (n l : Int) (cur : Option (Int × Int)) (fr later : Bool) (K : Int) (rest : List W3) (p : Pos) (s : Shared), mu3 cur K rest < N → RdIn w s f d sn X tx L ws n l → FrR w s f d sn X later fr (curS cur) → RdSt L ws n l tx cur fr K rest W LN SA SB →
    (cur = none → later = true) → (later = false → fr = true) → Step s₀ s [f, d, sn, X.ld, X.ai, X.pb] → L.length + N ≤ 1000 → ws.length + N ≤ 1000 → wpCode (model prog w) (Z.ctx (asLoop f)) (rdR w s₀ f d sn X W LN SA SB) p s := by
  intro N
  induction N with
  | zero => intro L ws n l cur fr later K rest p s h; omega
  | succ N ih =>
    intro L ws n l cur fr later K rest p s hmu I hF H hlater hfr st hz hzs
    obtain ⟨ed, hd⟩ := I.dd
    obtain ⟨ep, hs⟩ := I.ss
    obtain ⟨tl, h1⟩ := I.ld
    obtain ⟨tn, h2⟩ := I.ai
    obtain ⟨eb, h3⟩ := I.pb
    match cur, hmu, hF, H, hlater with
    | none, hmu, hF, H, hlater =>
      rw [hlater rfl] at hF
      obtain ⟨rfl, rfl⟩ := H.ended rfl
      obtain ⟨k1, k2, k3, k4, k5, kw, k6, k7, t1, t2, v1, v2, hf⟩ := hF
      refine run_mix (isM w) (skip_ok _ w) (rd_rep I hf hd hs h1 h2 h3) (run_rdX w X Z p f d sn ed ep eb k1 k2 k3 k4 k5 kw k6 k7 t1 t2 tl tn v1 v2 L ws tx tx tx tx tx tx tx tx 0 0 0 n l 0 0 0 _ _) (fun s' hn hc => ?_)
      have hline := H.line
      have hseen := H.seen
      simp at hline hseen
      obtain ⟨n0, hn0⟩ := H.sum
      refine ⟨rfl, st.trans hn.step |>.mono (by simp), ⟨_, _, _, _, _, _, _, _, _, _, _, _, hc.1⟩, ⟨L, ed, hc.2.1, I.laid, I.pos, n0, fun k hk => ?_⟩, ⟨ws, ep, hc.2.2.1, hseen⟩, ⟨tl, by rw [← hline]; exact hc.2.2.2.1⟩, ⟨n, tn, hc.2.2.2.2.1⟩, ⟨eb, hc.2.2.2.2.2.1⟩⟩
      have := hn0 k hk
      simpa [curV, isum] using this
    | some (c, q), hmu, hF, H, hlater =>
      obtain ⟨g1, g2, g3, g4, g5, g6⟩ := H.chip _ rfl
      dsimp only at g1 g2 g3 g4 g5 g6
      have hr : 2 ≤ K ∧ K + 2 * rest.length ≤ 14 := ⟨H.room.1, H.room.2 (by simp)⟩
      have wo := wordOk_of g1 g2 g3 (by omega)
      have hz1 : L.length ≤ 1000 := by omega
      have hw1 : ws.length ≤ 1000 := by omega
      have c6 : c < 6 := by omega
      have pu := put_up c (dig L q) (corners g1 g2) (dig_isDig I.laid q)
      have hcc : (⟨#[(48 + c).toNat]⟩ : Str).length ≤ 640 := Nat.le_of_ble_eq_true rfl
      have hws : ∀ t : Tok, (wsTo fr ws (wordS c q) t).length + N ≤ 1000 := fun t => by
        unfold wsTo
        split
        · simp; omega
        · omega
      have nextE : ∀ {s' : Shared} {L' : List Ent} {p' : Pos} {t : Tok}, upF c (dig L q) = 6 → Step s s' [f, d, sn, X.ld, X.ai, X.pb] → PutTo L L' q (newF c (dig L q)) → (∃ ed, s'.heap.get? d = some (dO L' ed)) → (∃ ep, s'.heap.get? sn = some (ssO (wsTo fr ws (wordS c q) t) ep)) →
          (∃ tl, s'.heap.get? X.ld = some (ldO w X (nxL l rest) tl)) → (∃ tn, s'.heap.get? X.ai = some (aiO (nxN n rest) tn)) → (∃ eb, s'.heap.get? X.pb = some (pbO [] eb)) → FrR w s' f d sn X true true (nxS rest) → wpCode (model prog w) (Z.ctx (asLoop f)) (rdR w s₀ f d sn X W LN SA SB) p' s' :=
        fun {s' L' p' t} hu st' P a1 a2 a3 a4 a5 a6 => by
          obtain ⟨H', hm'⟩ := rd_E H I.laid P hu t
          have := P.len
          exact ih L' _ _ _ (curOf rest) true true (K + 2) rest.tail p' s' (by omega) (I.go st' a1 a2 a3 a4 a5 q g3 P) (by rw [curS_of]; exact a6) H' (fun _ => rfl) (fun e => by cases e) (st.trans st' |>.mono (by simp)) (by omega) (hws t)
      have nextU : ∀ {s' : Shared} {L' : List Ent} {p' : Pos} {t : Tok}, upF c (dig L q) < 6 → Step s s' [f, d, sn, X.ld, X.ai, X.pb] → PutTo L L' q (newF c (dig L q)) → (∃ ed, s'.heap.get? d = some (dO L' ed)) → (∃ ep, s'.heap.get? sn = some (ssO (wsTo fr ws (wordS c q) t) ep)) →
          (∃ tl, s'.heap.get? X.ld = some (ldO w X l tl)) → (∃ tn, s'.heap.get? X.ai = some (aiO n tn)) → (∃ eb, s'.heap.get? X.pb = some (pbO [] eb)) → FrR w s' f d sn X true false (wordS (upF c (dig L q)) (q + 1)) → wpCode (model prog w) (Z.ctx (asLoop f)) (rdR w s₀ f d sn X W LN SA SB) p' s' :=
        fun {s' L' p' t} hu st' P a1 a2 a3 a4 a5 a6 => by
          obtain ⟨H', hm'⟩ := rd_U H I.laid P hu t
          have := P.len
          exact ih L' _ n l (some (upF c (dig L q), q + 1)) false true K rest p' s' (by omega) (I.go st' a1 a2 a3 a4 a5 q g3 P) a6 H' (fun e => by cases e) (fun e => by cases e) (st.trans st' |>.mono (by simp)) (by omega) (hws t)
      have hA : ∀ c ∈ lxRo w X tx, c.1 ∉ [f, d, sn, X.ld, X.ai, X.pb] := I.off
      by_cases hu : upF c (dig L q) = 6
      · obtain (_ | _) := later
        · rw [hfr rfl] at hF hws nextE nextU
          obtain ⟨k1, k2, k3, k4, k5, kw, hf⟩ := hF
          refine run_mix (isM w) (skip_ok _ w) (rd_rep I hf hd hs h1 h2 h3) (run_rdE1T w X Z p f d sn ed ep eb k1 k2 k3 k4 k5 kw tl tn L ws tx (wordS c q) (rp q) (nxS rest) tx tx tx tx c q 6 n l (nxN n rest) (nxL l rest) (48 + c).toNat _ _)
            (okr_sne true wo.ne rfl fun al1 tk1 => okr_app hw1 rfl rfl fun al2 tk2 => okr_slice (l := some (2, _)) (u := none) (rp q) ⟨rfl, rfl⟩ (wo.slice _ _) rfl fun al3 tk3 => okr_toint q wo.ql wo.qq rfl fun al4 tk4 => okr_sidx _ (by decide) wo.idx rfl fun al5 tk5 => okr_toint c hcc wo.cc rfl fun al6 tk6 => okr_putH I.big.2.1 I.laid hz1 g1 c6 hu (by decide) fun al7 tk7 P => okr_lt false rfl rfl fun al8 tk8 => okr_tok I.lx hA rfl (fun s hL a1 a2 a3 => tokN_W hL a1 a2 a3 H.txt) (by decide) fun al9 tk9 => fun p' s' hn hc => nextE (t := kw) hu hn.step P ⟨_, hc.2.1⟩ ⟨_, hc.2.2.1⟩ ⟨_, hc.2.2.2.1⟩ ⟨_, hc.2.2.2.2.1⟩ ⟨_, hc.2.2.2.2.2.1⟩ ⟨_, _, _, _, _, _, _, _, _, _, _, _, hc.1⟩)
        · obtain (_ | _) := fr
          · obtain ⟨k1, k2, k3, k4, k5, kw, k6, k7, t1, t2, v1, v2, hf⟩ := hF
            refine run_mix (isM w) (skip_ok _ w) (rd_rep I hf hd hs h1 h2 h3) (run_rdE2F w X Z p f d sn ed ep eb k1 k2 k3 k4 k5 kw k6 k7 t1 t2 tl tn v1 v2 L ws tx (wordS c q) (rp q) (nxS rest) tx tx tx tx c q 6 n l (nxN n rest) (nxL l rest) (48 + c).toNat _ _)
              (okr_sne true wo.ne rfl fun al1 tk1 => okr_slice (l := some (2, _)) (u := none) (rp q) ⟨rfl, rfl⟩ (wo.slice _ _) rfl fun al2 tk2 => okr_toint q wo.ql wo.qq rfl fun al3 tk3 => okr_sidx _ (by decide) wo.idx rfl fun al4 tk4 => okr_toint c hcc wo.cc rfl fun al5 tk5 => okr_putH I.big.2.1 I.laid hz1 g1 c6 hu (by decide) fun al6 tk6 P => okr_lt false rfl rfl fun al7 tk7 => okr_tok I.lx hA rfl (fun s hL a1 a2 a3 => tokN_W hL a1 a2 a3 H.txt) (by decide) fun al8 tk8 => fun p' s' hn hc => nextE (t := 0) hu hn.step P ⟨_, hc.2.1⟩ ⟨_, hc.2.2.1⟩ ⟨_, hc.2.2.2.1⟩ ⟨_, hc.2.2.2.2.1⟩ ⟨_, hc.2.2.2.2.2.1⟩ ⟨_, _, _, _, _, _, _, _, _, _, _, _, hc.1⟩)
          · obtain ⟨k1, k2, k3, k4, k5, kw, k6, k7, t1, t2, v1, v2, hf⟩ := hF
            refine run_mix (isM w) (skip_ok _ w) (rd_rep I hf hd hs h1 h2 h3) (run_rdE2T w X Z p f d sn ed ep eb k1 k2 k3 k4 k5 kw k6 k7 t1 t2 tl tn v1 v2 L ws tx (wordS c q) (rp q) (nxS rest) tx tx tx tx c q 6 n l (nxN n rest) (nxL l rest) (48 + c).toNat _ _)
              (okr_sne true wo.ne rfl fun al1 tk1 => okr_app hw1 rfl rfl fun al2 tk2 => okr_slice (l := some (2, _)) (u := none) (rp q) ⟨rfl, rfl⟩ (wo.slice _ _) rfl fun al3 tk3 => okr_toint q wo.ql wo.qq rfl fun al4 tk4 => okr_sidx _ (by decide) wo.idx rfl fun al5 tk5 => okr_toint c hcc wo.cc rfl fun al6 tk6 => okr_putH I.big.2.1 I.laid hz1 g1 c6 hu (by decide) fun al7 tk7 P => okr_lt false rfl rfl fun al8 tk8 => okr_tok I.lx hA rfl (fun s hL a1 a2 a3 => tokN_W hL a1 a2 a3 H.txt) (by decide) fun al9 tk9 => fun p' s' hn hc => nextE (t := kw) hu hn.step P ⟨_, hc.2.1⟩ ⟨_, hc.2.2.1⟩ ⟨_, hc.2.2.2.1⟩ ⟨_, hc.2.2.2.2.1⟩ ⟨_, hc.2.2.2.2.2.1⟩ ⟨_, _, _, _, _, _, _, _, _, _, _, _, hc.1⟩)
      · have hu6 : upF c (dig L q) < 6 := by have := pu.1.2; omega
        have wu := wordOk_of pu.1.1 (by omega : upF c (dig L q) ≤ 5) (by omega : 0 ≤ q + 1) (by omega)
        obtain (_ | _) := later
        · rw [hfr rfl] at hF hws nextE nextU
          obtain ⟨k1, k2, k3, k4, k5, kw, hf⟩ := hF
          refine run_mix (isM w) (skip_ok _ w) (rd_rep I hf hd hs h1 h2 h3) (run_rdU1T w X Z p f d sn ed ep eb k1 k2 k3 k4 k5 kw tl tn L ws tx (wordS c q) (rp q) (nxS rest) (rp (upF c (dig L q))) (rp (upF c (dig L q)) ++ ⟨#[32]⟩) (rp (q + 1)) (wordS (upF c (dig L q)) (q + 1)) c q (upF c (dig L q)) n l (nxN n rest) (nxL l rest) (48 + c).toNat _ _)
            (okr_sne true wo.ne rfl fun al1 tk1 => okr_app hw1 rfl rfl fun al2 tk2 => okr_slice (l := some (2, _)) (u := none) (rp q) ⟨rfl, rfl⟩ (wo.slice _ _) rfl fun al3 tk3 => okr_toint q wo.ql wo.qq rfl fun al4 tk4 => okr_sidx _ (by decide) wo.idx rfl fun al5 tk5 => okr_toint c hcc wo.cc rfl fun al6 tk6 => okr_putH I.big.2.1 I.laid hz1 g1 c6 rfl (by decide) fun al7 tk7 P => okr_lt true (decide_eq_true hu6) rfl fun al8 tk8 => okr_repr _ (log_small pu.1.1 (by omega)) rfl wu.l1 rfl fun al9 tk9 => okr_sadd _ rfl wu.l2 rfl fun al10 tk10 => okr_addI rfl fun al11 tk11 => okr_repr _ (log_small (by omega) (by omega)) rfl wu.l3 rfl fun al12 tk12 => okr_sadd _ rfl wu.len rfl fun al13 tk13 => fun p' s' hn hc => nextU (t := kw) hu6 hn.step P ⟨_, hc.2.1⟩ ⟨_, hc.2.2.1⟩ ⟨_, hc.2.2.2.1⟩ ⟨_, hc.2.2.2.2.1⟩ ⟨_, hc.2.2.2.2.2.1⟩ ⟨_, _, _, _, _, _, _, _, _, _, _, _, hc.1⟩)
        · obtain (_ | _) := fr
          · obtain ⟨k1, k2, k3, k4, k5, kw, k6, k7, t1, t2, v1, v2, hf⟩ := hF
            refine run_mix (isM w) (skip_ok _ w) (rd_rep I hf hd hs h1 h2 h3) (run_rdU2F w X Z p f d sn ed ep eb k1 k2 k3 k4 k5 kw k6 k7 t1 t2 tl tn v1 v2 L ws tx (wordS c q) (rp q) (nxS rest) (rp (upF c (dig L q))) (rp (upF c (dig L q)) ++ ⟨#[32]⟩) (rp (q + 1)) (wordS (upF c (dig L q)) (q + 1)) c q (upF c (dig L q)) n l (nxN n rest) (nxL l rest) (48 + c).toNat _ _)
              (okr_sne true wo.ne rfl fun al1 tk1 => okr_slice (l := some (2, _)) (u := none) (rp q) ⟨rfl, rfl⟩ (wo.slice _ _) rfl fun al2 tk2 => okr_toint q wo.ql wo.qq rfl fun al3 tk3 => okr_sidx _ (by decide) wo.idx rfl fun al4 tk4 => okr_toint c hcc wo.cc rfl fun al5 tk5 => okr_putH I.big.2.1 I.laid hz1 g1 c6 rfl (by decide) fun al6 tk6 P => okr_lt true (decide_eq_true hu6) rfl fun al7 tk7 => okr_repr _ (log_small pu.1.1 (by omega)) rfl wu.l1 rfl fun al8 tk8 => okr_sadd _ rfl wu.l2 rfl fun al9 tk9 => okr_addI rfl fun al10 tk10 => okr_repr _ (log_small (by omega) (by omega)) rfl wu.l3 rfl fun al11 tk11 => okr_sadd _ rfl wu.len rfl fun al12 tk12 => fun p' s' hn hc => nextU (t := 0) hu6 hn.step P ⟨_, hc.2.1⟩ ⟨_, hc.2.2.1⟩ ⟨_, hc.2.2.2.1⟩ ⟨_, hc.2.2.2.2.1⟩ ⟨_, hc.2.2.2.2.2.1⟩ ⟨_, _, _, _, _, _, _, _, _, _, _, _, hc.1⟩)
          · obtain ⟨k1, k2, k3, k4, k5, kw, k6, k7, t1, t2, v1, v2, hf⟩ := hF
            refine run_mix (isM w) (skip_ok _ w) (rd_rep I hf hd hs h1 h2 h3) (run_rdU2T w X Z p f d sn ed ep eb k1 k2 k3 k4 k5 kw k6 k7 t1 t2 tl tn v1 v2 L ws tx (wordS c q) (rp q) (nxS rest) (rp (upF c (dig L q))) (rp (upF c (dig L q)) ++ ⟨#[32]⟩) (rp (q + 1)) (wordS (upF c (dig L q)) (q + 1)) c q (upF c (dig L q)) n l (nxN n rest) (nxL l rest) (48 + c).toNat _ _)
              (okr_sne true wo.ne rfl fun al1 tk1 => okr_app hw1 rfl rfl fun al2 tk2 => okr_slice (l := some (2, _)) (u := none) (rp q) ⟨rfl, rfl⟩ (wo.slice _ _) rfl fun al3 tk3 => okr_toint q wo.ql wo.qq rfl fun al4 tk4 => okr_sidx _ (by decide) wo.idx rfl fun al5 tk5 => okr_toint c hcc wo.cc rfl fun al6 tk6 => okr_putH I.big.2.1 I.laid hz1 g1 c6 rfl (by decide) fun al7 tk7 P => okr_lt true (decide_eq_true hu6) rfl fun al8 tk8 => okr_repr _ (log_small pu.1.1 (by omega)) rfl wu.l1 rfl fun al9 tk9 => okr_sadd _ rfl wu.l2 rfl fun al10 tk10 => okr_addI rfl fun al11 tk11 => okr_repr _ (log_small (by omega) (by omega)) rfl wu.l3 rfl fun al12 tk12 => okr_sadd _ rfl wu.len rfl fun al13 tk13 => fun p' s' hn hc => nextU (t := kw) hu6 hn.step P ⟨_, hc.2.1⟩ ⟨_, hc.2.2.1⟩ ⟨_, hc.2.2.2.1⟩ ⟨_, hc.2.2.2.2.1⟩ ⟨_, hc.2.2.2.2.2.1⟩ ⟨_, _, _, _, _, _, _, _, _, _, _, _, hc.1⟩)
end
end Mine
namespace Mine
open PySem PySem.W PySem.W.X
open Sem (wp finPost)
/-! _law_as_read -/
theorem nodup_new {z x y u : Nat} (h : [x, y, u].Nodup) (h1 : x < z) (h2 : y < z) (h3 : u < z) : [z, z + 1, z + 2, x, y, u].Nodup := by
  simp only [List.nodup_cons, List.mem_cons, List.not_mem_nil, or_false, not_or, not_false_eq_true, List.nodup_nil, and_true] at h ⊢
  omega
theorem off_new {c z x y u : Nat} (h : c < z) (h' : c ∉ [x, y, u]) : c ∉ [z, z + 1, z + 2, x, y, u] := by
  simp only [List.mem_cons, List.not_mem_nil, or_false, not_or] at h' ⊢
  omega
noncomputable def rdC (a : Nat) : Code := .call (.ref 122) ⟨[.ref a], []⟩
noncomputable def asO (Y : CxL) (f : Nat) (p2 : Pos) : CxO := { e2 := envF (st 14) "_law_as_read.<locals>." 122 f, e3 := Y.e3, b2 := fnBody (st 14), b3 := Y.b3, p2 := p2, p3 := Y.p3, p4 := Y.p4 }
noncomputable def twoO (a b : Nat) : Obj := { cls := .type "tuple", data := .seq #[.ref a, .ref b] 0 }
noncomputable def oRl (w : World) (X : Lx) (d sn : Nat) (js : List Nat) (W : List Str) (LN : Int) : Orc := { ctx := true, sel := js, r := (fun _ _ _ _ _ => .ok .next), upd := (fun _ _ i _ tk => [some (rdF2 w X d sn (tk i) (tk (i + 1)) (tk (i + 2)) (tk (i + 3)) (tk (i + 4)) (tk (i + 5)) (tk (i + 6)) (tk (i + 7)) (tk (i + 8)) (tk (i + 9)) true ⟨#[]⟩ (decI (tk (i + 10))) (decI (tk (i + 11)))), some (dO (decL (tk (i + 12))) (tk (i + 13))), some (ssO (W.zip (decN (tk (i + 14)))) (tk (i + 15))), some (ldO w X LN (tk (i + 16))), some (aiO (decI (tk (i + 17))) (tk (i + 18))), some (pbO [] (tk (i + 19)))]), di := 20 }
theorem zip_back (ws : List (Str × Tok)) : (ws.map (·.1)).zip (ws.map (·.2)) = ws := by
  induction ws with
  | nil => rfl
  | cons x ws ih => simp [ih]
section
variable {w : World} {s₀ : Shared} {A₀ : List Addr} {R : Result → Shared → Prop} {m i : Nat} {next : (Nat → Nat) → (Nat → Nat) → RLog}
theorem okr_rl {Z : CxO} {p0 : Pos} {X : Lx} {tx : Str} {f d sn k1 k2 k3 k4 k5 kw tl tn eb : Nat} {n l LN SA SB : Int} {words : List W3} {W : List Str} {js : List Nat} (hL : LxIn w s₀ X tx) (hA : ∀ c ∈ lxRo w X tx, c.1 ∉ A₀) (nd : [f, d, sn, X.ld, X.ai, X.pb].Nodup) (big : 140 ≤ f ∧ 140 ≤ d ∧ 140 ≤ sn) (off : ∀ c ∈ lxRo w X tx, c.1 ∉ [f, d, sn, X.ld, X.ai, X.pb])
    (hj : selOk js [some default, some default, some default, some default, some default, some default] = true) (h6 : words.length = 6) (H : RdSt [] [] n l tx (curOf words) true 2 words.tail W LN SA SB) (hW : W.length = 6) (hm : m ≤ 1000)
    (ok : ∀ al tk, (∀ k, s₀.heap.objs.size ≤ al (m + k)) → Laid1 (decL (tk (i + 12))) → (∀ x ∈ decL (tk (i + 12)), 0 ≤ x.k) → RowIs (decL (tk (i + 12))) SA SB → (decN (tk (i + 14))).length = 6 → OkR (VV w) (model prog w) s₀ A₀ R (next al tk)) :
    OkR (VV w) (model prog w) s₀ A₀ R (.call (.other (asLoop f)) (some (Z.ctx (asLoop f), p0)) m i [some (f, rdF1 w X d sn k1 k2 k3 k4 k5 kw true (nxS words)), some (d, dO [] 0), some (sn, ssO [] 0), some (X.ld, ldO w X l tl), some (X.ai, aiO n tn), some (X.pb, pbO [] eb)] (oRl w X d sn js W LN) next) := by
  refine okr_gen fun c Γ p e1 e2 e3 s hnow hc => ?_
  obtain ⟨rfl, rfl⟩ := Prod.mk.inj (e3 _ rfl)
  refine viaG fun G hG => ?_
  obtain ⟨c1, c2, c3, c4, c5, c6, _⟩ := hc
  dsimp only at c1 c2 c3 c4 c5 c6
  have I : RdIn w s f d sn X tx [] [] n l := ⟨hL.now hA hnow, nd, big, off, ⟨_, c2⟩, ⟨_, c3⟩, ⟨_, c4⟩, ⟨_, c5⟩, ⟨_, c6⟩, ⟨by simp, fun x hx => (by cases hx)⟩, fun x hx => (by cases hx)⟩
  have hmu : mu3 (curOf words) 2 words.tail < 700 := by
    match words, h6 with
    | x :: r, h6 =>
      unfold mu3 curOf
      simp only [List.length_cons, List.tail_cons] at h6 ⊢
      omega
  obtain ⟨r', s', hr', rfl, st, hF, ⟨L, ed, hd', hLd, hpos, hR⟩, ⟨ws, ep, hs', hWs⟩, ⟨tl', hl'⟩, ⟨n', tn', hn'⟩, eb', hb'⟩ := rd_loop (w := w) (Z := Z) (s₀ := s) 700 [] [] n l (curOf words) true false 2 words.tail p0 s hmu I (by rw [curS_of]; exact ⟨_, _, _, _, _, _, c1⟩) H (fun e => by
      match words, h6 with
      | x :: r, h6 => cases e) (fun _ => rfl) ((Step.refl s).mono (by simp)) (by simp) (by simp)
  obtain ⟨k1', k2', k3', k4', k5', kw', k6', k7', t1', t2', v1', v2', hf'⟩ := hF
  have hwl : ws.length = 6 := by rw [← hW, ← hWs, List.length_map]
  let ts : List Nat := [k1', k2', k3', k4', k5', kw', k6', k7', t1', t2', encI v1', encI v2', encN (encE L), ed, encN (ws.map (·.2)), ep, tl', encI n', tn', eb']
  have tk : ∀ k, k < 20 → alOf i ts s'.toks (i + k) = ts.getD k 0 := fun k hk => alOf_at i ts _ k (by simpa [ts] using hk)
  have t0 := tk 0 (by decide); have t1 := tk 1 (by decide); have t2 := tk 2 (by decide); have t3 := tk 3 (by decide); have t4 := tk 4 (by decide)
  have t5 := tk 5 (by decide); have t6 := tk 6 (by decide); have t7 := tk 7 (by decide); have t8 := tk 8 (by decide); have t9 := tk 9 (by decide)
  have t10 := tk 10 (by decide); have t11 := tk 11 (by decide); have t12 := tk 12 (by decide); have t13 := tk 13 (by decide); have t14 := tk 14 (by decide)
  have t15 := tk 15 (by decide); have t16 := tk 16 (by decide); have t17 := tk 17 (by decide); have t18 := tk 18 (by decide); have t19 := tk 19 (by decide)
  have hu : (oRl w X d sn js W LN).upd c m i (alOf m [] s'.heap.objs.size) (alOf i ts s'.toks) = [some (rdF2 w X d sn k1' k2' k3' k4' k5' kw' k6' k7' t1' t2' true ⟨#[]⟩ v1' v2'), some (dO L ed), some (ssO ws ep), some (ldO w X LN tl'), some (aiO n' tn'), some (pbO [] eb')] := by
    simp only [oRl, Nat.add_zero] at t0 ⊢
    rw [t0, t1, t2, t3, t4, t5, t6, t7, t8, t9, t10, t11, t12, t13, t14, t15, t16, t17, t18, t19]
    show [some (rdF2 w X d sn k1' k2' k3' k4' k5' kw' k6' k7' t1' t2' true ⟨#[]⟩ (decI (encI v1')) (decI (encI v2'))), some (dO (decL (encN (encE L))) ed), some (ssO (W.zip (decN (encN (ws.map (·.2))))) ep), some (ldO w X LN tl'), some (aiO (decI (encI n')) tn'), some (pbO [] eb')] = _
    rw [decI_enc, decI_enc, decI_enc, decL_enc, decN_enc, ← hWs, zip_back]
  have eL : decL (alOf i ts s'.toks (i + 12)) = L := by rw [t12]; exact decL_enc L
  have eN : decN (alOf i ts s'.toks (i + 14)) = ws.map (·.2) := by rw [t14]; exact decN_enc _
  refine hG ⟨s', [], ts, rfl, rfl, _, _, rfl, rfl, hr', ?_, ?_, ?_, ⟨rfl, by simpa [oRl] using hm, fun k ob e => (by cases e), fun k hk => (by cases hk), fun k k' hk => (by cases hk)⟩, fun k a ob e => (by cases e), ok _ _ (fun k => ?_) ?_ ?_ ?_ ?_⟩
  · rw [hu]
    match js, hj with
    | [], _ => rfl
    | [_], h => exact h
    | [_, _], h => exact h
    | [_, _, _], h => exact h
    | [_, _, _, _], h => exact h
    | [_, _, _, _, _], h => exact h
    | _ :: _ :: _ :: _ :: _ :: _ :: _, h => exact h
  · rw [hu]; exact ⟨hf', hd', hs', hl', hn', hb', trivial⟩
  · rw [hu]; exact st
  · have := alOf_end m [] s'.heap.objs.size k
    simp only [List.length_nil, Nat.add_zero] at this
    rw [this]
    have := hnow.grow
    have := st.grow
    omega
  · rw [eL]; exact hLd
  · rw [eL]; exact hpos
  · rw [eL]; exact hR
  · rw [eN, List.length_map]; exact hwl
end
noncomputable def trRdF : List Nat := [122, 121, 259, 259, 2, 262, 262, 262, 0, 262, 263, 263, 0, 263, 263, 263, 262, 263, 263, 263, 0, 263, 263, 263, 262, 263, 263, 263, 0, 263, 263, 263, 262, 263, 263, 265, 259, 259, 259, 259, 259, 1256, 94, 94, 93, 1256, 94, 94, 93, 1256, 94, 94, 93, 84, 1256, 256, 84, 1, 266, 266, 266, 0, 266, 267, 267, 0, 267, 267, 267, 266, 267, 267, 267, 0, 267, 267, 267, 266, 267, 267, 267, 0, 267, 267, 267, 266, 267, 267, 269, 259, 259, 259, 259, 1, 259, 259]
noncomputable def eRdF (w : World) (X : Lx) (Y : CxL) (p : Pos) (tx z : Str) (W : List Str) (n l n' l' LN : Int) (tn tl eb : Nat) (al0 tk0 : Nat → Nat) : RLog := .call (.fn 84 [(.ref X.lx)]) (some ((asO Y (al0 3) ⟨146, 25, 146, 42⟩).ctx (tokC X.lx), ⟨146, 25, 146, 42⟩)) 10 3 [some (X.ld, ldO w X l tl), some (X.ai, aiO n tn), some (X.pb, pbO [] eb)] (oTok w X [0, 1, 2] z n' l' eb) fun al1 tk1 => .call (.other (asLoop (al0 3))) (some ((asO Y (al0 3) ⟨147, 4, 155, 32⟩).ctx (asLoop (al0 3)), ⟨147, 4, 155, 32⟩)) 14 8 [some ((al0 3), rdF1 w X (al0 4) (al0 5) (tk0 0) (tk0 1) (tk0 2) (tk1 6) (tk1 7) (tk1 3) true z), some ((al0 4), dO [] 0), some ((al0 5), ssO [] 0), some (X.ld, ldO w X l' (tk1 4)), some (X.ai, aiO n' (tk1 5)), some (X.pb, pbO [] eb)] (oRl w X (al0 4) (al0 5) [3, 4, 5, 0, 1, 2] W LN) fun al2 tk2 => .ret (.ok (.ret (.ref (al2 14)))) [some (X.ld, ldO w X LN (tk2 24)), some (X.ai, aiO (decI (tk2 25)) (tk2 26)), some (X.pb, pbO [] (tk2 27)), some ((al0 4), dO (decL (tk2 20)) (tk2 21)), some ((al0 5), ssO (W.zip (decN (tk2 22))) (tk2 23)), some ((al2 14), twoO (al0 4) (al0 5))]
theorem run_rdF (w : World) (X : Lx) (Y : CxL) (p : Pos) (tx z : Str) (W : List Str) (n l n' l' LN : Int) (tn tl eb : Nat) (al0 tk0 : Nat → Nat) : mixA [0, 1, 2, 4, 5, 14] (seg (VV w) 170 trRdF [oTok w X [0, 1, 2] z n' l' eb, oRl w X (al0 4) (al0 5) [3, 4, 5, 0, 1, 2] W LN] (Y.ctx (rdC X.lx)) p [] (denF (Y.ctx (rdC X.lx)).code) (mkT [(X.ld, ldO w X l tl), (X.ai, aiO n tn), (X.pb, pbO [] eb)] (lxRo w X tx)) 3 0 al0 tk0) = mixB (seg (VV w) 170 trRdF [oTok w X [0, 1, 2] z n' l' eb, oRl w X (al0 4) (al0 5) [3, 4, 5, 0, 1, 2] W LN] (Y.ctx (rdC X.lx)) p [] (denF (Y.ctx (rdC X.lx)).code) (mkT [(X.ld, ldO w X l tl), (X.ai, aiO n tn), (X.pb, pbO [] eb)] (lxRo w X tx)) 3 0 al0 tk0) (eRdF w X Y p tx z W n l n' l' LN tn tl eb al0 tk0) := by kernel_rfl

structure ReadTo (w : World) (s s' : Shared) (X : Lx) (a d sn : Nat) (L : List Ent) (ed : Nat) (W : List Str) (ts : List Nat) (ep : Nat) (LN SA SB : Int) (tl : Nat) (n : Int) (tn eb : Nat) : Prop where
  tup : s'.heap.get? a = some (twoO d sn)
  dd : s'.heap.get? d = some (dO L ed)
  ss : s'.heap.get? sn = some (ssO (W.zip ts) ep)
  ld : s'.heap.get? X.ld = some (ldO w X LN tl)
  ai : s'.heap.get? X.ai = some (aiO n tn)
  pb : s'.heap.get? X.pb = some (pbO [] eb)
  laid : Laid1 L
  pos : ∀ x ∈ L, 0 ≤ x.k
  row : RowIs L SA SB
  len : ts.length = 6
  st : Step s s' [X.ld, X.ai, X.pb]
  na : s.heap.objs.size ≤ a
  nd : s.heap.objs.size ≤ d
  ns : s.heap.objs.size ≤ sn
theorem read_ret {w : World} {Y : CxL} {p : Pos} {s : Shared} {X : Lx} {tx : Str} {words : List W3} {n l : Int} {tl tn eb : Nat} (H : LxIn w s X tx) (h1 : s.heap.get? X.ld = some (ldO w X l tl)) (h2 : s.heap.get? X.ai = some (aiO n tn)) (h3 : s.heap.get? X.pb = some (pbO [] eb)) (hT : TxAt tx n words) (h6 : words.length = 6) :
    ∃ a d sn L ed ts ep tl' n' tn' eb' s', Returns (model prog w) (Y.ctx (rdC X.lx)) p s (.ok (.ret (.ref a))) s' ∧ ReadTo w s s' X a d sn L ed (words.map w3S) ts ep (l + (words.countP fun x => x.1 = 0)) (isum (words.map (v3 cvA))) (isum (words.map (v3 cvB))) tl' n' tn' eb' := by
  have hz := H.top.size
  have A : ∀ k, alOf 3 [] s.heap.objs.size (3 + k) = s.heap.objs.size + k := fun k => by have := alOf_end 3 [] s.heap.objs.size k; simpa using this
  have a3 : alOf 3 [] s.heap.objs.size 3 = s.heap.objs.size := A 0
  have a4 : alOf 3 [] s.heap.objs.size 4 = s.heap.objs.size + 1 := A 1
  have a5 : alOf 3 [] s.heap.objs.size 5 = s.heap.objs.size + 2 := A 2
  have l1 := Heap.lt_size h1
  have l2 := Heap.lt_size h2
  have l3 := Heap.lt_size h3
  have nd := H.nd
  simp only [List.nodup_cons, List.mem_cons, List.not_mem_nil, or_false, not_or, not_false_eq_true, List.nodup_nil, and_true] at nd
  have hw : curOf words = some (((words.head?.getD default).2.1 : Int), ((words.head?.getD default).2.2 : Int)) := by
    match words, h6 with
    | x :: r, _ => rfl
  have St : RdSt [] [] (nxN n words) (nxL l words) tx (curOf words) true 2 words.tail (words.map w3S) (l + (words.countP fun x => x.1 = 0)) (isum (words.map (v3 cvA))) (isum (words.map (v3 cvB))) := by
    match words, h6, hT with
    | x :: r, h6, hT =>
      have hk := hT.ok x (.head _)
      have k1 := hk.1
      have k2 := hk.2
      refine ⟨hT.next, fun e => (by cases e), fun y hy => ?_, ⟨by omega, fun _ => (by simp only [List.tail_cons, List.length_cons] at h6 ⊢; omega)⟩, ?_, ?_, 0, fun k _ => ?_⟩
      · cases hy
        exact ⟨(by dsimp only; omega), (by dsimp only; omega), (by dsimp only; omega), (by dsimp only; omega), fun e => (by dsimp only at e; omega), fun y hy => (by cases hy)⟩
      · simp [curOf, w3S]
      · rw [List.countP_cons]
        show (if x.1 = 0 then l + 1 else l) + _ = _
        by_cases e : x.1 = 0
        · rw [if_pos e]; simp only [e, decide_true, if_true, List.tail_cons]; omega
        · rw [if_neg e]; simp [e]
      · have row0 : ∀ (cv : Int → Int) (n : Nat), rowV cv (dig []) n = 0 := fun cv n => by
          induction n with
          | zero => rfl
          | succ n ih => unfold rowV; rw [ih]; show 0 + 0 * _ = (0 : Int); omega
        rw [row0, row0, Int.zero_add, Int.zero_add, curV_of, curV_of]
        exact ⟨rfl, rfl⟩
  obtain ⟨r', s', e1, a, d, sn, L, ed, ts, ep, tl', n', tn', eb', e2, e3⟩ := run_mix (fs := [0, 1, 2, 4, 5, 14]) (R := fun r' s' => ∃ a d sn L ed ts ep tl' n' tn' eb', r' = .ok (.ret (.ref a)) ∧ ReadTo w s s' X a d sn L ed (words.map w3S) ts ep (l + (words.countP fun x => x.1 = 0)) (isum (words.map (v3 cvA))) (isum (words.map (v3 cvB))) tl' n' tn' eb') (isM w) (skip_ok _ w) (lx_rep H h1 h2 h3)
    (run_rdF w X Y p tx (nxS words) (words.map w3S) n l (nxN n words) (nxL l words) (l + (words.countP fun x => x.1 = 0)) tn tl eb _ _)
    (okr_tok H H.off rfl (fun s hL a1 a2 a3 => tokN_F hL a1 a2 a3 hT) (by decide) fun al1 tk1 =>
      okr_rl H H.off (by rw [a3, a4, a5]; exact nodup_new H.nd l1 l2 l3) (by rw [a3, a4, a5]; exact ⟨hz, by omega, by omega⟩) (fun c hc => by
        rw [a3, a4, a5]
        exact off_new (Heap.lt_size (H.ro c hc)) (H.off c hc)) rfl h6 St (by rw [List.length_map]; exact h6) (by decide) fun al2 tk2 q0 q1 q2 q3 q4 => fun s' hn hc =>
          ⟨_, _, _, _, _, _, _, _, _, _, _, rfl, hc.2.2.2.2.2.1, hc.2.2.2.1, hc.2.2.2.2.1, hc.1, hc.2.1, hc.2.2.1, q1, q2, q3, q4, hn.step, q0 0, by rw [a4]; omega, by rw [a5]; omega⟩)
  subst e2
  exact ⟨a, d, sn, L, ed, ts, ep, tl', n', tn', eb', s', e1, e3⟩
end Mine
namespace Mine
open PySem PySem.W PySem.W.X
open Sem (wp finPost)
/-! _law_spelled: its runs, each word apart -/
noncomputable def txE : PySem.Expr := match nthS (fnBody (st 17)) 3 with
  | .Assign _ v _ => match v with
    | .Call _ as _ _ => (as.head?).getD default
    | _ => default
  | _ => default
structure CxC where
  ci : Value
  ca : Value
  cv : Env
  e3 : Env
  b3 : List Stmt
  p1 : Pos
  p3 : Pos
  p4 : Pos
noncomputable def CxC.ctx (X : CxC) (c : Code) : Ctx := ⟨c, none, none, [(.compLoop txE 0 X.ci X.ca X.cv, X.p1), (.func X.b3 X.e3, X.p3), (.builtin "claim.caller" {}, X.p4)], none⟩
noncomputable def splC (x : Str) (t : Nat) (y : Int) (u : Nat) : Code := .call (.ref 110) ⟨[.str x t, .int y u], []⟩
noncomputable def xs18 : List (Nat × Nat) := [(0, 0), (0, 1), (0, 2), (1, 0), (1, 1), (1, 2), (2, 0), (2, 1), (2, 2), (3, 0), (3, 1), (3, 2), (4, 0), (4, 1), (4, 2), (5, 0), (5, 1), (5, 2)]
theorem mem18 {c q : Nat} (hc : c < 6) (hq : q < 3) : (c, q) ∈ xs18 := by
  have : (List.range 6).all (fun c => (List.range 3).all fun q => decide ((c, q) ∈ xs18)) = true := by decide +kernel
  have h1 := List.all_eq_true.mp this c (List.mem_range.mpr hc)
  exact of_decide_eq_true (List.all_eq_true.mp h1 q (List.mem_range.mpr hq))
noncomputable def trSp0 : List Nat := [110, 109, 256, 256, 256, 256, 2, 256, 0, 256, 0, 0, 256, 0, 257, 257, 257, 257, 0, 0]
theorem run_sp0 (w : World) (X : CxC) (p : Pos) (t u : Nat) (al0 tk0 : Nat → Nat) : xs18.map (fun x => mixA [] (seg (VV w) 67 trSp0 [] (X.ctx (splC ⟨#[48 + x.1, 32, 48 + x.2]⟩ t 0 u)) p [] (denF (X.ctx (splC ⟨#[48 + x.1, 32, 48 + x.2]⟩ t 0 u)).code) (mkT [] []) 0 0 al0 tk0)) = xs18.map (fun x => mixB (seg (VV w) 67 trSp0 [] (X.ctx (splC ⟨#[48 + x.1, 32, 48 + x.2]⟩ t 0 u)) p [] (denF (X.ctx (splC ⟨#[48 + x.1, 32, 48 + x.2]⟩ t 0 u)).code) (mkT [] []) 0 0 al0 tk0) (.ret (.ok (.ret (.str ⟨(spellL 0 (48 + x.1) (48 + x.2)).toArray⟩ (tk0 11)))) [])) := by kernel_rfl
noncomputable def trSp1 : List Nat := [110, 109, 256, 256, 256, 256, 2, 256, 0, 256, 0, 256, 0, 0]
theorem run_sp1 (w : World) (X : CxC) (p : Pos) (t u : Nat) (al0 tk0 : Nat → Nat) : xs18.map (fun x => mixA [] (seg (VV w) 51 trSp1 [] (X.ctx (splC ⟨#[48 + x.1, 32, 48 + x.2]⟩ t 1 u)) p [] (denF (X.ctx (splC ⟨#[48 + x.1, 32, 48 + x.2]⟩ t 1 u)).code) (mkT [] []) 0 0 al0 tk0)) = xs18.map (fun x => mixB (seg (VV w) 51 trSp1 [] (X.ctx (splC ⟨#[48 + x.1, 32, 48 + x.2]⟩ t 1 u)) p [] (denF (X.ctx (splC ⟨#[48 + x.1, 32, 48 + x.2]⟩ t 1 u)).code) (mkT [] []) 0 0 al0 tk0) (.ret (.ok (.ret (.str ⟨(spellL 1 (48 + x.1) (48 + x.2)).toArray⟩ (tk0 7)))) [])) := by kernel_rfl
noncomputable def trSp2 : List Nat := [110, 109, 256, 256, 256, 256, 2, 256, 0, 256, 0, 256, 0, 257, 257, 257, 0, 257, 257, 257, 257, 257, 259, 259, 259, 0, 0, 258, 258, 258, 258, 257, 0, 257, 257, 257, 257, 257, 259, 259, 259, 0, 0, 258, 258, 258, 258, 257, 0, 257, 257, 257, 257, 257, 259, 259, 259, 0, 0, 258, 258, 258, 258, 257, 0, 257, 257, 257, 257, 257, 261, 259, 259, 259, 0, 258, 258, 0]
theorem run_sp2 (w : World) (X : CxC) (p : Pos) (t u : Nat) (al0 tk0 : Nat → Nat) : xs18.map (fun x => mixA [] (seg (VV w) 192 trSp2 [] (X.ctx (splC ⟨#[48 + x.1, 32, 48 + x.2]⟩ t 2 u)) p [] (denF (X.ctx (splC ⟨#[48 + x.1, 32, 48 + x.2]⟩ t 2 u)).code) (mkT [] []) 0 0 al0 tk0)) = xs18.map (fun x => mixB (seg (VV w) 192 trSp2 [] (X.ctx (splC ⟨#[48 + x.1, 32, 48 + x.2]⟩ t 2 u)) p [] (denF (X.ctx (splC ⟨#[48 + x.1, 32, 48 + x.2]⟩ t 2 u)).code) (mkT [] []) 0 0 al0 tk0) (.goto (some (al0 1)) (some (al0 1, { cls := .type "str_ascii_iterator", data := .fields #[.str ⟨#[48 + x.1, 32, 48 + x.2]⟩ t, .int 0 0] })) <| .ret (.ok (.ret (.str ⟨(spellL 2 (48 + x.1) (48 + x.2)).toArray⟩ (tk0 19)))) [])) := by kernel_rfl
theorem spl_ret {w : World} {X : CxC} {p : Pos} {s : Shared} {x : W3} {t u : Nat} (htop : TopIn w s) (hx : w3Ok x) (hw : x.1 < 3) :
    ∃ t' s', Returns (model prog w) (X.ctx (splC (w3S x) t x.1 u)) p s (.ok (.ret (.str ⟨(spC x).toArray⟩ t'))) s' ∧ Step s s' [] := by
  have D0 := rep_start (V := VV w) (s := s) (cs := []) (rs := []) htop (fun c hc => by cases hc) (by simp) (fun c hc => by cases hc) (fun c hc => by cases hc) (by simp)
  obtain ⟨y, c, q⟩ := x
  have hm := mem18 hx.1 hx.2
  rw [← w3_eq hx]
  dsimp only at hw ⊢
  have h3 : y = 0 ∨ y = 1 ∨ y = 2 := by omega
  rcases h3 with rfl | rfl | rfl
  · obtain ⟨r, s', hr, t', rfl, st⟩ := run_mix (fs := []) (R := fun r s' => ∃ t', r = .ok (.ret (.str ⟨(spC (0, c, q)).toArray⟩ t')) ∧ Step s s' []) (isM w) (skip_ok _ w) D0 (List.map_inj_left.mp (run_sp0 w X p t u _ _) (c, q) hm) (fun s' hn hc => ⟨_, rfl, hn.step⟩)
    exact ⟨t', s', hr, st⟩
  · obtain ⟨r, s', hr, t', rfl, st⟩ := run_mix (fs := []) (R := fun r s' => ∃ t', r = .ok (.ret (.str ⟨(spC (1, c, q)).toArray⟩ t')) ∧ Step s s' []) (isM w) (skip_ok _ w) D0 (List.map_inj_left.mp (run_sp1 w X p t u _ _) (c, q) hm) (fun s' hn hc => ⟨_, rfl, hn.step⟩)
    exact ⟨t', s', hr, st⟩
  · obtain ⟨r, s', hr, t', rfl, st⟩ := run_mix (fs := []) (R := fun r s' => ∃ t', r = .ok (.ret (.str ⟨(spC (2, c, q)).toArray⟩ t')) ∧ Step s s' []) (isM w) (skip_ok _ w) D0 (List.map_inj_left.mp (run_sp2 w X p t u _ _) (c, q) hm) ⟨⟨_, _, rfl, rfl, rfl⟩, fun s' hn hc => ⟨_, rfl, hn.step⟩⟩
    exact ⟨t', s', hr, st⟩
end Mine
namespace Mine
open PySem PySem.W PySem.W.X
open Sem (wp finPost)
/-! contracts of the built-ins: lists, and dicts held against each other -/
noncomputable def lsV (vs : List Value) (ep : Nat) : Obj := { cls := .type "list", data := .seq vs.toArray ep }
theorem lsV_isList {s : Shared} {a ep : Nat} {vs : List Value} (h : s.heap.get? a = some (lsV vs ep)) : s.heap.IsList a vs.toArray := ⟨_, h, rfl, _, rfl⟩
theorem lsV_type {s : Shared} {a ep : Nat} {vs : List Value} (h : s.heap.get? a = some (lsV vs ep)) : s.TypeIs (.ref a) "list" := ⟨_, h, rfl⟩
theorem meets_lgi {l : Addr} {items : Array Value} {k : Int} {t : Tok} {x : Value} (h0 : 0 ≤ k) (hfit : k < 2 ^ 63) (hx : items[k.toNat]? = some x) :
    Meets (Builtin.«list.__getitem__» ⟨[.ref l, .int k t], []⟩) (fun _ R s => s.heap.IsList l items ∧ R (.ok (.ret x)) s) :=
  .of_wp fun prog w A R s ⟨hl, h⟩ => by
    obtain ⟨o, ho, hc, ne, hd⟩ := id hl
    show wpAny _ _ (Builtin.List.listSubscript? (.int k t) >>= _) _ _ s
    refine wpAny_bind (wpAny_listSubscript_int (fitsIndex_of h0 hfit) ?_)
    clear hfit
    obtain ⟨j, rfl⟩ := Int.eq_ofNat_of_zero_le h0
    have hx' : items[j]? = some x := hx
    show wpAny _ _ ((seqItemAt l j >>= fun r => pure (r.map (j, ·))) >>= _) _ _ s
    refine wpAny_bind (wpAny_bind (wpAny_seqItemAt ho hd (wpAny_pure ?_)))
    rw [hx']
    exact wpAny_pure ⟨x, rfl, h⟩
theorem meets_lsl {l sl : Addr} {items : Array Value} {vl vu vs : Value} {lo hi st : Option Int} (pl : IsPart vl lo) (pu : IsPart vu hi) (ps : IsPart vs st) (h0 : st ≠ some 0) (hsz : items.size ≤ sizeLine) :
    Meets (Builtin.«list.__getitem__» ⟨[.ref l, .ref sl], []⟩) (fun _ R s => s.heap.IsList l items ∧ s.heap.IsSliceOf sl vl vu vs ∧ R (.ok (.ret (.ref s.heap.objs.size))) { s with heap := s.heap.push { cls := .type "list", data := .seq (slicePick items lo hi st) } }) :=
  .of_wp fun prog w A R s ⟨hl, hs, h⟩ => by
    obtain ⟨o, ho, hc, ne, hd⟩ := id hl
    obtain ⟨os, hos, hcs, hds⟩ := id hs
    have hTs : s.TypeIs (.ref sl) "slice" := ⟨os, hos, hcs⟩
    show wpAny _ _ (Builtin.List.listSubscript? (.ref sl) >>= _) _ _ s
    refine wpAny_bind ?_
    unfold Builtin.List.listSubscript?
    refine wpAny_bind (wpAny_specialOf hTs slice_no_index ?_)
    simp only [Option.isNone_none, if_true]
    refine wpAny_pure ?_
    show wpAny _ _ (typeOf (.ref sl) >>= _) _ _ s
    refine wpAny_bind (wpAny_typeOf hTs ?_)
    rw [if_neg (by decide)]
    rw [listSliceParts_eq]
    have hstep : ¬ ((rawPart st == rawInt 0) = true) := by
      cases st with
      | none => exact Bool.false_ne_true
      | some c =>
        intro hh
        have : c = 0 := by simpa [rawPart, rawInt] using hh
        exact h0 (by rw [this])
    refine wpAny_bind (wpAny_bind (wpAny_field hos hds (x := vs) rfl (wpAny_bind (wpAny_listPart ps ?_))))
    rw [if_neg hstep]
    refine wpAny_bind (wpAny_field hos hds (x := vl) rfl (wpAny_bind (wpAny_listPart pl ?_)))
    refine wpAny_bind (wpAny_field hos hds (x := vu) rfl (wpAny_bind (wpAny_listPart pu (wpAny_pure ?_))))
    refine wpAny_bind (m := Builtin.List.listItems (.ref l)) ?_
    unfold Builtin.List.listItems
    refine wpAny_bind (wpAny_seqItems ho hd (wpAny_pure ?_))
    refine wpAny_bind (wpAny_of_eq (sliceIndices_raw lo hi st items.size h0) ?_)
    exact wpAny_bind (wpAny_newObj_type (wpAny_pure ⟨_, rfl, h⟩) (Nat.le_trans (slicePick_size_le items lo hi st) hsz))
section
variable {w : World} {s₀ : Shared} {A₀ : List Addr} {R : Result → Shared → Prop} {m i : Nat} {next : (Nat → Nat) → (Nat → Nat) → RLog}
theorem step_push (s : Shared) (o : Obj) : Step s { s with heap := s.heap.push o } [] :=
  ⟨fun a x e _ => Heap.get?_push_of_some o e, by show s.heap.objs.size ≤ (s.heap.push o).objs.size; rw [Heap.size_push]; omega, Nat.le_refl _, rfl, rfl, rfl⟩
/-- a call that hands back a new list -/
noncomputable def oNewJ (sel : List Nat) (zs : List Value) (di : Nat) : Orc := { sel, r := (fun _ m _ al _ => .ok (.ret (.ref (al m)))), news := (fun _ _ _ _ _ => [lsV zs 0]), dm := 1, di }
noncomputable def oNew (sel : List Nat) (zs : List Value) : Orc := oNewJ sel zs 0
theorem okr_newJ {V : SV} {rc : RC} {sel : List Nat} {cells : List (Option Cell)} {zs : List Value} {di : Nat} (H : ∀ c Γ p, rcOf c = rc → Γ.code = c → ∀ s, Now V s₀ A₀ s → CellsIn cells s → Returns (model prog w) Γ p s (.ok (.ret (.ref s.heap.objs.size))) { s with heap := s.heap.push (lsV zs 0) }) (hm : m + 1 ≤ 1000)
    (ok : ∀ al tk, OkR V (model prog w) s₀ A₀ R (next al tk)) : OkR V (model prog w) s₀ A₀ R (.call rc none m i cells (oNewJ sel zs di) next) := by
  refine okr_gen fun c Γ p h1 h2 _ s hn hc => ?_
  have a0 : alOf m [s.heap.objs.size] (s.heap.push (lsV zs 0)).objs.size m = s.heap.objs.size := alOf_at m [s.heap.objs.size] _ 0 (by simp)
  have hu : ∀ cells : List (Option Cell), touched cells [] = [] := fun cells => by cases cells <;> rfl
  refine ⟨{ s with heap := s.heap.push (lsV zs 0) }, [s.heap.objs.size], List.replicate di 0, rfl, List.length_replicate, _, _, rfl, rfl, ?_, ?_, ?_, ?_, ⟨rfl, hm, fun k ob e => ?_, fun k hk => ?_, fun k k' hk hk' => ?_⟩, fun k a ob e => (by cases e), ok _ _⟩
  · show Returns _ Γ p s (.ok (.ret (.ref (alOf m [s.heap.objs.size] (s.heap.push (lsV zs 0)).objs.size m)))) _
    rw [a0]
    exact H c Γ p h1 h2 s hn hc
  · cases sel <;> rfl
  · cases cells <;> trivial
  · show Step s _ (touched cells [])
    rw [hu]; exact step_push s _
  · match k, e with
    | 0, e => cases e; exact Heap.get?_push_size _ rfl
  · have hk' : k < 1 := hk
    have : k = 0 := by omega
    subst this
    exact Nat.le_refl _
  · intro _
    have h1 : k < 1 := hk
    have h2 : k' < 1 := hk'
    omega
noncomputable def slT (hi : Int) (thi : Nat) : Obj := { cls := .type "slice", data := .fields #[.none, .int hi thi, .none] }
theorem pick_six (vs : List Value) : slicePick vs.toArray none (some 6) none = (vs.take 6).toArray := by
  by_cases h : 6 ≤ vs.length
  · have e : slicePick vs.toArray none (some 6) none = slicePick vs.toArray (some ((0 : Nat) : Int)) (some ((6 : Nat) : Int)) none := by
      have h2 : min (6 : Int) (vs.length : Int) = 6 := by omega
      have h3 : max (0 : Int) (min 0 (vs.length : Int)) = 0 := by omega
      unfold slicePick sliceBounds
      simp [h2, h3]
    rw [e, slicePick_run _ _ _ (by simpa using h) (by omega)]
    simp
  · have e : slicePick vs.toArray none (some 6) none = slicePick vs.toArray (some ((0 : Nat) : Int)) none none := by
      have h1 : min (6 : Int) (vs.length : Int) = vs.length := by omega
      have h3 : max (0 : Int) (min 0 (vs.length : Int)) = 0 := by omega
      unfold slicePick sliceBounds
      simp [h1, h3]
    rw [e, slicePick_from _ _ (by omega), List.take_of_length_le (by omega)]
    simp
theorem okr_sl6 {V : SV} {sc sl ep thi j : Nat} {vs zs : List Value} (hsc : s₀.heap.get? sc = some (lsV vs ep)) (hA : sc ∉ A₀) (hz : vs.take 6 = zs) (hl : vs.length ≤ 1000) (hm : m + 1 ≤ 1000) (ok : ∀ al tk, OkR V (model prog w) s₀ A₀ R (next al tk)) :
    OkR V (model prog w) s₀ A₀ R (.call (.bi 128106587276438692081757506308484131437 [.ref sc, .ref sl]) none m i [some (sl, slT 6 thi)] (oNew [j] zs) next) := by
  refine okr_newJ (di := 0) (fun c Γ p h1 h2 s hn hc => ?_) hm ok
  have hc' := rc_bi h1 "list.__getitem__" (by decide +kernel)
  subst hc' hz
  have h := hn.keep sc _ hsc hA
  refine returns_at h2 fun A => code_meets slot_list_getitem (lsV_type h) entry_list_getitem (args_list_getitem _ _) (meets_lsl .none (.int 6 thi) .none (by simp) (by rw [sizeLine_eq]; simp; omega) prog w A (fun r₁ s₁ => r₁ = .ok (.ret (.ref s.heap.objs.size)) ∧ s₁ = { s with heap := s.heap.push (lsV (vs.take 6) 0) }) s ⟨lsV_isList h, ⟨_, hc.1, rfl, rfl⟩, rfl, ?_⟩)
  rw [pick_six]; rfl
theorem okr_ladd {V : SV} {a b ea eb j k di : Nat} {xs ys zs : List Value} (hz : xs ++ ys = zs) (hl : Nat.ble (xs.length + ys.length) 1000 = true) (hm : m + 1 ≤ 1000) (ok : ∀ al tk, OkR V (model prog w) s₀ A₀ R (next al tk)) :
    OkR V (model prog w) s₀ A₀ R (.call (.bi 29827096650756823847613524589 [.ref a, .ref b]) none m i [some (a, lsV xs ea), some (b, lsV ys eb)] (oNewJ [j, k] zs di) next) := by
  refine okr_newJ (fun c Γ p h1 h2 s hn hc => ?_) hm ok
  have hc' := rc_bi h1 "list.__add__" (by decide +kernel)
  subst hc' hz
  have hl' := Nat.le_of_ble_eq_true hl
  refine returns_at h2 fun A => code_meets F.slot_list_add (lsV_type hc.1) F.entry_list_add (F.args_list_add_2 _ _) (AutoSeq1.list___add___list_list_0 a xs.toArray ea b ys.toArray eb (by rw [sizeLine_eq]; simp; omega) prog w A (fun r₁ s₁ => r₁ = .ok (.ret (.ref s.heap.objs.size)) ∧ s₁ = { s with heap := s.heap.push (lsV (xs ++ ys) 0) }) s ⟨hc.1, hc.2.1, rfl, ?_⟩)
  simp [lsV]
/-- `l[k]`, an int there -/
theorem okr_lgi {V : SV} {a ep t : Nat} {vs : List Value} {k : Int} (v : Int) (ha : s₀.heap.get? a = some (lsV vs ep)) (hA : a ∉ A₀) (h0 : 0 ≤ k) (hk : k < 1000) (hx : ∃ u, vs[k.toNat]? = some (.int v u)) (hm : Nat.ble m 1000 = true) (ok : ∀ al tk, OkR V (model prog w) s₀ A₀ R (next al tk)) :
    OkR V (model prog w) s₀ A₀ R (.call (.bi 128106587276438692081757506308484131437 [.ref a, .int k t]) none m i [] (orcV fun t => .int v t) next) := by
  obtain ⟨u, hx⟩ := hx
  refine okr_V (fun c Γ p h1 h2 s hn => ⟨u, s, ?_, Step.refl s⟩) hm ok
  have hc' := rc_bi h1 "list.__getitem__" (by decide +kernel)
  subst hc'
  have h := hn.keep a _ ha hA
  exact returns_at h2 fun A => code_meets slot_list_getitem (lsV_type h) entry_list_getitem (args_list_getitem _ _) (meets_lgi h0 (by omega) (by simpa using hx) prog w A (fun r₁ s₁ => r₁ = .ok (.ret (.int v u)) ∧ s₁ = s) s ⟨lsV_isList h, rfl, rfl⟩)
/-- `l[k]`, an object there: it is shown -/
noncomputable def oShow (j b : Nat) (o : Obj) : Orc := { r := (fun _ _ _ _ _ => .ok (.ret (.ref b))), shows := (fun _ _ _ _ _ => [(j, (b, o))]) }
theorem okr_show {V : SV} {a ep t j b : Nat} {vs : List Value} {k : Int} {o : Obj} (ha : s₀.heap.get? a = some (lsV vs ep)) (hA : a ∉ A₀) (h0 : 0 ≤ k) (hk : k < 1000) (hx : vs[k.toNat]? = some (.ref b)) (hb : s₀.heap.get? b = some o) (hB : b ∉ A₀) (hj : Nat.ble 1000 j = true) (hm : m ≤ 1000) (ok : ∀ al tk, OkR V (model prog w) s₀ A₀ R (next al tk)) :
    OkR V (model prog w) s₀ A₀ R (.call (.bi 128106587276438692081757506308484131437 [.ref a, .int k t]) none m i [] (oShow j b o) next) := by
  refine okr_gen fun c Γ p h1 h2 _ s hn hc => ?_
  have hc' := rc_bi h1 "list.__getitem__" (by decide +kernel)
  subst hc'
  have h := hn.keep a _ ha hA
  refine ⟨s, [], [], rfl, rfl, _, _, rfl, rfl, ?_, rfl, trivial, Step.refl s, ⟨rfl, by simpa [oShow] using hm, fun k ob e => (by cases e), fun k hk => (by cases hk), fun k k' hk => (by cases hk)⟩, fun k' a' ob e => ?_, ok _ _⟩
  · exact returns_at h2 fun A => code_meets slot_list_getitem (lsV_type h) entry_list_getitem (args_list_getitem _ _) (meets_lgi h0 (by omega) (by simpa using hx) prog w A (fun r₁ s₁ => r₁ = .ok (.ret (.ref b)) ∧ s₁ = s) s ⟨lsV_isList h, rfl, rfl⟩)
  · have e' : (k', (a', ob)) ∈ [(j, (b, o))] := e
    rw [List.mem_singleton] at e'
    cases e'
    exact ⟨Nat.le_of_ble_eq_true hj, hn.keep b _ hb hB, hB, Heap.lt_size hb⟩
theorem okr_mulI {V : SV} {x y : Int} {t u : Nat} (hx : Builtin.Int.intBits x ≤ 64) (hm : Nat.ble m 1000 = true) (ok : ∀ al tk, OkR V (model prog w) s₀ A₀ R (next al tk)) :
    OkR V (model prog w) s₀ A₀ R (.call (.bi 116512245094328231196454762 [.int x t, .int y u]) none m i [] (orcI fun x y => x * y) next) :=
  okr_int2 (g := fun x y => x * y) F.slot_int_mul (tI x t) F.entry_int_mul (F.args_int_mul_2 _ _) (AutoIntG1.int___mul___int_int_0 x t y u (.of_left hx)) (by decide +kernel) hm ok
/-- two lists of texts, the same ones: `!=` -/
theorem okr_lne {V : SV} {a b ea eb j k : Nat} {xs ys : List (Str × Tok)} (h : xs.map (·.1) = ys.map (·.1)) (hm : Nat.ble m 1000 = true) (ok : ∀ al tk, OkR V (model prog w) s₀ A₀ R (next al tk)) :
    OkR V (model prog w) s₀ A₀ R (.call (.bi 116512115458775698011089517 [.ref a, .ref b]) none m i [some (a, lsV (strValues xs) ea), some (b, lsV (strValues ys) eb)] (orcU [j, k] (fun _ => .bool false) (fun _ => [])) next) := by
  refine okr_U (fun c Γ p h1 h2 s _ hc => ⟨0, s, ?_, rfl, trivial, Step.refl s⟩) hm ok
  have hc' := rc_bi h1 "list.__ne__" (by decide +kernel)
  subst hc'
  have hl : xs.length = ys.length := by have := congrArg List.length h; simpa using this
  have hall : (!(List.range (strValues xs).toArray.size).all fun _ => true) = false := by simp
  refine returns_at h2 fun A => code_meets F.slot_list_ne (lsV_type hc.1) F.entry_list_ne (F.args_list_ne_2 _ _) (SeqAt.list_neAt a b (strValues xs).toArray (strValues ys).toArray ea eb none none #[] #[] (by simp [strValues, hl]) (fun _ => true) prog w A (fun r₁ s₁ => r₁ = .ok (.ret (.bool false)) ∧ s₁ = s) s ⟨hc.1, hc.2.1, fun q h1 h2 => ?_, ?_⟩)
  · have e1 : (strValues xs).toArray[q] = .str (xs[q]'(by simpa [strValues] using h1)).1 (xs[q]'(by simpa [strValues] using h1)).2 := by simp [strValues]
    have e2 : (strValues ys).toArray[q] = .str (ys[q]'(by simpa [strValues] using h2)).1 (ys[q]'(by simpa [strValues] using h2)).2 := by simp [strValues]
    have e3 : (xs[q]'(by simpa [strValues] using h1)).1 = (ys[q]'(by simpa [strValues] using h2)).1 := by
      have := congrArg (fun l => l[q]?) h
      simp only [List.getElem?_map] at this
      rw [List.getElem?_eq_getElem (by simpa [strValues] using h1), List.getElem?_eq_getElem (by simpa [strValues] using h2)] at this
      simpa using this
    rw [e1, e2, e3]
    have := SeqAt.EqAt.str_str (A := A.in1) (s := s) (ys[q]'(by simpa [strValues] using h2)).1 (xs[q]'(by simpa [strValues] using h1)).2 (ys[q]'(by simpa [strValues] using h2)).1 (ys[q]'(by simpa [strValues] using h2)).2
    simpa using this
  · rw [hall]; exact ⟨rfl, rfl⟩
/-- `''.join` of texts -/
theorem okr_join {V : SV} {a ea t j : Nat} {xs : List (Str × Tok)} (v : Str) (hv : MkS (joinMade ⟨#[]⟩ xs) v) (hl : Builtin.Str.tooLong ((xs.map (·.1)).toArray.foldl (· + ·.length + (⟨#[]⟩ : Str).length) 0) = false) (hm : Nat.ble m 1000 = true) (ok : ∀ al tk, OkR V (model prog w) s₀ A₀ R (next al tk)) :
    OkR V (model prog w) s₀ A₀ R (.call (.bi 8028352891401237876 [.str ⟨#[]⟩ t, .ref a]) none m i [some (a, lsV (strValues xs) ea)] (orcU [j] (fun t => .str v t) (fun _ => [])) next) := by
  refine okr_U (fun c Γ p h1 h2 s _ hc => ?_) hm ok
  obtain ⟨t', s', hp, st⟩ := hv.post s
  refine ⟨t', s', ?_, rfl, trivial, st⟩
  have hc' := rc_bi h1 "str.join" (by decide +kernel)
  subst hc'
  exact returns_at h2 fun A => code_meets F.slot_str_join (tS _ t s) F.entry_str_join (F.args_str_join_2 _ _) (meets_str_join_list ⟨#[]⟩ t a xs hl prog w A (fun r₁ s₁ => r₁ = .ok (.ret (.str v t')) ∧ s₁ = s') s ⟨lsV_isList hc.1, post_mono (fun v s₁ h => ⟨by rw [h.1], h.2⟩) hp⟩)
end
end Mine
namespace Mine
open PySem PySem.W PySem.W.X
open Sem (wp finPost)
/-- the pairs of a row -/
noncomputable def kvO (L : List Ent) : List (Int × Value) := L.map fun x => (x.k, .int x.v x.u)
theorem dictOf_dO {w : World} {h : Heap} {a : Addr} {L : List Ent} {ep : Nat} (ha : h.get? a = some (dO L ep)) (hn : (L.map (·.k)).Nodup) : h.DictOf (intKind prog w) a (kvO L) := by
  refine ⟨_, ents L, ep, ha, ⟨rfl, rfl, rfl⟩, rfl, ?_, ?_, ?_⟩
  · intro e he
    obtain ⟨k, t, h1, h2⟩ := ents_keys L e he
    exact ⟨k, by rw [h1]; simp [intKind, Value.isInt], h2⟩
  · have : (ents L).toList = L.map Ent.e := by simp [ents]
    rw [this]
    clear ha hn this
    induction L with
    | nil => exact .nil
    | cons x L ih => exact .cons (by simp [intKind, Value.isInt, Ent.e]) rfl ih
  · have : (kvO L).map (fun x => x.fst) = L.map (·.k) := by simp [kvO]
    rw [this]; exact hn
theorem valueAt_kvO (L : List Ent) (k : Int) : valueAt (kvO L) k = (L.find? fun x => x.k == k).map fun x => .int x.v x.u := by
  unfold valueAt kvO
  induction L with
  | nil => rfl
  | cons x L ih =>
    by_cases h : x.k = k
    · simp [h]
    · rw [List.find?_cons_of_neg (by simpa using h), List.map_cons, List.find?_cons_of_neg (by simpa using h)]
      exact ih
theorem dig_mem {L : List Ent} (hn : (L.map (·.k)).Nodup) {e : Ent} (he : e ∈ L) : dig L e.k = some e.v := by
  induction L with
  | nil => cases he
  | cons x L ih =>
    rw [List.map_cons] at hn
    obtain ⟨h1, h2⟩ := List.nodup_cons.mp hn
    rcases List.mem_cons.mp he with rfl | h
    · exact dig_cons_eq rfl
    · rw [dig_cons_ne fun q => h1 (by rw [q]; exact List.mem_map_of_mem h)]
      exact ih h2 h
theorem dig_some {L : List Ent} {k v : Int} (h : dig L k = some v) : ∃ e ∈ L, e.k = k ∧ e.v = v := by
  unfold dig at h
  cases hf : L.find? (fun x => x.k == k) with
  | none => rw [hf] at h; cases h
  | some e =>
    rw [hf] at h
    exact ⟨e, List.mem_of_find?_eq_some hf, by simpa using List.find?_some hf, by simpa using h⟩
theorem nodup_len : ∀ (l l' : List Int), l.Nodup → (∀ x ∈ l, x ∈ l') → l.length ≤ l'.length
  | [], _, _, _ => Nat.zero_le _
  | x :: l, l', hn, h => by
    obtain ⟨h1, h2⟩ := List.nodup_cons.mp hn
    have hx := h x (.head _)
    have ih := nodup_len l (l'.erase x) h2 fun y hy => (List.mem_erase_of_ne (fun (e : y = x) => h1 (by rw [← e]; exact hy))).mpr (h y (.tail _ hy))
    rw [List.length_erase_of_mem hx] at ih
    have : 0 < l'.length := List.length_pos_of_mem hx
    simp only [List.length_cons]
    omega
theorem len_of_dig {L L' : List Ent} (hn : (L.map (·.k)).Nodup) (hn' : (L'.map (·.k)).Nodup) (hd : ∀ k, dig L k = dig L' k) : L.length = L'.length := by
  have sub : ∀ {L L' : List Ent}, (L.map (·.k)).Nodup → (L'.map (·.k)).Nodup → (∀ k, dig L k = dig L' k) → L.length ≤ L'.length := fun {L L'} hn hn' hd => by
    have h : (L.map (·.k)) ⊆ (L'.map (·.k)) := fun k hk => by
      obtain ⟨e, he, rfl⟩ := List.mem_map.mp hk
      have := dig_mem hn he
      rw [hd] at this
      obtain ⟨e', he', h1, _⟩ := dig_some this
      rw [← h1]; exact List.mem_map_of_mem he'
    have := nodup_len _ _ hn fun x hx => h hx
    simpa using this
  exact Nat.le_antisymm (sub hn hn' hd) (sub hn' hn fun k => (hd k).symm)
section
variable {w : World} {A : Around} {E : Value → Shared → Prop} {s : Shared}
theorem wp_same {id : String} {a b : Addr} {L L' : List Ent} {ea eb : Nat} {Q : Bool → Shared → Prop} (ha : s.heap.get? a = some (dO L ea)) (hb : s.heap.get? b = some (dO L' eb)) (h1 : 140 ≤ a) (h2 : 140 ≤ b) (hn : (L.map (·.k)).Nodup) (hn' : (L'.map (·.k)).Nodup) (hd : ∀ k, dig L k = dig L' k)
    (h : Q true s) : wpAny (model prog w) A (Builtin.Dict.samePairs id a b) Q E s := by
  have hits : ∀ M : List Ent, (∀ e ∈ M, e ∈ L) → KeqHits A s (kvO L') (kvO M) true := fun M => by
    induction M with
    | nil => exact fun _ => .nil
    | cons e M ih =>
      intro hM
      have he := dig_mem hn (hM e (.head _))
      rw [hd] at he
      unfold dig at he
      cases hf : L'.find? (fun x => x.k == e.k) with
      | none => rw [hf] at he; cases he
      | some f =>
        rw [hf] at he
        have hv : f.v = e.v := by simpa using he
        refine KeqHits.hit (y := .int f.v f.u) (e := true) (b := true) (by rw [valueAt_kvO, hf]; rfl) ?_ (ih fun e he => hM e (.tail _ he))
        have := SeqAt.EqAt.int_int (A := A) (s := s) e.v e.u f.v f.u
        rw [hv] at this ⊢
        simpa using this
  have sm : ∀ x : Nat, 140 ≤ x → (x == sysModules) = false := fun x hx => by
    have : x ≠ 1 := by omega
    delta sysModules; simpa using this
  refine keq_samePairs (ka := kvO L) (kb := kvO L') (r := true) (sm a h1) (sm b h2) (dictOf_dO ha hn) (dictOf_dO hb hn') (fun _ => hits L fun _ h => h) ?_
  have : ((kvO L).length == (kvO L').length && true) = true := by simp [kvO, len_of_dig hn hn' hd]
  rw [this]; exact h
end
section
variable {V : SV} {w : World} {s₀ : Shared} {A₀ : List Addr} {R : Result → Shared → Prop} {m i : Nat} {next : (Nat → Nat) → (Nat → Nat) → RLog}
theorem okr_deq {a b ea eb j k : Nat} {L L' : List Ent} (h1 : 140 ≤ a) (h2 : 140 ≤ b) (hn : (L.map (·.k)).Nodup) (hn' : (L'.map (·.k)).Nodup) (hd : ∀ k, dig L k = dig L' k) (hm : Nat.ble m 1000 = true) (ok : ∀ al tk, OkR V (model prog w) s₀ A₀ R (next al tk)) :
    OkR V (model prog w) s₀ A₀ R (.call (.bi 116512336171186236183308901 [.ref a, .ref b]) none m i [some (a, dO L ea), some (b, dO L' eb)] (orcU [j, k] (fun _ => .bool true) (fun _ => [])) next) := by
  refine okr_U (fun c Γ p e1 e2 s _ hc => ⟨0, s, ?_, rfl, trivial, Step.refl s⟩) hm ok
  have hc' := rc_bi e1 "dict.__eq__" (by decide +kernel)
  subst hc'
  refine returns_at e2 fun A => code_meets F.slot_dict_eq (dO_type hc.1) F.entry_dict_eq (F.args_dict_eq_2 _ _) ?_
  show wpAny _ _ (Builtin.Dict.dictSlotArgs "__eq__" ⟨[.ref a, .ref b], []⟩ >>= _) _ _ s
  refine wpAny_bind ?_
  unfold Builtin.Dict.dictSlotArgs
  refine wpAny_bind (wpAny_notOrdered_dict (dO_type hc.1) ?_)
  show wpAny _ _ (pure (Value.ref a, Value.ref b)) _ _ s
  refine wpAny_pure ?_
  refine wpAny_bind (wpAny_isInstance (T := "dict") (dO_type hc.2.1) PySem.F.sub_dict_dict ?_)
  simp only [Bool.not_true, Bool.false_eq_true, if_false]
  refine wpAny_bind (wpAny_pure (wpAny_bind (wpAny_pure ?_)))
  exact wpAny_bind (wp_same hc.1 hc.2.1 h1 h2 hn hn' hd (wpAny_pure ⟨rfl, rfl⟩))
theorem okr_dne {a b ea eb j k : Nat} {L L' : List Ent} (h1 : 140 ≤ a) (h2 : 140 ≤ b) (hn : (L.map (·.k)).Nodup) (hn' : (L'.map (·.k)).Nodup) (hd : ∀ k, dig L k = dig L' k) (hm : Nat.ble m 1000 = true) (ok : ∀ al tk, OkR V (model prog w) s₀ A₀ R (next al tk)) :
    OkR V (model prog w) s₀ A₀ R (.call (.bi 116512115458775698010040933 [.ref a, .ref b]) none m i [some (a, dO L ea), some (b, dO L' eb)] (orcU [j, k] (fun _ => .bool false) (fun _ => [])) next) := by
  refine okr_U (fun c Γ p e1 e2 s _ hc => ⟨0, s, ?_, rfl, trivial, Step.refl s⟩) hm ok
  have hc' := rc_bi e1 "dict.__ne__" (by decide +kernel)
  subst hc'
  refine returns_at e2 fun A => code_meets F.slot_dict_ne (dO_type hc.1) F.entry_dict_ne (F.args_dict_ne_2 _ _) ?_
  show wpAny _ _ (Builtin.Dict.dictSlotArgs "__ne__" ⟨[.ref a, .ref b], []⟩ >>= _) _ _ s
  refine wpAny_bind ?_
  unfold Builtin.Dict.dictSlotArgs
  refine wpAny_bind (wpAny_notOrdered_dict (dO_type hc.1) ?_)
  show wpAny _ _ (pure (Value.ref a, Value.ref b)) _ _ s
  refine wpAny_pure ?_
  refine wpAny_bind (wpAny_isInstance (T := "dict") (dO_type hc.2.1) PySem.F.sub_dict_dict ?_)
  simp only [Bool.not_true, Bool.false_eq_true, if_false]
  refine wpAny_bind (wpAny_pure (wpAny_bind (wpAny_pure ?_)))
  exact wpAny_bind (wp_same hc.1 hc.2.1 h1 h2 hn hn' hd (wpAny_pure ⟨rfl, rfl⟩))
end
end Mine
namespace Mine
open PySem PySem.W PySem.W.X
/-! the two sums' comprehensions: how they stand -/
noncomputable def cmE (k : Nat) : PySem.Expr := match nthS (fnBody (st 17)) k with
  | .Assign _ v _ => match v with
    | .Call _ as _ _ => (as.head?).getD default
    | _ => default
  | _ => default
noncomputable def lcScope (e : PySem.Expr) : Scope := match e with
  | .ListComp _ _ sc _ => { sc with names := sc.names.map fun x => match x.2 with
    | .free => (x.1, .cell)
    | _ => x }
  | _ => default
noncomputable def cmEnv (k d cW cT fr : Nat) : Env := { scope := lcScope (cmE k), locals := d, globals := 3, cells := [("weights", cW), ("turned", cT)], qual := Str.ofString "law.<locals>.", func := none, code := .ref 138, frame := some fr, builtins := 0 }
noncomputable def cmC (k it acc d cW cT fr : Nat) : Code := .compStart (cmE k) 0 (.ref it) (.ref acc) (cmEnv k d cW cT fr)
noncomputable def cmL (k it acc d cW cT fr : Nat) : Code := .compLoop (cmE k) 0 (.ref it) (.ref acc) (cmEnv k d cW cT fr)
noncomputable def nth6 (l : List Nat) (c : Int) : Nat := l.getD c.toNat 0
noncomputable def twoI (a : Int) (t : Nat) (b : Int) (u : Nat) : Obj := { cls := .type "tuple", data := .seq #[.int a t, .int b u] 0 }
noncomputable def wt (p : Int) : Int := if p = 0 then 1 else if p = 1 then -2 else 4
noncomputable def celO (a : Nat) : Obj := { cls := .type "cell", data := .cell (some (.ref a)) }
noncomputable def itO (l : Nat) : Obj := { cls := .type "list_iterator", data := .fields #[.ref l, .int 0 0] }
noncomputable def itE : Obj := { cls := .type "list_iterator", data := .fields #[.none, .int 6 0] }
noncomputable def dcO (n : Nat) : Obj := { cls := .type "dict", data := .dict #[] n }
end Mine
namespace Mine
open PySem PySem.W PySem.W.X
open Sem (wp finPost)
/-! the two sums' comprehensions (the kernel runs them) -/
noncomputable def dcE (w : World) (ka kb : Nat) (c : Int) (t : Nat) (p : Int) (u : Nat) : Obj := { cls := .type "dict", data := .dict #[de w.params "corner" ka (.int c t), de w.params "place" kb (.int p u)] 2 }
noncomputable def iRefs (a0 a1 a2 a3 a4 a5 : Nat) : List Value := [.ref a0, .ref a1, .ref a2, .ref a3, .ref a4, .ref a5]
noncomputable def weV (w0 w1 w2 : Nat) : List Value := [.int 1 w0, .int (-2) w1, .int 4 w2]
/-- an updating contract that also tells that what comes is new -/
theorem okr_UF {V : SV} {M : Model} {s₀ : Shared} {A₀ : List Addr} {R : Result → Shared → Prop} {rc : RC} {x : Option (Ctx × Pos)} {m i : Nat} {cells : List (Option Cell)} {o : Orc} {next : (Nat → Nat) → (Nat → Nat) → RLog} (hd : o.dm = 0) (hn : ∀ c m i al tk, o.news c m i al tk = []) (hs : ∀ c m i al tk, o.shows c m i al tk = []) (hm : Nat.ble m 1000 = true)
    (H : ∀ c Γ p, rcOf c = rc → Γ.code = c → (∀ y, x = some y → y = (Γ, p)) → ∀ s, Now V s₀ A₀ s → CellsIn cells s → ∃ s' ts, ts.length = o.di ∧
      ∀ al' tk', al' = alOf m [] s'.heap.objs.size → tk' = alOf i ts s'.toks →
      Returns M Γ p s (o.r c m i al' tk') s' ∧ selOk o.sel (o.upd c m i al' tk') = true ∧ Upd s' cells (o.upd c m i al' tk') ∧ Step s s' (touched cells (o.upd c m i al' tk')) ∧
      ((∀ k, s₀.heap.objs.size ≤ al' (m + k)) → OkR V M s₀ A₀ R (next al' tk'))) : OkR V M s₀ A₀ R (.call rc x m i cells o next) := by
  refine okr_gen fun c Γ p h1 h2 h3 s hnow hc => ?_
  obtain ⟨s', ts, hts, h⟩ := H c Γ p h1 h2 h3 s hnow hc
  obtain ⟨a1, a2, a3, a4, a5⟩ := h _ _ rfl rfl
  refine ⟨s', [], ts, by rw [hd]; rfl, hts, _, _, rfl, rfl, a1, a2, a3, a4, ⟨by rw [hn, hd]; rfl, by rw [hd]; exact Nat.le_of_ble_eq_true hm, fun k ob e => (by rw [hn] at e; cases e), fun k hk => (by rw [hd] at hk; cases hk), fun k k' hk => (by rw [hd] at hk; cases hk)⟩, fun k a ob e => (by rw [hs] at e; cases e), a5 fun k => ?_⟩
  have := alOf_end m [] s'.heap.objs.size k
  simp only [List.length_nil, Nat.add_zero] at this
  rw [this]
  have := hnow.grow
  have := a4.grow
  omega
noncomputable def oCmp (w : World) (js : List Nat) (vs : (Nat → Nat) → List Value) (c : Int) (p : Int) : Orc := { ctx := true, sel := js, r := (fun _ _ _ _ _ => .ok .next), upd := (fun _ _ i _ tk => [some itE, some (lsV (vs fun k => tk (i + k)) 6), some (dcE w (tk (i + 6)) (tk (i + 7)) c (tk (i + 8)) p (tk (i + 9)))]), di := 10 }
theorem not3 {s : Shared} {x a b c : Nat} {o oa ob oc : Obj} (hx : s.heap.get? x = some o) (ha : s.heap.get? a = some oa) (hb : s.heap.get? b = some ob) (hc : s.heap.get? c = some oc) (h1 : o ≠ oa) (h2 : o ≠ ob) (h3 : o ≠ oc) : x ∉ [a, b, c] := fun q => by
  simp only [List.mem_cons, List.not_mem_nil, or_false] at q
  rcases q with rfl | rfl | rfl
  · exact h1 (Option.some.inj (hx.symm.trans ha))
  · exact h2 (Option.some.inj (hx.symm.trans hb))
  · exact h3 (Option.some.inj (hx.symm.trans hc))
noncomputable def trCmA : List Nat := [256, 0, 256, 256, 256, 1256, 256, 256, 256, 1257, 1257, 1257, 0, 1257, 259, 259, 0, 259, 259, 259, 1257, 259, 259, 259, 0, 259, 259, 259, 1257, 259, 259, 259, 0, 259, 259, 259, 1257, 259, 259, 261, 258, 258, 258, 258, 1266, 258, 1263, 1263, 1263, 1, 1276, 1276, 1276, 0, 1276, 1276, 0, 1265, 258, 1264, 1264, 1264, 1, 1, 0, 257, 257, 257, 257, 256, 0, 256, 256, 256, 1256, 256, 256, 256, 1258, 1258, 1258, 0, 1258, 262, 262, 0, 262, 262, 262, 1258, 262, 262, 262, 0, 262, 262, 262, 1258, 262, 262, 262, 0, 262, 262, 262, 1258, 262, 262, 264, 258, 258, 258, 258, 1266, 258, 1263, 1263, 1263, 1, 1277, 1277, 1277, 0, 1277, 1277, 0, 1265, 258, 1264, 1264, 1264, 1, 1, 0, 257, 257, 257, 257, 256, 0, 256, 256, 256, 1256, 256, 256, 256, 1259, 1259, 1259, 0, 1259, 265, 265, 0, 265, 265, 265, 1259, 265, 265, 265, 0, 265, 265, 265, 1259, 265, 265, 265, 0, 265, 265, 265, 1259, 265, 265, 267, 258, 258, 258, 258, 1266, 258, 1263, 1263, 1263, 1, 1278, 1278, 1278, 0, 1278, 1278, 0, 1265, 258, 1264, 1264, 1264, 1, 1, 0, 257, 257, 257, 257, 256, 0, 256, 256, 256, 1256, 256, 256, 256, 1260, 1260, 1260, 0, 1260, 268, 268, 0, 268, 268, 268, 1260, 268, 268, 268, 0, 268, 268, 268, 1260, 268, 268, 268, 0, 268, 268, 268, 1260, 268, 268, 270, 258, 258, 258, 258, 1266, 258, 1263, 1263, 1263, 1, 1279, 1279, 1279, 0, 1279, 1279, 0, 1265, 258, 1264, 1264, 1264, 1, 1, 0, 257, 257, 257, 257, 256, 0, 256, 256, 256, 1256, 256, 256, 256, 1261, 1261, 1261, 0, 1261, 271, 271, 0, 271, 271, 271, 1261, 271, 271, 271, 0, 271, 271, 271, 1261, 271, 271, 271, 0, 271, 271, 271, 1261, 271, 271, 273, 258, 258, 258, 258, 1266, 258, 1263, 1263, 1263, 1, 1280, 1280, 1280, 0, 1280, 1280, 0, 1265, 258, 1264, 1264, 1264, 1, 1, 0, 257, 257, 257, 257, 256, 0, 256, 256, 256, 1256, 256, 256, 256, 1262, 1262, 1262, 0, 1262, 274, 274, 0, 274, 274, 274, 1262, 274, 274, 274, 0, 274, 274, 274, 1262, 274, 274, 274, 0, 274, 274, 274, 1262, 274, 274, 276, 258, 258, 258, 258, 1266, 258, 1263, 1263, 1263, 1, 1281, 1281, 1281, 0, 1281, 1281, 0, 1265, 258, 1264, 1264, 1264, 1, 1, 0, 257, 257, 257, 257, 256, 0, 256, 256, 256, 1256, 256, 256, 278]
noncomputable def eCmA (w : World) (Y : CxL) (p : Pos) (it acc dc ch tu we cW cT fr a0 a1 a2 a3 a4 a5 t0 t1 t2 t3 t4 t5 u0 u1 u2 u3 u4 u5 T0 T1 T2 T3 T4 T5 w0 w1 w2 : Nat) (Ts us vs : List Nat) (c0 c1 c2 c3 c4 c5 p0 p1 p2 p3 p4 p5 : Int) (al0 tk0 : Nat → Nat) : RLog := .call (.bi 128106587276438692081757506308484131437 [(.ref tu), (.int c0 t0)]) none 6 2 [] (oShow 1020 (nth6 Ts c0) (twoI (cvA c0) (nth6 us c0) (cvB c0) (nth6 vs c0))) fun al1 tk1 => .call (.bi 128106587276438692081757506308484131437 [(.ref we), (.int p0 u0)]) none 6 3 [] (orcV fun t => .int (wt p0) t) fun al2 tk2 => .call (.bi 116512245094328231196454762 [(.int (cvA c0) (nth6 us c0)), (.int (wt p0) (tk2 3))]) none 6 4 [] (orcI fun x y => x * y) fun al3 tk3 => .call (.bi 128106587276438692081757506308484131437 [(.ref tu), (.int c1 t1)]) none 9 7 [] (oShow 1021 (nth6 Ts c1) (twoI (cvA c1) (nth6 us c1) (cvB c1) (nth6 vs c1))) fun al4 tk4 => .call (.bi 128106587276438692081757506308484131437 [(.ref we), (.int p1 u1)]) none 9 8 [] (orcV fun t => .int (wt p1) t) fun al5 tk5 => .call (.bi 116512245094328231196454762 [(.int (cvA c1) (nth6 us c1)), (.int (wt p1) (tk5 8))]) none 9 9 [] (orcI fun x y => x * y) fun al6 tk6 => .call (.bi 128106587276438692081757506308484131437 [(.ref tu), (.int c2 t2)]) none 12 12 [] (oShow 1022 (nth6 Ts c2) (twoI (cvA c2) (nth6 us c2) (cvB c2) (nth6 vs c2))) fun al7 tk7 => .call (.bi 128106587276438692081757506308484131437 [(.ref we), (.int p2 u2)]) none 12 13 [] (orcV fun t => .int (wt p2) t) fun al8 tk8 => .call (.bi 116512245094328231196454762 [(.int (cvA c2) (nth6 us c2)), (.int (wt p2) (tk8 13))]) none 12 14 [] (orcI fun x y => x * y) fun al9 tk9 => .call (.bi 128106587276438692081757506308484131437 [(.ref tu), (.int c3 t3)]) none 15 17 [] (oShow 1023 (nth6 Ts c3) (twoI (cvA c3) (nth6 us c3) (cvB c3) (nth6 vs c3))) fun al10 tk10 => .call (.bi 128106587276438692081757506308484131437 [(.ref we), (.int p3 u3)]) none 15 18 [] (orcV fun t => .int (wt p3) t) fun al11 tk11 => .call (.bi 116512245094328231196454762 [(.int (cvA c3) (nth6 us c3)), (.int (wt p3) (tk11 18))]) none 15 19 [] (orcI fun x y => x * y) fun al12 tk12 => .call (.bi 128106587276438692081757506308484131437 [(.ref tu), (.int c4 t4)]) none 18 22 [] (oShow 1024 (nth6 Ts c4) (twoI (cvA c4) (nth6 us c4) (cvB c4) (nth6 vs c4))) fun al13 tk13 => .call (.bi 128106587276438692081757506308484131437 [(.ref we), (.int p4 u4)]) none 18 23 [] (orcV fun t => .int (wt p4) t) fun al14 tk14 => .call (.bi 116512245094328231196454762 [(.int (cvA c4) (nth6 us c4)), (.int (wt p4) (tk14 23))]) none 18 24 [] (orcI fun x y => x * y) fun al15 tk15 => .call (.bi 128106587276438692081757506308484131437 [(.ref tu), (.int c5 t5)]) none 21 27 [] (oShow 1025 (nth6 Ts c5) (twoI (cvA c5) (nth6 us c5) (cvB c5) (nth6 vs c5))) fun al16 tk16 => .call (.bi 128106587276438692081757506308484131437 [(.ref we), (.int p5 u5)]) none 21 28 [] (orcV fun t => .int (wt p5) t) fun al17 tk17 => .call (.bi 116512245094328231196454762 [(.int (cvA c5) (nth6 us c5)), (.int (wt p5) (tk17 28))]) none 21 29 [] (orcI fun x y => x * y) fun al18 tk18 => .ret (.ok .next) [some (it, itE), some (acc, lsV [(.int ((cvA c0) * (wt p0)) (tk3 4)), (.int ((cvA c1) * (wt p1)) (tk6 9)), (.int ((cvA c2) * (wt p2)) (tk9 14)), (.int ((cvA c3) * (wt p3)) (tk12 19)), (.int ((cvA c4) * (wt p4)) (tk15 24)), (.int ((cvA c5) * (wt p5)) (tk18 29))] 6), some (dc, dcE w (tk0 0) (tk0 1) c5 t5 p5 u5)]
theorem run_cmA (w : World) (Y : CxL) (p : Pos) (it acc dc ch tu we cW cT fr a0 a1 a2 a3 a4 a5 t0 t1 t2 t3 t4 t5 u0 u1 u2 u3 u4 u5 T0 T1 T2 T3 T4 T5 w0 w1 w2 : Nat) (Ts us vs : List Nat) (c0 c1 c2 c3 c4 c5 p0 p1 p2 p3 p4 p5 : Int) (al0 tk0 : Nat → Nat) : mixA [0, 1, 2] (seg (VV w) 689 trCmA [oShow 1020 (nth6 Ts c0) (twoI (cvA c0) (nth6 us c0) (cvB c0) (nth6 vs c0)), orcV fun t => .int (wt p0) t, orcI fun x y => x * y, oShow 1021 (nth6 Ts c1) (twoI (cvA c1) (nth6 us c1) (cvB c1) (nth6 vs c1)), orcV fun t => .int (wt p1) t, orcI fun x y => x * y, oShow 1022 (nth6 Ts c2) (twoI (cvA c2) (nth6 us c2) (cvB c2) (nth6 vs c2)), orcV fun t => .int (wt p2) t, orcI fun x y => x * y, oShow 1023 (nth6 Ts c3) (twoI (cvA c3) (nth6 us c3) (cvB c3) (nth6 vs c3)), orcV fun t => .int (wt p3) t, orcI fun x y => x * y, oShow 1024 (nth6 Ts c4) (twoI (cvA c4) (nth6 us c4) (cvB c4) (nth6 vs c4)), orcV fun t => .int (wt p4) t, orcI fun x y => x * y, oShow 1025 (nth6 Ts c5) (twoI (cvA c5) (nth6 us c5) (cvB c5) (nth6 vs c5)), orcV fun t => .int (wt p5) t, orcI fun x y => x * y] (Y.ctx (cmL 6 it acc dc cW cT fr)) p [] (denF (Y.ctx (cmL 6 it acc dc cW cT fr)).code) (mkT [(it, itO ch), (acc, lsV [] 0), (dc, dcO 0)] [(ch, lsV (iRefs a0 a1 a2 a3 a4 a5) 6), (a0, prO c0 t0 p0 u0), (a1, prO c1 t1 p1 u1), (a2, prO c2 t2 p2 u2), (a3, prO c3 t3 p3 u3), (a4, prO c4 t4 p4 u4), (a5, prO c5 t5 p5 u5), (tu, lsV (iRefs T0 T1 T2 T3 T4 T5) 0), (we, lsV (weV w0 w1 w2) 0), (cW, celO we), (cT, celO tu)]) 3 0 al0 tk0) = mixB (seg (VV w) 689 trCmA [oShow 1020 (nth6 Ts c0) (twoI (cvA c0) (nth6 us c0) (cvB c0) (nth6 vs c0)), orcV fun t => .int (wt p0) t, orcI fun x y => x * y, oShow 1021 (nth6 Ts c1) (twoI (cvA c1) (nth6 us c1) (cvB c1) (nth6 vs c1)), orcV fun t => .int (wt p1) t, orcI fun x y => x * y, oShow 1022 (nth6 Ts c2) (twoI (cvA c2) (nth6 us c2) (cvB c2) (nth6 vs c2)), orcV fun t => .int (wt p2) t, orcI fun x y => x * y, oShow 1023 (nth6 Ts c3) (twoI (cvA c3) (nth6 us c3) (cvB c3) (nth6 vs c3)), orcV fun t => .int (wt p3) t, orcI fun x y => x * y, oShow 1024 (nth6 Ts c4) (twoI (cvA c4) (nth6 us c4) (cvB c4) (nth6 vs c4)), orcV fun t => .int (wt p4) t, orcI fun x y => x * y, oShow 1025 (nth6 Ts c5) (twoI (cvA c5) (nth6 us c5) (cvB c5) (nth6 vs c5)), orcV fun t => .int (wt p5) t, orcI fun x y => x * y] (Y.ctx (cmL 6 it acc dc cW cT fr)) p [] (denF (Y.ctx (cmL 6 it acc dc cW cT fr)).code) (mkT [(it, itO ch), (acc, lsV [] 0), (dc, dcO 0)] [(ch, lsV (iRefs a0 a1 a2 a3 a4 a5) 6), (a0, prO c0 t0 p0 u0), (a1, prO c1 t1 p1 u1), (a2, prO c2 t2 p2 u2), (a3, prO c3 t3 p3 u3), (a4, prO c4 t4 p4 u4), (a5, prO c5 t5 p5 u5), (tu, lsV (iRefs T0 T1 T2 T3 T4 T5) 0), (we, lsV (weV w0 w1 w2) 0), (cW, celO we), (cT, celO tu)]) 3 0 al0 tk0) (eCmA w Y p it acc dc ch tu we cW cT fr a0 a1 a2 a3 a4 a5 t0 t1 t2 t3 t4 t5 u0 u1 u2 u3 u4 u5 T0 T1 T2 T3 T4 T5 w0 w1 w2 Ts us vs c0 c1 c2 c3 c4 c5 p0 p1 p2 p3 p4 p5 al0 tk0) := by kernel_rfl
noncomputable def trCmB : List Nat := [256, 0, 256, 256, 256, 1256, 256, 256, 256, 1257, 1257, 1257, 0, 1257, 259, 259, 0, 259, 259, 259, 1257, 259, 259, 259, 0, 259, 259, 259, 1257, 259, 259, 259, 0, 259, 259, 259, 1257, 259, 259, 261, 258, 258, 258, 258, 1266, 258, 1263, 1263, 1263, 1, 1276, 1276, 1276, 0, 1276, 1276, 0, 1265, 258, 1264, 1264, 1264, 1, 1, 0, 257, 257, 257, 257, 256, 0, 256, 256, 256, 1256, 256, 256, 256, 1258, 1258, 1258, 0, 1258, 262, 262, 0, 262, 262, 262, 1258, 262, 262, 262, 0, 262, 262, 262, 1258, 262, 262, 262, 0, 262, 262, 262, 1258, 262, 262, 264, 258, 258, 258, 258, 1266, 258, 1263, 1263, 1263, 1, 1277, 1277, 1277, 0, 1277, 1277, 0, 1265, 258, 1264, 1264, 1264, 1, 1, 0, 257, 257, 257, 257, 256, 0, 256, 256, 256, 1256, 256, 256, 256, 1259, 1259, 1259, 0, 1259, 265, 265, 0, 265, 265, 265, 1259, 265, 265, 265, 0, 265, 265, 265, 1259, 265, 265, 265, 0, 265, 265, 265, 1259, 265, 265, 267, 258, 258, 258, 258, 1266, 258, 1263, 1263, 1263, 1, 1278, 1278, 1278, 0, 1278, 1278, 0, 1265, 258, 1264, 1264, 1264, 1, 1, 0, 257, 257, 257, 257, 256, 0, 256, 256, 256, 1256, 256, 256, 256, 1260, 1260, 1260, 0, 1260, 268, 268, 0, 268, 268, 268, 1260, 268, 268, 268, 0, 268, 268, 268, 1260, 268, 268, 268, 0, 268, 268, 268, 1260, 268, 268, 270, 258, 258, 258, 258, 1266, 258, 1263, 1263, 1263, 1, 1279, 1279, 1279, 0, 1279, 1279, 0, 1265, 258, 1264, 1264, 1264, 1, 1, 0, 257, 257, 257, 257, 256, 0, 256, 256, 256, 1256, 256, 256, 256, 1261, 1261, 1261, 0, 1261, 271, 271, 0, 271, 271, 271, 1261, 271, 271, 271, 0, 271, 271, 271, 1261, 271, 271, 271, 0, 271, 271, 271, 1261, 271, 271, 273, 258, 258, 258, 258, 1266, 258, 1263, 1263, 1263, 1, 1280, 1280, 1280, 0, 1280, 1280, 0, 1265, 258, 1264, 1264, 1264, 1, 1, 0, 257, 257, 257, 257, 256, 0, 256, 256, 256, 1256, 256, 256, 256, 1262, 1262, 1262, 0, 1262, 274, 274, 0, 274, 274, 274, 1262, 274, 274, 274, 0, 274, 274, 274, 1262, 274, 274, 274, 0, 274, 274, 274, 1262, 274, 274, 276, 258, 258, 258, 258, 1266, 258, 1263, 1263, 1263, 1, 1281, 1281, 1281, 0, 1281, 1281, 0, 1265, 258, 1264, 1264, 1264, 1, 1, 0, 257, 257, 257, 257, 256, 0, 256, 256, 256, 1256, 256, 256, 278]
noncomputable def eCmB (w : World) (Y : CxL) (p : Pos) (it acc dc ch tu we cW cT fr a0 a1 a2 a3 a4 a5 t0 t1 t2 t3 t4 t5 u0 u1 u2 u3 u4 u5 T0 T1 T2 T3 T4 T5 w0 w1 w2 : Nat) (Ts us vs : List Nat) (c0 c1 c2 c3 c4 c5 p0 p1 p2 p3 p4 p5 : Int) (al0 tk0 : Nat → Nat) : RLog := .call (.bi 128106587276438692081757506308484131437 [(.ref tu), (.int c0 t0)]) none 6 2 [] (oShow 1020 (nth6 Ts c0) (twoI (cvA c0) (nth6 us c0) (cvB c0) (nth6 vs c0))) fun al1 tk1 => .call (.bi 128106587276438692081757506308484131437 [(.ref we), (.int p0 u0)]) none 6 3 [] (orcV fun t => .int (wt p0) t) fun al2 tk2 => .call (.bi 116512245094328231196454762 [(.int (cvB c0) (nth6 vs c0)), (.int (wt p0) (tk2 3))]) none 6 4 [] (orcI fun x y => x * y) fun al3 tk3 => .call (.bi 128106587276438692081757506308484131437 [(.ref tu), (.int c1 t1)]) none 9 7 [] (oShow 1021 (nth6 Ts c1) (twoI (cvA c1) (nth6 us c1) (cvB c1) (nth6 vs c1))) fun al4 tk4 => .call (.bi 128106587276438692081757506308484131437 [(.ref we), (.int p1 u1)]) none 9 8 [] (orcV fun t => .int (wt p1) t) fun al5 tk5 => .call (.bi 116512245094328231196454762 [(.int (cvB c1) (nth6 vs c1)), (.int (wt p1) (tk5 8))]) none 9 9 [] (orcI fun x y => x * y) fun al6 tk6 => .call (.bi 128106587276438692081757506308484131437 [(.ref tu), (.int c2 t2)]) none 12 12 [] (oShow 1022 (nth6 Ts c2) (twoI (cvA c2) (nth6 us c2) (cvB c2) (nth6 vs c2))) fun al7 tk7 => .call (.bi 128106587276438692081757506308484131437 [(.ref we), (.int p2 u2)]) none 12 13 [] (orcV fun t => .int (wt p2) t) fun al8 tk8 => .call (.bi 116512245094328231196454762 [(.int (cvB c2) (nth6 vs c2)), (.int (wt p2) (tk8 13))]) none 12 14 [] (orcI fun x y => x * y) fun al9 tk9 => .call (.bi 128106587276438692081757506308484131437 [(.ref tu), (.int c3 t3)]) none 15 17 [] (oShow 1023 (nth6 Ts c3) (twoI (cvA c3) (nth6 us c3) (cvB c3) (nth6 vs c3))) fun al10 tk10 => .call (.bi 128106587276438692081757506308484131437 [(.ref we), (.int p3 u3)]) none 15 18 [] (orcV fun t => .int (wt p3) t) fun al11 tk11 => .call (.bi 116512245094328231196454762 [(.int (cvB c3) (nth6 vs c3)), (.int (wt p3) (tk11 18))]) none 15 19 [] (orcI fun x y => x * y) fun al12 tk12 => .call (.bi 128106587276438692081757506308484131437 [(.ref tu), (.int c4 t4)]) none 18 22 [] (oShow 1024 (nth6 Ts c4) (twoI (cvA c4) (nth6 us c4) (cvB c4) (nth6 vs c4))) fun al13 tk13 => .call (.bi 128106587276438692081757506308484131437 [(.ref we), (.int p4 u4)]) none 18 23 [] (orcV fun t => .int (wt p4) t) fun al14 tk14 => .call (.bi 116512245094328231196454762 [(.int (cvB c4) (nth6 vs c4)), (.int (wt p4) (tk14 23))]) none 18 24 [] (orcI fun x y => x * y) fun al15 tk15 => .call (.bi 128106587276438692081757506308484131437 [(.ref tu), (.int c5 t5)]) none 21 27 [] (oShow 1025 (nth6 Ts c5) (twoI (cvA c5) (nth6 us c5) (cvB c5) (nth6 vs c5))) fun al16 tk16 => .call (.bi 128106587276438692081757506308484131437 [(.ref we), (.int p5 u5)]) none 21 28 [] (orcV fun t => .int (wt p5) t) fun al17 tk17 => .call (.bi 116512245094328231196454762 [(.int (cvB c5) (nth6 vs c5)), (.int (wt p5) (tk17 28))]) none 21 29 [] (orcI fun x y => x * y) fun al18 tk18 => .ret (.ok .next) [some (it, itE), some (acc, lsV [(.int ((cvB c0) * (wt p0)) (tk3 4)), (.int ((cvB c1) * (wt p1)) (tk6 9)), (.int ((cvB c2) * (wt p2)) (tk9 14)), (.int ((cvB c3) * (wt p3)) (tk12 19)), (.int ((cvB c4) * (wt p4)) (tk15 24)), (.int ((cvB c5) * (wt p5)) (tk18 29))] 6), some (dc, dcE w (tk0 0) (tk0 1) c5 t5 p5 u5)]
theorem run_cmB (w : World) (Y : CxL) (p : Pos) (it acc dc ch tu we cW cT fr a0 a1 a2 a3 a4 a5 t0 t1 t2 t3 t4 t5 u0 u1 u2 u3 u4 u5 T0 T1 T2 T3 T4 T5 w0 w1 w2 : Nat) (Ts us vs : List Nat) (c0 c1 c2 c3 c4 c5 p0 p1 p2 p3 p4 p5 : Int) (al0 tk0 : Nat → Nat) : mixA [0, 1, 2] (seg (VV w) 689 trCmB [oShow 1020 (nth6 Ts c0) (twoI (cvA c0) (nth6 us c0) (cvB c0) (nth6 vs c0)), orcV fun t => .int (wt p0) t, orcI fun x y => x * y, oShow 1021 (nth6 Ts c1) (twoI (cvA c1) (nth6 us c1) (cvB c1) (nth6 vs c1)), orcV fun t => .int (wt p1) t, orcI fun x y => x * y, oShow 1022 (nth6 Ts c2) (twoI (cvA c2) (nth6 us c2) (cvB c2) (nth6 vs c2)), orcV fun t => .int (wt p2) t, orcI fun x y => x * y, oShow 1023 (nth6 Ts c3) (twoI (cvA c3) (nth6 us c3) (cvB c3) (nth6 vs c3)), orcV fun t => .int (wt p3) t, orcI fun x y => x * y, oShow 1024 (nth6 Ts c4) (twoI (cvA c4) (nth6 us c4) (cvB c4) (nth6 vs c4)), orcV fun t => .int (wt p4) t, orcI fun x y => x * y, oShow 1025 (nth6 Ts c5) (twoI (cvA c5) (nth6 us c5) (cvB c5) (nth6 vs c5)), orcV fun t => .int (wt p5) t, orcI fun x y => x * y] (Y.ctx (cmL 7 it acc dc cW cT fr)) p [] (denF (Y.ctx (cmL 7 it acc dc cW cT fr)).code) (mkT [(it, itO ch), (acc, lsV [] 0), (dc, dcO 0)] [(ch, lsV (iRefs a0 a1 a2 a3 a4 a5) 6), (a0, prO c0 t0 p0 u0), (a1, prO c1 t1 p1 u1), (a2, prO c2 t2 p2 u2), (a3, prO c3 t3 p3 u3), (a4, prO c4 t4 p4 u4), (a5, prO c5 t5 p5 u5), (tu, lsV (iRefs T0 T1 T2 T3 T4 T5) 0), (we, lsV (weV w0 w1 w2) 0), (cW, celO we), (cT, celO tu)]) 3 0 al0 tk0) = mixB (seg (VV w) 689 trCmB [oShow 1020 (nth6 Ts c0) (twoI (cvA c0) (nth6 us c0) (cvB c0) (nth6 vs c0)), orcV fun t => .int (wt p0) t, orcI fun x y => x * y, oShow 1021 (nth6 Ts c1) (twoI (cvA c1) (nth6 us c1) (cvB c1) (nth6 vs c1)), orcV fun t => .int (wt p1) t, orcI fun x y => x * y, oShow 1022 (nth6 Ts c2) (twoI (cvA c2) (nth6 us c2) (cvB c2) (nth6 vs c2)), orcV fun t => .int (wt p2) t, orcI fun x y => x * y, oShow 1023 (nth6 Ts c3) (twoI (cvA c3) (nth6 us c3) (cvB c3) (nth6 vs c3)), orcV fun t => .int (wt p3) t, orcI fun x y => x * y, oShow 1024 (nth6 Ts c4) (twoI (cvA c4) (nth6 us c4) (cvB c4) (nth6 vs c4)), orcV fun t => .int (wt p4) t, orcI fun x y => x * y, oShow 1025 (nth6 Ts c5) (twoI (cvA c5) (nth6 us c5) (cvB c5) (nth6 vs c5)), orcV fun t => .int (wt p5) t, orcI fun x y => x * y] (Y.ctx (cmL 7 it acc dc cW cT fr)) p [] (denF (Y.ctx (cmL 7 it acc dc cW cT fr)).code) (mkT [(it, itO ch), (acc, lsV [] 0), (dc, dcO 0)] [(ch, lsV (iRefs a0 a1 a2 a3 a4 a5) 6), (a0, prO c0 t0 p0 u0), (a1, prO c1 t1 p1 u1), (a2, prO c2 t2 p2 u2), (a3, prO c3 t3 p3 u3), (a4, prO c4 t4 p4 u4), (a5, prO c5 t5 p5 u5), (tu, lsV (iRefs T0 T1 T2 T3 T4 T5) 0), (we, lsV (weV w0 w1 w2) 0), (cW, celO we), (cT, celO tu)]) 3 0 al0 tk0) (eCmB w Y p it acc dc ch tu we cW cT fr a0 a1 a2 a3 a4 a5 t0 t1 t2 t3 t4 t5 u0 u1 u2 u3 u4 u5 T0 T1 T2 T3 T4 T5 w0 w1 w2 Ts us vs c0 c1 c2 c3 c4 c5 p0 p1 p2 p3 p4 p5 al0 tk0) := by kernel_rfl
theorem nth6_get {T0 T1 T2 T3 T4 T5 : Nat} {c : Int} (h0 : 0 ≤ c) (h5 : c ≤ 5) : (iRefs T0 T1 T2 T3 T4 T5)[c.toNat]? = some (.ref (nth6 [T0, T1, T2, T3, T4, T5] c)) := by
  have : c = 0 ∨ c = 1 ∨ c = 2 ∨ c = 3 ∨ c = 4 ∨ c = 5 := by omega
  rcases this with rfl | rfl | rfl | rfl | rfl | rfl <;> rfl
theorem we_get {w0 w1 w2 : Nat} {p : Int} (h0 : 0 ≤ p) (h2 : p ≤ 2) : ∃ u, (weV w0 w1 w2)[p.toNat]? = some (.int (wt p) u) := by
  have : p = 0 ∨ p = 1 ∨ p = 2 := by omega
  rcases this with rfl | rfl | rfl <;> exact ⟨_, rfl⟩
theorem cvA_bits {c : Int} (h0 : 0 ≤ c) (h5 : c ≤ 5) : Builtin.Int.intBits (cvA c) ≤ 64 := by
  have : c = 0 ∨ c = 1 ∨ c = 2 ∨ c = 3 ∨ c = 4 ∨ c = 5 := by omega
  rcases this with rfl | rfl | rfl | rfl | rfl | rfl <;> decide
theorem cvB_bits {c : Int} (h0 : 0 ≤ c) (h5 : c ≤ 5) : Builtin.Int.intBits (cvB c) ≤ 64 := by
  have : c = 0 ∨ c = 1 ∨ c = 2 ∨ c = 3 ∨ c = 4 ∨ c = 5 := by omega
  rcases this with rfl | rfl | rfl | rfl | rfl | rfl <;> decide
/-- the six tuples of `turned` -/
structure TurnIn (s : Shared) (T0 T1 T2 T3 T4 T5 : Nat) (us vs : List Nat) : Prop where
  h0 : s.heap.get? T0 = some (twoI 1 (nth6 us 0) 0 (nth6 vs 0))
  h1 : s.heap.get? T1 = some (twoI 1 (nth6 us 1) 1 (nth6 vs 1))
  h2 : s.heap.get? T2 = some (twoI 0 (nth6 us 2) 1 (nth6 vs 2))
  h3 : s.heap.get? T3 = some (twoI (-1) (nth6 us 3) 0 (nth6 vs 3))
  h4 : s.heap.get? T4 = some (twoI (-1) (nth6 us 4) (-1) (nth6 vs 4))
  h5 : s.heap.get? T5 = some (twoI 0 (nth6 us 5) (-1) (nth6 vs 5))
theorem TurnIn.get {s : Shared} {T0 T1 T2 T3 T4 T5 : Nat} {us vs : List Nat} (H : TurnIn s T0 T1 T2 T3 T4 T5 us vs) {c : Int} (h0 : 0 ≤ c) (h5 : c ≤ 5) : s.heap.get? (nth6 [T0, T1, T2, T3, T4, T5] c) = some (twoI (cvA c) (nth6 us c) (cvB c) (nth6 vs c)) := by
  have : c = 0 ∨ c = 1 ∨ c = 2 ∨ c = 3 ∨ c = 4 ∨ c = 5 := by omega
  rcases this with rfl | rfl | rfl | rfl | rfl | rfl
  · exact H.h0
  · exact H.h1
  · exact H.h2
  · exact H.h3
  · exact H.h4
  · exact H.h5
theorem okr_cmpA {w : World} {s₀ : Shared} {A₀ : List Addr} {R : Result → Shared → Prop} {m i : Nat} {next : (Nat → Nat) → (Nat → Nat) → RLog} {Y : CxL} {pq : Pos} {it acc dc ch tu we cW cT fr a0 a1 a2 a3 a4 a5 t0 t1 t2 t3 t4 t5 u0 u1 u2 u3 u4 u5 T0 T1 T2 T3 T4 T5 ua0 ua1 ua2 ua3 ua4 ua5 ub0 ub1 ub2 ub3 ub4 ub5 w0 w1 w2 : Nat} {c0 c1 c2 c3 c4 c5 p0 p1 p2 p3 p4 p5 : Int} {js : List Nat} (big : 140 ≤ it ∧ 140 ≤ acc ∧ 140 ≤ dc)
    (h0 : 0 ≤ c0 ∧ c0 ≤ 5 ∧ 0 ≤ p0 ∧ p0 ≤ 2) (h1 : 0 ≤ c1 ∧ c1 ≤ 5 ∧ 0 ≤ p1 ∧ p1 ≤ 2) (h2 : 0 ≤ c2 ∧ c2 ≤ 5 ∧ 0 ≤ p2 ∧ p2 ≤ 2) (h3 : 0 ≤ c3 ∧ c3 ≤ 5 ∧ 0 ≤ p3 ∧ p3 ≤ 2) (h4 : 0 ≤ c4 ∧ c4 ≤ 5 ∧ 0 ≤ p4 ∧ p4 ≤ 2) (h5 : 0 ≤ c5 ∧ c5 ≤ 5 ∧ 0 ≤ p5 ∧ p5 ≤ 2) (hj : selOk js [some default, some default, some default] = true) (hm : Nat.ble m 1000 = true)
    (ok : ∀ al tk, (∀ k, s₀.heap.objs.size ≤ al (m + k)) → OkR (VV w) (model prog w) s₀ A₀ R (next al tk)) :
    OkR (VV w) (model prog w) s₀ A₀ R (.call (.other (cmC 6 it acc dc cW cT fr)) (some (Y.ctx (cmC 6 it acc dc cW cT fr), pq)) m i [some (it, itO ch), some (acc, lsV [] 0), some (dc, dcO 0), some (ch, lsV (iRefs a0 a1 a2 a3 a4 a5) 6), some (a0, prO c0 t0 p0 u0), some (a1, prO c1 t1 p1 u1), some (a2, prO c2 t2 p2 u2), some (a3, prO c3 t3 p3 u3), some (a4, prO c4 t4 p4 u4), some (a5, prO c5 t5 p5 u5), some (tu, lsV (iRefs T0 T1 T2 T3 T4 T5) 0), some (T0, twoI 1 (ua0) 0 (ub0)), some (T1, twoI 1 (ua1) 1 (ub1)), some (T2, twoI 0 (ua2) 1 (ub2)), some (T3, twoI (-1) (ua3) 0 (ub3)), some (T4, twoI (-1) (ua4) (-1) (ub4)), some (T5, twoI 0 (ua5) (-1) (ub5)), some (we, lsV (weV w0 w1 w2) 0), some (cW, celO we), some (cT, celO tu)] (oCmp w js (fun z => [.int (cvA c0 * wt p0) (z 0), .int (cvA c1 * wt p1) (z 1), .int (cvA c2 * wt p2) (z 2), .int (cvA c3 * wt p3) (z 3), .int (cvA c4 * wt p4) (z 4), .int (cvA c5 * wt p5) (z 5)]) c5 p5) next) := by
  refine okr_UF rfl (fun _ _ _ _ _ => rfl) (fun _ _ _ _ _ => rfl) hm fun c Γ p e1 e2 e3 s hnow hc => ?_
  obtain ⟨rfl, rfl⟩ := Prod.mk.inj (e3 _ rfl)
  have e2' : cmC 6 it acc dc cW cT fr = c := e2
  subst e2'
  refine viaG fun G hG => ?_
  obtain ⟨x1, x2, x3, hch, b0, b1, b2, b3, b4, b5, htu, y0, y1, y2, y3, y4, y5, hwe, hcW, hcT, _⟩ := hc
  dsimp only at x1 x2 x3 hch b0 b1 b2 b3 b4 b5 htu y0 y1 y2 y3 y4 y5 hwe hcW hcT
  have n3 : ∀ {x : Nat} {o : Obj}, s.heap.get? x = some o → o ≠ itO ch → o ≠ lsV [] 0 → o ≠ dcO 0 → x ∉ [it, acc, dc] := fun hx q1 q2 q3 => not3 hx x1 x2 x3 q1 q2 q3
  have npr : ∀ {x : Nat} {c p : Int} {t u : Nat}, s.heap.get? x = some (prO c t p u) → x ∉ [it, acc, dc] := fun hx => n3 hx (by simp [prO, itO]) (by simp [prO, lsV]) (by simp [prO, dcO])
  have ntw : ∀ {x : Nat} {c p : Int} {t u : Nat}, s.heap.get? x = some (twoI c t p u) → x ∉ [it, acc, dc] := fun hx => n3 hx (by simp [twoI, itO]) (by simp [twoI, lsV]) (by simp [twoI, dcO])
  have nch : ch ∉ [it, acc, dc] := n3 hch (by simp [lsV, itO]) (by simp [lsV]) (by simp [lsV, dcO])
  have ntu : tu ∉ [it, acc, dc] := n3 htu (by simp [lsV, itO]) (by simp [lsV, iRefs]) (by simp [lsV, dcO])
  have nwe : we ∉ [it, acc, dc] := n3 hwe (by simp [lsV, itO]) (by simp [lsV, weV]) (by simp [lsV, dcO])
  have ncW : cW ∉ [it, acc, dc] := n3 hcW (by simp [celO, itO]) (by simp [lsV, celO]) (by simp [celO, dcO])
  have ncT : cT ∉ [it, acc, dc] := n3 hcT (by simp [celO, itO]) (by simp [lsV, celO]) (by simp [celO, dcO])
  have nd : [it, acc, dc].Nodup := by
    have q1 : it ≠ acc := fun q => by rw [q, x2] at x1; simp [lsV, itO] at x1
    have q2 : it ≠ dc := fun q => by rw [q, x3] at x1; simp [dcO, itO] at x1
    have q3 : acc ≠ dc := fun q => by rw [q, x3] at x2; simp [dcO, lsV] at x2
    simp [q1, q2, q3]
  have TI : TurnIn s T0 T1 T2 T3 T4 T5 [ua0, ua1, ua2, ua3, ua4, ua5] [ub0, ub1, ub2, ub3, ub4, ub5] := ⟨y0, y1, y2, y3, y4, y5⟩
  have nTI : ∀ {c : Int}, 0 ≤ c → c ≤ 5 → nth6 [T0, T1, T2, T3, T4, T5] c ∉ [it, acc, dc] := fun a b => ntw (TI.get a b)
  have D0 := rep_start (V := VV w) (s := s) (cs := [(it, itO ch), (acc, lsV [] 0), (dc, dcO 0)]) (rs := [(ch, lsV (iRefs a0 a1 a2 a3 a4 a5) 6), (a0, prO c0 t0 p0 u0), (a1, prO c1 t1 p1 u1), (a2, prO c2 t2 p2 u2), (a3, prO c3 t3 p3 u3), (a4, prO c4 t4 p4 u4), (a5, prO c5 t5 p5 u5), (tu, lsV (iRefs T0 T1 T2 T3 T4 T5) 0), (we, lsV (weV w0 w1 w2) 0), (cW, celO we), (cT, celO tu)]) hnow.top ((allC x1 (allC x2 (allC x3 allN)))) nd ((allC (top_off big.1) (allC (top_off big.2.1) (allC (top_off big.2.2) allN)))) ((allC ⟨hch, nch⟩ (allC ⟨b0, npr b0⟩ (allC ⟨b1, npr b1⟩ (allC ⟨b2, npr b2⟩ (allC ⟨b3, npr b3⟩ (allC ⟨b4, npr b4⟩ (allC ⟨b5, npr b5⟩ (allC ⟨htu, ntu⟩ (allC ⟨hwe, nwe⟩ (allC ⟨hcW, ncW⟩ (allC ⟨hcT, ncT⟩ allN)))))))))))) (by simp)
  have key := run_mix (fs := [0, 1, 2]) (R := fun r s' => r = .ok .next ∧ (∃ g0 g1 g2 g3 g4 g5 g6 g7, s'.heap.get? it = some itE ∧ s'.heap.get? acc = some (lsV [.int (cvA c0 * wt p0) g0, .int (cvA c1 * wt p1) g1, .int (cvA c2 * wt p2) g2, .int (cvA c3 * wt p3) g3, .int (cvA c4 * wt p4) g4, .int (cvA c5 * wt p5) g5] 6) ∧ s'.heap.get? dc = some (dcE w g6 g7 c5 t5 p5 u5)) ∧ Step s s' [it, acc, dc]) (isM w) (skip_ok _ w) (p := pq) D0 (run_cmA w Y pq it acc dc ch tu we cW cT fr a0 a1 a2 a3 a4 a5 t0 t1 t2 t3 t4 t5 u0 u1 u2 u3 u4 u5 T0 T1 T2 T3 T4 T5 w0 w1 w2 [T0, T1, T2, T3, T4, T5] [ua0, ua1, ua2, ua3, ua4, ua5] [ub0, ub1, ub2, ub3, ub4, ub5] c0 c1 c2 c3 c4 c5 p0 p1 p2 p3 p4 p5 _ _)
    (okr_show htu ntu (h0).1 (Int.lt_of_le_of_lt (h0).2.1 (by decide)) (nth6_get (h0).1 (h0).2.1) (TI.get (h0).1 (h0).2.1) (nTI (h0).1 (h0).2.1) rfl (by decide) fun al1 tk1 => okr_lgi _ hwe nwe (h0).2.2.1 (Int.lt_of_le_of_lt (h0).2.2.2 (by decide)) (we_get (h0).2.2.1 (h0).2.2.2) rfl fun al2 tk2 => okr_mulI (cvA_bits (h0).1 (h0).2.1) rfl fun al3 tk3 => okr_show htu ntu (h1).1 (Int.lt_of_le_of_lt (h1).2.1 (by decide)) (nth6_get (h1).1 (h1).2.1) (TI.get (h1).1 (h1).2.1) (nTI (h1).1 (h1).2.1) rfl (by decide) fun al4 tk4 => okr_lgi _ hwe nwe (h1).2.2.1 (Int.lt_of_le_of_lt (h1).2.2.2 (by decide)) (we_get (h1).2.2.1 (h1).2.2.2) rfl fun al5 tk5 => okr_mulI (cvA_bits (h1).1 (h1).2.1) rfl fun al6 tk6 => okr_show htu ntu (h2).1 (Int.lt_of_le_of_lt (h2).2.1 (by decide)) (nth6_get (h2).1 (h2).2.1) (TI.get (h2).1 (h2).2.1) (nTI (h2).1 (h2).2.1) rfl (by decide) fun al7 tk7 => okr_lgi _ hwe nwe (h2).2.2.1 (Int.lt_of_le_of_lt (h2).2.2.2 (by decide)) (we_get (h2).2.2.1 (h2).2.2.2) rfl fun al8 tk8 => okr_mulI (cvA_bits (h2).1 (h2).2.1) rfl fun al9 tk9 => okr_show htu ntu (h3).1 (Int.lt_of_le_of_lt (h3).2.1 (by decide)) (nth6_get (h3).1 (h3).2.1) (TI.get (h3).1 (h3).2.1) (nTI (h3).1 (h3).2.1) rfl (by decide) fun al10 tk10 => okr_lgi _ hwe nwe (h3).2.2.1 (Int.lt_of_le_of_lt (h3).2.2.2 (by decide)) (we_get (h3).2.2.1 (h3).2.2.2) rfl fun al11 tk11 => okr_mulI (cvA_bits (h3).1 (h3).2.1) rfl fun al12 tk12 => okr_show htu ntu (h4).1 (Int.lt_of_le_of_lt (h4).2.1 (by decide)) (nth6_get (h4).1 (h4).2.1) (TI.get (h4).1 (h4).2.1) (nTI (h4).1 (h4).2.1) rfl (by decide) fun al13 tk13 => okr_lgi _ hwe nwe (h4).2.2.1 (Int.lt_of_le_of_lt (h4).2.2.2 (by decide)) (we_get (h4).2.2.1 (h4).2.2.2) rfl fun al14 tk14 => okr_mulI (cvA_bits (h4).1 (h4).2.1) rfl fun al15 tk15 => okr_show htu ntu (h5).1 (Int.lt_of_le_of_lt (h5).2.1 (by decide)) (nth6_get (h5).1 (h5).2.1) (TI.get (h5).1 (h5).2.1) (nTI (h5).1 (h5).2.1) rfl (by decide) fun al16 tk16 => okr_lgi _ hwe nwe (h5).2.2.1 (Int.lt_of_le_of_lt (h5).2.2.2 (by decide)) (we_get (h5).2.2.1 (h5).2.2.2) rfl fun al17 tk17 => okr_mulI (cvA_bits (h5).1 (h5).2.1) rfl fun al18 tk18 => fun s' hn hc => ⟨rfl, ⟨_, _, _, _, _, _, _, _, hc.1, hc.2.1, hc.2.2.1⟩, hn.step⟩)
  obtain ⟨r', s', hr, rfl, ⟨g0, g1, g2, g3, g4, g5, g6, g7, z1, z2, z3⟩, st⟩ := skip_ok (VV w) w (cmC 6 it acc dc cW cT fr) (Y.ctx (cmC 6 it acc dc cW cT fr)) pq s it (itO ch) rfl rfl hnow.top x1 rfl _ key
  refine hG ⟨s', [g0, g1, g2, g3, g4, g5, g6, g7, t5, u5], rfl, fun al' tk' ea et => ?_⟩
  have tk : ∀ k, k < 10 → tk' (i + k) = [g0, g1, g2, g3, g4, g5, g6, g7, t5, u5].getD k 0 := fun k hk => by rw [et]; exact alOf_at i [g0, g1, g2, g3, g4, g5, g6, g7, t5, u5] _ k hk
  have hu : (oCmp w js (fun z => [.int (cvA c0 * wt p0) (z 0), .int (cvA c1 * wt p1) (z 1), .int (cvA c2 * wt p2) (z 2), .int (cvA c3 * wt p3) (z 3), .int (cvA c4 * wt p4) (z 4), .int (cvA c5 * wt p5) (z 5)]) c5 p5).upd (cmC 6 it acc dc cW cT fr) m i al' tk' = [some itE, some (lsV [.int (cvA c0 * wt p0) g0, .int (cvA c1 * wt p1) g1, .int (cvA c2 * wt p2) g2, .int (cvA c3 * wt p3) g3, .int (cvA c4 * wt p4) g4, .int (cvA c5 * wt p5) g5] 6), some (dcE w g6 g7 c5 t5 p5 u5)] := by
    simp only [oCmp]
    rw [tk 0 (by decide), tk 1 (by decide), tk 2 (by decide), tk 3 (by decide), tk 4 (by decide), tk 5 (by decide), tk 6 (by decide), tk 7 (by decide), tk 8 (by decide), tk 9 (by decide)]
    rfl
  refine ⟨hr, ?_, ?_, ?_, fun hf => ok _ _ hf⟩
  · rw [hu]
    match js, hj with
    | [], _ => rfl
    | [_], h => exact h
    | [_, _], h => exact h
    | _ :: _ :: _ :: _, h => exact h
  · rw [hu]; exact ⟨z1, z2, z3, trivial⟩
  · rw [hu]; exact st
theorem okr_cmpB {w : World} {s₀ : Shared} {A₀ : List Addr} {R : Result → Shared → Prop} {m i : Nat} {next : (Nat → Nat) → (Nat → Nat) → RLog} {Y : CxL} {pq : Pos} {it acc dc ch tu we cW cT fr a0 a1 a2 a3 a4 a5 t0 t1 t2 t3 t4 t5 u0 u1 u2 u3 u4 u5 T0 T1 T2 T3 T4 T5 ua0 ua1 ua2 ua3 ua4 ua5 ub0 ub1 ub2 ub3 ub4 ub5 w0 w1 w2 : Nat} {c0 c1 c2 c3 c4 c5 p0 p1 p2 p3 p4 p5 : Int} {js : List Nat} (big : 140 ≤ it ∧ 140 ≤ acc ∧ 140 ≤ dc)
    (h0 : 0 ≤ c0 ∧ c0 ≤ 5 ∧ 0 ≤ p0 ∧ p0 ≤ 2) (h1 : 0 ≤ c1 ∧ c1 ≤ 5 ∧ 0 ≤ p1 ∧ p1 ≤ 2) (h2 : 0 ≤ c2 ∧ c2 ≤ 5 ∧ 0 ≤ p2 ∧ p2 ≤ 2) (h3 : 0 ≤ c3 ∧ c3 ≤ 5 ∧ 0 ≤ p3 ∧ p3 ≤ 2) (h4 : 0 ≤ c4 ∧ c4 ≤ 5 ∧ 0 ≤ p4 ∧ p4 ≤ 2) (h5 : 0 ≤ c5 ∧ c5 ≤ 5 ∧ 0 ≤ p5 ∧ p5 ≤ 2) (hj : selOk js [some default, some default, some default] = true) (hm : Nat.ble m 1000 = true)
    (ok : ∀ al tk, (∀ k, s₀.heap.objs.size ≤ al (m + k)) → OkR (VV w) (model prog w) s₀ A₀ R (next al tk)) :
    OkR (VV w) (model prog w) s₀ A₀ R (.call (.other (cmC 7 it acc dc cW cT fr)) (some (Y.ctx (cmC 7 it acc dc cW cT fr), pq)) m i [some (it, itO ch), some (acc, lsV [] 0), some (dc, dcO 0), some (ch, lsV (iRefs a0 a1 a2 a3 a4 a5) 6), some (a0, prO c0 t0 p0 u0), some (a1, prO c1 t1 p1 u1), some (a2, prO c2 t2 p2 u2), some (a3, prO c3 t3 p3 u3), some (a4, prO c4 t4 p4 u4), some (a5, prO c5 t5 p5 u5), some (tu, lsV (iRefs T0 T1 T2 T3 T4 T5) 0), some (T0, twoI 1 (ua0) 0 (ub0)), some (T1, twoI 1 (ua1) 1 (ub1)), some (T2, twoI 0 (ua2) 1 (ub2)), some (T3, twoI (-1) (ua3) 0 (ub3)), some (T4, twoI (-1) (ua4) (-1) (ub4)), some (T5, twoI 0 (ua5) (-1) (ub5)), some (we, lsV (weV w0 w1 w2) 0), some (cW, celO we), some (cT, celO tu)] (oCmp w js (fun z => [.int (cvB c0 * wt p0) (z 0), .int (cvB c1 * wt p1) (z 1), .int (cvB c2 * wt p2) (z 2), .int (cvB c3 * wt p3) (z 3), .int (cvB c4 * wt p4) (z 4), .int (cvB c5 * wt p5) (z 5)]) c5 p5) next) := by
  refine okr_UF rfl (fun _ _ _ _ _ => rfl) (fun _ _ _ _ _ => rfl) hm fun c Γ p e1 e2 e3 s hnow hc => ?_
  obtain ⟨rfl, rfl⟩ := Prod.mk.inj (e3 _ rfl)
  have e2' : cmC 7 it acc dc cW cT fr = c := e2
  subst e2'
  refine viaG fun G hG => ?_
  obtain ⟨x1, x2, x3, hch, b0, b1, b2, b3, b4, b5, htu, y0, y1, y2, y3, y4, y5, hwe, hcW, hcT, _⟩ := hc
  dsimp only at x1 x2 x3 hch b0 b1 b2 b3 b4 b5 htu y0 y1 y2 y3 y4 y5 hwe hcW hcT
  have n3 : ∀ {x : Nat} {o : Obj}, s.heap.get? x = some o → o ≠ itO ch → o ≠ lsV [] 0 → o ≠ dcO 0 → x ∉ [it, acc, dc] := fun hx q1 q2 q3 => not3 hx x1 x2 x3 q1 q2 q3
  have npr : ∀ {x : Nat} {c p : Int} {t u : Nat}, s.heap.get? x = some (prO c t p u) → x ∉ [it, acc, dc] := fun hx => n3 hx (by simp [prO, itO]) (by simp [prO, lsV]) (by simp [prO, dcO])
  have ntw : ∀ {x : Nat} {c p : Int} {t u : Nat}, s.heap.get? x = some (twoI c t p u) → x ∉ [it, acc, dc] := fun hx => n3 hx (by simp [twoI, itO]) (by simp [twoI, lsV]) (by simp [twoI, dcO])
  have nch : ch ∉ [it, acc, dc] := n3 hch (by simp [lsV, itO]) (by simp [lsV]) (by simp [lsV, dcO])
  have ntu : tu ∉ [it, acc, dc] := n3 htu (by simp [lsV, itO]) (by simp [lsV, iRefs]) (by simp [lsV, dcO])
  have nwe : we ∉ [it, acc, dc] := n3 hwe (by simp [lsV, itO]) (by simp [lsV, weV]) (by simp [lsV, dcO])
  have ncW : cW ∉ [it, acc, dc] := n3 hcW (by simp [celO, itO]) (by simp [lsV, celO]) (by simp [celO, dcO])
  have ncT : cT ∉ [it, acc, dc] := n3 hcT (by simp [celO, itO]) (by simp [lsV, celO]) (by simp [celO, dcO])
  have nd : [it, acc, dc].Nodup := by
    have q1 : it ≠ acc := fun q => by rw [q, x2] at x1; simp [lsV, itO] at x1
    have q2 : it ≠ dc := fun q => by rw [q, x3] at x1; simp [dcO, itO] at x1
    have q3 : acc ≠ dc := fun q => by rw [q, x3] at x2; simp [dcO, lsV] at x2
    simp [q1, q2, q3]
  have TI : TurnIn s T0 T1 T2 T3 T4 T5 [ua0, ua1, ua2, ua3, ua4, ua5] [ub0, ub1, ub2, ub3, ub4, ub5] := ⟨y0, y1, y2, y3, y4, y5⟩
  have nTI : ∀ {c : Int}, 0 ≤ c → c ≤ 5 → nth6 [T0, T1, T2, T3, T4, T5] c ∉ [it, acc, dc] := fun a b => ntw (TI.get a b)
  have D0 := rep_start (V := VV w) (s := s) (cs := [(it, itO ch), (acc, lsV [] 0), (dc, dcO 0)]) (rs := [(ch, lsV (iRefs a0 a1 a2 a3 a4 a5) 6), (a0, prO c0 t0 p0 u0), (a1, prO c1 t1 p1 u1), (a2, prO c2 t2 p2 u2), (a3, prO c3 t3 p3 u3), (a4, prO c4 t4 p4 u4), (a5, prO c5 t5 p5 u5), (tu, lsV (iRefs T0 T1 T2 T3 T4 T5) 0), (we, lsV (weV w0 w1 w2) 0), (cW, celO we), (cT, celO tu)]) hnow.top ((allC x1 (allC x2 (allC x3 allN)))) nd ((allC (top_off big.1) (allC (top_off big.2.1) (allC (top_off big.2.2) allN)))) ((allC ⟨hch, nch⟩ (allC ⟨b0, npr b0⟩ (allC ⟨b1, npr b1⟩ (allC ⟨b2, npr b2⟩ (allC ⟨b3, npr b3⟩ (allC ⟨b4, npr b4⟩ (allC ⟨b5, npr b5⟩ (allC ⟨htu, ntu⟩ (allC ⟨hwe, nwe⟩ (allC ⟨hcW, ncW⟩ (allC ⟨hcT, ncT⟩ allN)))))))))))) (by simp)
  have key := run_mix (fs := [0, 1, 2]) (R := fun r s' => r = .ok .next ∧ (∃ g0 g1 g2 g3 g4 g5 g6 g7, s'.heap.get? it = some itE ∧ s'.heap.get? acc = some (lsV [.int (cvB c0 * wt p0) g0, .int (cvB c1 * wt p1) g1, .int (cvB c2 * wt p2) g2, .int (cvB c3 * wt p3) g3, .int (cvB c4 * wt p4) g4, .int (cvB c5 * wt p5) g5] 6) ∧ s'.heap.get? dc = some (dcE w g6 g7 c5 t5 p5 u5)) ∧ Step s s' [it, acc, dc]) (isM w) (skip_ok _ w) (p := pq) D0 (run_cmB w Y pq it acc dc ch tu we cW cT fr a0 a1 a2 a3 a4 a5 t0 t1 t2 t3 t4 t5 u0 u1 u2 u3 u4 u5 T0 T1 T2 T3 T4 T5 w0 w1 w2 [T0, T1, T2, T3, T4, T5] [ua0, ua1, ua2, ua3, ua4, ua5] [ub0, ub1, ub2, ub3, ub4, ub5] c0 c1 c2 c3 c4 c5 p0 p1 p2 p3 p4 p5 _ _)
    (okr_show htu ntu (h0).1 (Int.lt_of_le_of_lt (h0).2.1 (by decide)) (nth6_get (h0).1 (h0).2.1) (TI.get (h0).1 (h0).2.1) (nTI (h0).1 (h0).2.1) rfl (by decide) fun al1 tk1 => okr_lgi _ hwe nwe (h0).2.2.1 (Int.lt_of_le_of_lt (h0).2.2.2 (by decide)) (we_get (h0).2.2.1 (h0).2.2.2) rfl fun al2 tk2 => okr_mulI (cvB_bits (h0).1 (h0).2.1) rfl fun al3 tk3 => okr_show htu ntu (h1).1 (Int.lt_of_le_of_lt (h1).2.1 (by decide)) (nth6_get (h1).1 (h1).2.1) (TI.get (h1).1 (h1).2.1) (nTI (h1).1 (h1).2.1) rfl (by decide) fun al4 tk4 => okr_lgi _ hwe nwe (h1).2.2.1 (Int.lt_of_le_of_lt (h1).2.2.2 (by decide)) (we_get (h1).2.2.1 (h1).2.2.2) rfl fun al5 tk5 => okr_mulI (cvB_bits (h1).1 (h1).2.1) rfl fun al6 tk6 => okr_show htu ntu (h2).1 (Int.lt_of_le_of_lt (h2).2.1 (by decide)) (nth6_get (h2).1 (h2).2.1) (TI.get (h2).1 (h2).2.1) (nTI (h2).1 (h2).2.1) rfl (by decide) fun al7 tk7 => okr_lgi _ hwe nwe (h2).2.2.1 (Int.lt_of_le_of_lt (h2).2.2.2 (by decide)) (we_get (h2).2.2.1 (h2).2.2.2) rfl fun al8 tk8 => okr_mulI (cvB_bits (h2).1 (h2).2.1) rfl fun al9 tk9 => okr_show htu ntu (h3).1 (Int.lt_of_le_of_lt (h3).2.1 (by decide)) (nth6_get (h3).1 (h3).2.1) (TI.get (h3).1 (h3).2.1) (nTI (h3).1 (h3).2.1) rfl (by decide) fun al10 tk10 => okr_lgi _ hwe nwe (h3).2.2.1 (Int.lt_of_le_of_lt (h3).2.2.2 (by decide)) (we_get (h3).2.2.1 (h3).2.2.2) rfl fun al11 tk11 => okr_mulI (cvB_bits (h3).1 (h3).2.1) rfl fun al12 tk12 => okr_show htu ntu (h4).1 (Int.lt_of_le_of_lt (h4).2.1 (by decide)) (nth6_get (h4).1 (h4).2.1) (TI.get (h4).1 (h4).2.1) (nTI (h4).1 (h4).2.1) rfl (by decide) fun al13 tk13 => okr_lgi _ hwe nwe (h4).2.2.1 (Int.lt_of_le_of_lt (h4).2.2.2 (by decide)) (we_get (h4).2.2.1 (h4).2.2.2) rfl fun al14 tk14 => okr_mulI (cvB_bits (h4).1 (h4).2.1) rfl fun al15 tk15 => okr_show htu ntu (h5).1 (Int.lt_of_le_of_lt (h5).2.1 (by decide)) (nth6_get (h5).1 (h5).2.1) (TI.get (h5).1 (h5).2.1) (nTI (h5).1 (h5).2.1) rfl (by decide) fun al16 tk16 => okr_lgi _ hwe nwe (h5).2.2.1 (Int.lt_of_le_of_lt (h5).2.2.2 (by decide)) (we_get (h5).2.2.1 (h5).2.2.2) rfl fun al17 tk17 => okr_mulI (cvB_bits (h5).1 (h5).2.1) rfl fun al18 tk18 => fun s' hn hc => ⟨rfl, ⟨_, _, _, _, _, _, _, _, hc.1, hc.2.1, hc.2.2.1⟩, hn.step⟩)
  obtain ⟨r', s', hr, rfl, ⟨g0, g1, g2, g3, g4, g5, g6, g7, z1, z2, z3⟩, st⟩ := skip_ok (VV w) w (cmC 7 it acc dc cW cT fr) (Y.ctx (cmC 7 it acc dc cW cT fr)) pq s it (itO ch) rfl rfl hnow.top x1 rfl _ key
  refine hG ⟨s', [g0, g1, g2, g3, g4, g5, g6, g7, t5, u5], rfl, fun al' tk' ea et => ?_⟩
  have tk : ∀ k, k < 10 → tk' (i + k) = [g0, g1, g2, g3, g4, g5, g6, g7, t5, u5].getD k 0 := fun k hk => by rw [et]; exact alOf_at i [g0, g1, g2, g3, g4, g5, g6, g7, t5, u5] _ k hk
  have hu : (oCmp w js (fun z => [.int (cvB c0 * wt p0) (z 0), .int (cvB c1 * wt p1) (z 1), .int (cvB c2 * wt p2) (z 2), .int (cvB c3 * wt p3) (z 3), .int (cvB c4 * wt p4) (z 4), .int (cvB c5 * wt p5) (z 5)]) c5 p5).upd (cmC 7 it acc dc cW cT fr) m i al' tk' = [some itE, some (lsV [.int (cvB c0 * wt p0) g0, .int (cvB c1 * wt p1) g1, .int (cvB c2 * wt p2) g2, .int (cvB c3 * wt p3) g3, .int (cvB c4 * wt p4) g4, .int (cvB c5 * wt p5) g5] 6), some (dcE w g6 g7 c5 t5 p5 u5)] := by
    simp only [oCmp]
    rw [tk 0 (by decide), tk 1 (by decide), tk 2 (by decide), tk 3 (by decide), tk 4 (by decide), tk 5 (by decide), tk 6 (by decide), tk 7 (by decide), tk 8 (by decide), tk 9 (by decide)]
    rfl
  refine ⟨hr, ?_, ?_, ?_, fun hf => ok _ _ hf⟩
  · rw [hu]
    match js, hj with
    | [], _ => rfl
    | [_], h => exact h
    | [_, _], h => exact h
    | _ :: _ :: _ :: _, h => exact h
  · rw [hu]; exact ⟨z1, z2, z3, trivial⟩
  · rw [hu]; exact st
end Mine
namespace Mine
open PySem PySem.W PySem.W.X
open Sem (wp finPost)
/-! the law's own body: its contracts -/
noncomputable def lawEnv (f c2 c3 c4 c5 : Nat) : Env := { scope := fnScope (st 17), locals := f, globals := 3, cells := [("weights", c5), ("turned", c4), ("words", c3), ("drawn", c2)], qual := Str.ofString "law.<locals>.", func := some 139, code := .ref 138, frame := some f, builtins := 0 }
noncomputable def lwY (f c2 c3 c4 c5 : Nat) (p3 p4 : Pos) : CxL := { e3 := lawEnv f c2 c3 c4 c5, b3 := fnBody (st 17), p3 := p3, p4 := p4 }
noncomputable def txEnv (d c2 c3 fr : Nat) : Env := { scope := lcScope txE, locals := d, globals := 3, cells := [("words", c3), ("drawn", c2)], qual := Str.ofString "law.<locals>.", func := none, code := .ref 138, frame := some fr, builtins := 0 }
noncomputable def spX (f c2 c3 c4 c5 it acc d : Nat) (p1 p3 p4 : Pos) : CxC := { ci := .ref it, ca := .ref acc, cv := txEnv d c2 c3 f, e3 := lawEnv f c2 c3 c4 c5, b3 := fnBody (st 17), p1 := p1, p3 := p3, p4 := p4 }
noncomputable def oSpl (v : Str) : Orc := { ctx := true, r := (fun _ _ i _ tk => .ok (.ret (.str v (tk i)))), di := 1 }
section
variable {w : World} {s₀ : Shared} {A₀ : List Addr} {R : Result → Shared → Prop} {m i : Nat} {next : (Nat → Nat) → (Nat → Nat) → RLog}
theorem okr_spl {X : CxC} {pq : Pos} {x : W3} {t u : Nat} (hx : w3Ok x) (hw : x.1 < 3) (hm : Nat.ble m 1000 = true) (ok : ∀ al tk, OkR (VV w) (model prog w) s₀ A₀ R (next al tk)) :
    OkR (VV w) (model prog w) s₀ A₀ R (.call (.fn 110 [.str (wordS x.2.1 x.2.2) t, .int x.1 u]) (some (X.ctx (splC (wordS x.2.1 x.2.2) t x.1 u), pq)) m i [] (oSpl ⟨(spC x).toArray⟩) next) := by
  refine okr_gen fun c Γ p e1 e2 e3 s hnow hc => ?_
  obtain ⟨rfl, rfl⟩ := Prod.mk.inj (e3 _ rfl)
  refine viaG fun G hG => ?_
  obtain ⟨t', s', hr, st⟩ := spl_ret (X := X) (p := pq) (t := t) (u := u) hnow.top hx hw
  refine hG ⟨s', [], [t'], rfl, rfl, _, _, rfl, rfl, ?_, rfl, trivial, st, ⟨rfl, Nat.le_of_ble_eq_true hm, fun k ob e => (by cases e), fun k hk => (by cases hk), fun k k' hk => (by cases hk)⟩, fun k a ob e => (by cases e), ok _ _⟩
  show Returns _ _ _ s (.ok (.ret (.str _ (alOf i [t'] s'.toks i)))) s'
  rw [show alOf i [t'] s'.toks i = t' from alOf_at i [t'] _ 0 (by simp)]
  exact hr
theorem okr_joinF {V : SV} {a ea t j : Nat} {xs : List (Str × Tok)} (v : Str) (hv : MkS (joinMade ⟨#[]⟩ xs) v) (hl : Builtin.Str.tooLong ((xs.map (·.1)).toArray.foldl (· + ·.length + (⟨#[]⟩ : Str).length) 0) = false) (hm : Nat.ble m 1000 = true) (ok : ∀ al tk, (∀ k, s₀.heap.objs.size ≤ al (m + k)) → OkR V (model prog w) s₀ A₀ R (next al tk)) :
    OkR V (model prog w) s₀ A₀ R (.call (.bi 8028352891401237876 [.str ⟨#[]⟩ t, .ref a]) none m i [some (a, lsV (strValues xs) ea)] (orcU [j] (fun t => .str v t) (fun _ => [])) next) := by
  refine okr_UF rfl (fun _ _ _ _ _ => rfl) (fun _ _ _ _ _ => rfl) hm fun c Γ p h1 h2 _ s _ hc => ?_
  obtain ⟨t', s', hp, st⟩ := hv.post s
  refine ⟨s', [t'], rfl, fun al' tk' ea et => ⟨?_, rfl, trivial, st, fun hf => ok _ _ hf⟩⟩
  have hc' := rc_bi h1 "str.join" (by decide +kernel)
  subst hc'
  show Returns _ Γ p s (.ok (.ret (.str v (tk' i)))) s'
  rw [et, show alOf i [t'] s'.toks i = t' from alOf_at i [t'] _ 0 (by simp)]
  exact returns_at h2 fun A => code_meets F.slot_str_join (tS _ t s) F.entry_str_join (F.args_str_join_2 _ _) (meets_str_join_list ⟨#[]⟩ t a xs hl prog w A (fun r₁ s₁ => r₁ = .ok (.ret (.str v t')) ∧ s₁ = s') s ⟨lsV_isList hc.1, post_mono (fun v s₁ h => ⟨by rw [h.1], h.2⟩) hp⟩)
/-- what comes after a contract that lays objects anew is new -/
theorem fresh_after {s s' : Shared} {bs : List Nat} {m : Nat} (hg : s₀.heap.objs.size ≤ s.heap.objs.size) (hs : s.heap.objs.size ≤ s'.heap.objs.size) (hb : ∀ k, k < bs.length → s.heap.objs.size ≤ bs.getD k 0) (k : Nat) : s₀.heap.objs.size ≤ alOf m bs s'.heap.objs.size (m + k) := by
  by_cases h : k < bs.length
  · rw [alOf_at m bs _ k h]
    exact Nat.le_trans hg (hb k h)
  · have := alOf_end m bs s'.heap.objs.size (k - bs.length)
    rw [show m + bs.length + (k - bs.length) = m + k by omega] at this
    rw [this]; omega
noncomputable def oAdd6 (j k : Nat) (d0 d1 d2 d3 d4 d5 : Int) (di : Nat) : Orc := { sel := [j, k], r := (fun _ m _ al _ => .ok (.ret (.ref (al m)))), news := (fun _ _ i _ tk => [lsV [.int d0 (tk i), .int d1 (tk (i + 1)), .int d2 (tk (i + 2)), .int d3 (tk (i + 3)), .int d4 (tk (i + 4)), .int d5 (tk (i + 5))] 0]), dm := 1, di }
theorem okr_add6 {V : SV} {a b ea eb j k n t0 t1 t2 t3 t4 t5 : Nat} {d0 d1 d2 d3 d4 d5 : Int} {xs ys : List Value} (hz : xs ++ ys = [.int d0 t0, .int d1 t1, .int d2 t2, .int d3 t3, .int d4 t4, .int d5 t5]) (hm : m + 1 ≤ 1000) (ok : ∀ al tk, OkR V (model prog w) s₀ A₀ R (next al tk)) :
    OkR V (model prog w) s₀ A₀ R (.call (.bi 29827096650756823847613524589 [.ref a, .ref b]) none m i [some (a, lsV xs ea), some (b, lsV ys eb)] (oAdd6 j k d0 d1 d2 d3 d4 d5 (n + 6)) next) := by
  refine okr_gen fun c Γ p h1 h2 _ s hn hc => ?_
  have hc' := rc_bi h1 "list.__add__" (by decide +kernel)
  subst hc'
  let zs : List Value := [.int d0 t0, .int d1 t1, .int d2 t2, .int d3 t3, .int d4 t4, .int d5 t5]
  let gs : List Nat := [t0, t1, t2, t3, t4, t5] ++ List.replicate n 0
  have hlen : (xs ++ ys).length = 6 := by rw [hz]; rfl
  rw [List.length_append] at hlen
  have a0 : alOf m [s.heap.objs.size] (s.heap.push (lsV zs 0)).objs.size m = s.heap.objs.size := alOf_at m [s.heap.objs.size] _ 0 (by simp)
  have tk : ∀ k, k < 6 → alOf i gs s.toks (i + k) = [t0, t1, t2, t3, t4, t5].getD k 0 := fun k hk => by
    rw [alOf_at i gs _ k (by show k < ([t0, t1, t2, t3, t4, t5] ++ List.replicate n 0).length; rw [List.length_append]; show k < 6 + _; omega)]
    match k, hk with
    | 0, _ => rfl
    | 1, _ => rfl
    | 2, _ => rfl
    | 3, _ => rfl
    | 4, _ => rfl
    | 5, _ => rfl
  have q0 : alOf i gs s.toks i = t0 := tk 0 (by decide)
  have q1 := tk 1 (by decide); have q2 := tk 2 (by decide); have q3 := tk 3 (by decide); have q4 := tk 4 (by decide); have q5 := tk 5 (by decide)
  refine ⟨{ s with heap := s.heap.push (lsV zs 0) }, [s.heap.objs.size], gs, rfl, (by show ([t0, t1, t2, t3, t4, t5] ++ List.replicate n 0).length = n + 6; rw [List.length_append, List.length_replicate]; show 6 + n = n + 6; omega), _, _, rfl, rfl, ?_, rfl, trivial, step_push s _, ⟨rfl, hm, fun k ob e => ?_, fun k hk => ?_, fun k k' hk hk' => ?_⟩, fun k a ob e => (by cases e), ok _ _⟩
  · show Returns _ Γ p s (.ok (.ret (.ref (alOf m [s.heap.objs.size] (s.heap.push (lsV zs 0)).objs.size m)))) _
    rw [a0]
    refine returns_at h2 fun A => code_meets F.slot_list_add (lsV_type hc.1) F.entry_list_add (F.args_list_add_2 _ _) (AutoSeq1.list___add___list_list_0 a xs.toArray ea b ys.toArray eb (by rw [sizeLine_eq]; simp; omega) prog w A (fun r₁ s₁ => r₁ = .ok (.ret (.ref s.heap.objs.size)) ∧ s₁ = { s with heap := s.heap.push (lsV zs 0) }) s ⟨hc.1, hc.2.1, rfl, ?_⟩)
    have e0 : xs.toArray ++ ys.toArray = (xs ++ ys).toArray := by simp
    rw [e0, hz]; rfl
  · match k, e with
    | 0, e =>
      have e' : some (lsV [.int d0 (alOf i gs s.toks i), .int d1 (alOf i gs s.toks (i + 1)), .int d2 (alOf i gs s.toks (i + 2)), .int d3 (alOf i gs s.toks (i + 3)), .int d4 (alOf i gs s.toks (i + 4)), .int d5 (alOf i gs s.toks (i + 5))] 0) = some ob := e
      rw [q0, q1, q2, q3, q4, q5] at e'
      cases e'
      exact Heap.get?_push_size _ rfl
  · have hk' : k < 1 := hk
    have : k = 0 := by omega
    subst this
    exact Nat.le_refl _
  · intro _
    have h1 : k < 1 := hk
    have h2 : k' < 1 := hk'
    omega
noncomputable def oDueL : Orc := { ctx := true, r := (fun _ m _ al _ => .ok (.ret (.ref (al m)))), news := (fun _ _ i _ tk => [dO (decL (tk i)) (tk (i + 1))]), dm := 1, di := 2 }
theorem touched_nil : ∀ cells : List (Option Cell), touched cells [] = []
  | [] => rfl
  | none :: _ => rfl
  | some _ :: _ => rfl
theorem upd_nil {s : Shared} : ∀ cells : List (Option Cell), Upd s cells []
  | [] => trivial
  | none :: _ => trivial
  | some _ :: _ => trivial
theorem okr_dueL {Y : CxL} {pq : Pos} {a b : Int} {ta tb n : Nat} {r : List (Int × Int)} (hr : dueF n a b 0 = some r) (hn : n ≤ 1000) (hm : m + 1 ≤ 1000)
    (ok : ∀ al tk, (∀ k, s₀.heap.objs.size ≤ al (m + k)) → (decL (tk i)).map Ent.kv = r → OkR (VV w) (model prog w) s₀ A₀ R (next al tk)) :
    OkR (VV w) (model prog w) s₀ A₀ R (.call (.fn 134 [.int a ta, .int b tb]) (some (Y.ctx (dueC a ta b tb), pq)) m i [] oDueL next) := by
  refine okr_gen fun c Γ p e1 e2 e3 s hnow hc => ?_
  obtain ⟨rfl, rfl⟩ := Prod.mk.inj (e3 _ rfl)
  refine viaG fun G hG => ?_
  obtain ⟨d, L, ep, s', hr', hg, hL, st, hd⟩ := due_ret (X := Y) (p := pq) (ta := ta) (tb := tb) hnow.top hr hn
  have t0 : alOf i [encN (encE L), ep] s'.toks i = encN (encE L) := alOf_at i [encN (encE L), ep] _ 0 (by simp)
  have t1 : alOf i [encN (encE L), ep] s'.toks (i + 1) = ep := alOf_at i [encN (encE L), ep] _ 1 (by simp)
  have m0 : alOf m [d] s'.heap.objs.size m = d := alOf_at m [d] _ 0 (by simp)
  refine hG ⟨s', [d], [encN (encE L), ep], rfl, rfl, _, _, rfl, rfl, ?_, rfl, trivial, st, ⟨rfl, hm, fun k ob e => ?_, fun k hk => ?_, fun k k' hk hk' => ?_⟩, fun k a ob e => (by cases e), ok _ _ (fresh_after hnow.grow st.grow fun k hk => ?_) ?_⟩
  · show Returns _ _ _ s (.ok (.ret (.ref (alOf m [d] s'.heap.objs.size m)))) s'
    rw [m0]; exact hr'
  · match k, e with
    | 0, e =>
      have e' : some (dO (decL (alOf i [encN (encE L), ep] s'.toks i)) (alOf i [encN (encE L), ep] s'.toks (i + 1))) = some ob := e
      rw [t0, t1, decL_enc] at e'
      cases e'
      exact hg
  · have hk' : k < 1 := hk
    have : k = 0 := by omega
    subst this
    exact hd
  · intro _
    have h1 : k < 1 := hk
    have h2 : k' < 1 := hk'
    omega
  · have hk' : k < 1 := hk
    have : k = 0 := by omega
    subst this
    exact hd
  · rw [t0, decL_enc]; exact hL
noncomputable def oOff (js : List Nat) : Orc := { ctx := true, sel := js, r := (fun _ m _ al _ => .ok (.ret (.ref (al m)))), news := (fun _ _ i _ tk => [dO (decL (tk i)) (tk (i + 1))]), dm := 1, di := 2 }
theorem okr_off {Y : CxL} {pq : Pos} {ch a0 a1 a2 a3 a4 a5 t0 t1 t2 t3 t4 t5 u0 u1 u2 u3 u4 u5 : Nat} {c0 c1 c2 c3 c4 c5 p0 p1 p2 p3 p4 p5 : Int} {js : List Nat}
    (h0 : 0 ≤ c0 ∧ c0 ≤ 5 ∧ 0 ≤ p0) (h1 : 0 ≤ c1 ∧ c1 ≤ 5 ∧ 0 ≤ p1) (h2 : 0 ≤ c2 ∧ c2 ≤ 5 ∧ 0 ≤ p2) (h3 : 0 ≤ c3 ∧ c3 ≤ 5 ∧ 0 ≤ p3) (h4 : 0 ≤ c4 ∧ c4 ≤ 5 ∧ 0 ≤ p4) (h5 : 0 ≤ c5 ∧ c5 ≤ 5 ∧ 0 ≤ p5) (hm : m + 1 ≤ 1000)
    (ok : ∀ al tk, (∀ k, s₀.heap.objs.size ≤ al (m + k)) → Laid1 (decL (tk i)) → (∀ x ∈ decL (tk i), 0 ≤ x.k) → RowIs (decL (tk i)) (chipS cvA c0 p0 c1 p1 c2 p2 c3 p3 c4 p4 c5 p5) (chipS cvB c0 p0 c1 p1 c2 p2 c3 p3 c4 p4 c5 p5) → OkR (VV w) (model prog w) s₀ A₀ R (next al tk)) :
    OkR (VV w) (model prog w) s₀ A₀ R (.call (.fn 127 [.ref ch]) (some (Y.ctx (offC ch), pq)) m i [some (ch, lsV (iRefs a0 a1 a2 a3 a4 a5) 6), some (a0, prO c0 t0 p0 u0), some (a1, prO c1 t1 p1 u1), some (a2, prO c2 t2 p2 u2), some (a3, prO c3 t3 p3 u3), some (a4, prO c4 t4 p4 u4), some (a5, prO c5 t5 p5 u5)] (oOff js) next) := by
  refine okr_gen fun c Γ p e1 e2 e3 s hnow hc => ?_
  obtain ⟨rfl, rfl⟩ := Prod.mk.inj (e3 _ rfl)
  refine viaG fun G hG => ?_
  obtain ⟨g, g0, g1, g2, g3, g4, g5, _⟩ := hc
  obtain ⟨d, L, ed, s', hr', hg, hLd, hpos, hR, st, hd⟩ := off_ret (X := Y) (p := pq) (ep := 6) hnow.top g g0 g1 g2 g3 g4 g5 h0 h1 h2 h3 h4 h5
  have q0 : alOf i [encN (encE L), ed] s'.toks i = encN (encE L) := alOf_at i [encN (encE L), ed] _ 0 (by simp)
  have q1 : alOf i [encN (encE L), ed] s'.toks (i + 1) = ed := alOf_at i [encN (encE L), ed] _ 1 (by simp)
  have m0 : alOf m [d] s'.heap.objs.size m = d := alOf_at m [d] _ 0 (by simp)
  refine hG ⟨s', [d], [encN (encE L), ed], rfl, rfl, _, _, rfl, rfl, ?_, ?_, upd_nil _, ?_, ⟨rfl, hm, fun k ob e => ?_, fun k hk => ?_, fun k k' hk hk' => ?_⟩, fun k a ob e => (by cases e), ok _ _ (fresh_after hnow.grow st.grow fun k hk => ?_) ?_ ?_ ?_⟩
  · show Returns _ _ _ s (.ok (.ret (.ref (alOf m [d] s'.heap.objs.size m)))) s'
    rw [m0]; exact hr'
  · cases js <;> rfl
  · show Step s s' (touched _ [])
    rw [touched_nil]; exact st
  · match k, e with
    | 0, e =>
      have e' : some (dO (decL (alOf i [encN (encE L), ed] s'.toks i)) (alOf i [encN (encE L), ed] s'.toks (i + 1))) = some ob := e
      rw [q0, q1, decL_enc] at e'
      cases e'
      exact hg
  · have hk' : k < 1 := hk
    have : k = 0 := by omega
    subst this
    exact hd
  · intro _
    have h1 : k < 1 := hk
    have h2 : k' < 1 := hk'
    omega
  · have hk' : k < 1 := hk
    have : k = 0 := by omega
    subst this
    exact hd
  · rw [q0, decL_enc]; exact hLd
  · rw [q0, decL_enc]; exact hpos
  · rw [q0, decL_enc]; exact hR
/-- the lexer's dict, its tokens and addresses by name -/
noncomputable def ldG (w : World) (k1 k2 k3 k4 fs tw pb : Nat) (ln : Int) (tl : Nat) : Obj := { cls := .type "dict", data := .dict #[de w.params "lineno" k1 (.int ln tl), de w.params "instream" k2 (.ref fs), de w.params "whitespace" k3 (.str ⟨#[10, 9, 13, 32]⟩ tw), de w.params "pushback" k4 (.ref pb)] 4 }
noncomputable def oRead (w : World) (js : List Nat) (W : List Str) (LN : Int) : Orc := { ctx := true, sel := js, r := (fun _ m _ al _ => .ok (.ret (.ref (al (m + 2))))), upd := (fun _ _ i _ tk => [some (ldG w (tk (i + 8)) (tk (i + 9)) (tk (i + 10)) (tk (i + 11)) (tk (i + 12)) (tk (i + 13)) (tk (i + 14)) LN (tk i)), some (aiO (decI (tk (i + 1))) (tk (i + 2))), some (pbO [] (tk (i + 3)))]), news := (fun _ m i al tk => [dO (decL (tk (i + 4))) (tk (i + 5)), ssO (W.zip (decN (tk (i + 6)))) (tk (i + 7)), twoO (al m) (al (m + 1))]), dm := 3, di := 15 }
theorem okr_read {Y : CxL} {pq : Pos} {X : Lx} {tx : Str} {words : List W3} {n l LN : Int} {W : List Str} {tl tn eb : Nat} {js : List Nat} (big : 140 ≤ X.ld ∧ 140 ≤ X.ai ∧ 140 ≤ X.pb) (hT : TxAt tx n words) (h6 : words.length = 6) (hW : words.map w3S = W) (hLN : l + (words.countP fun x => x.1 = 0) = LN) (hj : selOk js [some default, some default, some default] = true) (hm : m + 3 ≤ 1000)
    (ok : ∀ al tk, (∀ k, s₀.heap.objs.size ≤ al (m + k)) → Laid1 (decL (tk (i + 4))) → (∀ x ∈ decL (tk (i + 4)), 0 ≤ x.k) → RowIs (decL (tk (i + 4))) (isum (words.map (v3 cvA))) (isum (words.map (v3 cvB))) → (decN (tk (i + 6))).length = 6 → OkR (VV w) (model prog w) s₀ A₀ R (next al tk)) :
    OkR (VV w) (model prog w) s₀ A₀ R (.call (.fn 122 [.ref X.lx]) (some (Y.ctx (rdC X.lx), pq)) m i [some (X.ld, ldO w X l tl), some (X.ai, aiO n tn), some (X.pb, pbO [] eb), some (X.lx, lxO X), some (X.fs, fsO X), some (X.sd, sdO w X), some (X.rf, rfO X), some (X.cd, cdO X), some (X.cT, cTO X tx), some (X.cA, cAO X)] (oRead w js W LN) next) := by
  refine okr_gen fun c Γ p e1 e2 e3 s hnow hc => ?_
  obtain ⟨rfl, rfl⟩ := Prod.mk.inj (e3 _ rfl)
  subst hW hLN
  refine viaG fun G hG => ?_
  obtain ⟨g1, g2, g3, k1, k2, k3, k4, k5, k6, k7, _⟩ := hc
  dsimp only at g1 g2 g3 k1 k2 k3 k4 k5 k6 k7
  have n3 : ∀ {x : Nat} {o : Obj}, s.heap.get? x = some o → o ≠ ldO w X l tl → o ≠ aiO n tn → o ≠ pbO [] eb → x ∉ [X.ld, X.ai, X.pb] := fun hx q1 q2 q3 => not3 hx g1 g2 g3 q1 q2 q3
  have cl : ∀ {o o' : Obj} {a b : String}, o.cls = .type a → o'.cls = .type b → a ≠ b → o ≠ o' := fun {o o' a b} e e' hne q => by
    rw [q, e'] at e; injection e with e; exact hne e.symm
  have c1 : (ldO w X l tl).cls = .type "dict" := rfl
  have c2 : (aiO n tn).cls = .type "list" := rfl
  have c3 : (pbO [] eb).cls = .type "list" := rfl
  have hf1 : (fsO X).cls = .type "function" := rfl
  have hf2 : (rfO X).cls = .type "function" := rfl
  have lx : LxIn w s X tx := by
    refine ⟨hnow.top, ?_, ?_, big, ?_⟩
    · exact allC k1 (allC k2 (allC k3 (allC k4 (allC k5 (allC k6 (allC k7 allN))))))
    · have q1 : X.ld ≠ X.ai := fun q => by rw [q, g2] at g1; exact cl c2 c1 (by decide) (Option.some.inj g1)
      have q2 : X.ld ≠ X.pb := fun q => by rw [q, g3] at g1; exact cl c3 c1 (by decide) (Option.some.inj g1)
      have q3 : X.ai ≠ X.pb := fun q => by rw [q, g3] at g2; simp [aiO, pbO] at g2
      simp [q1, q2, q3]
    · exact (allC (n3 k1 (by simp [lxO, ldO]) (by simp [lxO, aiO]) (by simp [lxO, pbO])) (allC (n3 k2 (cl hf1 c1 (by decide)) (cl hf1 c2 (by decide)) (cl hf1 c3 (by decide))) (allC (n3 k3 (by simp [sdO, ldO]) (by simp [sdO, aiO]) (by simp [sdO, pbO])) (allC (n3 k4 (cl hf2 c1 (by decide)) (cl hf2 c2 (by decide)) (cl hf2 c3 (by decide))) (allC (n3 k5 (by simp [cdO, ldO]) (by simp [cdO, aiO]) (by simp [cdO, pbO])) (allC (n3 k6 (by simp [cTO, ldO]) (by simp [cTO, aiO]) (by simp [cTO, pbO])) (allC (n3 k7 (by simp [cAO, ldO]) (by simp [cAO, aiO]) (by simp [cAO, pbO])) allN)))))))
  obtain ⟨a, d, sn, L, ed, ts, ep, tl', n', tn', eb', s', hr', H⟩ := read_ret (Y := Y) (p := pq) lx g1 g2 g3 hT h6
  let gs : List Nat := [tl', encI n', tn', eb', encN (encE L), ed, encN ts, ep, X.k1, X.k2, X.k3, X.k4, X.fs, X.tw, X.pb]
  have tk : ∀ k, k < 15 → alOf i gs s'.toks (i + k) = gs.getD k 0 := fun k hk => alOf_at i gs _ k (by simpa [gs] using hk)
  have t0 : alOf i gs s'.toks i = tl' := tk 0 (by decide)
  have t1 := tk 1 (by decide); have t2 := tk 2 (by decide); have t3 := tk 3 (by decide); have t4 := tk 4 (by decide)
  have t5 := tk 5 (by decide); have t6 := tk 6 (by decide); have t7 := tk 7 (by decide)
  have m0 : alOf m [d, sn, a] s'.heap.objs.size m = d := alOf_at m [d, sn, a] _ 0 (by simp)
  have m1 : alOf m [d, sn, a] s'.heap.objs.size (m + 1) = sn := alOf_at m [d, sn, a] _ 1 (by simp)
  have m2 : alOf m [d, sn, a] s'.heap.objs.size (m + 2) = a := alOf_at m [d, sn, a] _ 2 (by simp)
  have eL : decL (alOf i gs s'.toks (i + 4)) = L := by rw [t4]; exact decL_enc L
  have eN : decN (alOf i gs s'.toks (i + 6)) = ts := by rw [t6]; exact decN_enc ts
  have eI : decI (alOf i gs s'.toks (i + 1)) = n' := by rw [t1]; exact decI_enc n'
  have e5 : alOf i gs s'.toks (i + 5) = ed := t5
  have e7 : alOf i gs s'.toks (i + 7) = ep := t7
  have e2' : alOf i gs s'.toks (i + 2) = tn' := t2
  have e3' : alOf i gs s'.toks (i + 3) = eb' := t3
  have t8 := tk 8 (by decide); have t9 := tk 9 (by decide); have t10 := tk 10 (by decide); have t11 := tk 11 (by decide); have t12 := tk 12 (by decide); have t13 := tk 13 (by decide); have t14 := tk 14 (by decide)
  have hb : ∀ k, k < 3 → s.heap.objs.size ≤ [d, sn, a].getD k 0 := fun k hk => by
    match k, hk with
    | 0, _ => exact H.nd
    | 1, _ => exact H.ns
    | 2, _ => exact H.na
  refine hG ⟨s', [d, sn, a], gs, rfl, rfl, _, _, rfl, rfl, ?_, ?_, ?_, ?_, ⟨rfl, hm, fun k ob e => ?_, hb, fun k k' hk hk' e => ?_⟩, fun k a ob e => (by cases e), ok _ _ (fresh_after hnow.grow H.st.grow hb) ?_ ?_ ?_ ?_⟩
  · show Returns _ _ _ s (.ok (.ret (.ref (alOf m [d, sn, a] s'.heap.objs.size (m + 2))))) s'
    rw [m2]; exact hr'
  · match js, hj with
    | [], _ => rfl
    | [_], h => exact h
    | [_, _], h => exact h
    | _ :: _ :: _ :: _, h => exact h
  · show s'.heap.get? X.ld = some (ldG w (alOf i gs s'.toks (i + 8)) (alOf i gs s'.toks (i + 9)) (alOf i gs s'.toks (i + 10)) (alOf i gs s'.toks (i + 11)) (alOf i gs s'.toks (i + 12)) (alOf i gs s'.toks (i + 13)) (alOf i gs s'.toks (i + 14)) _ (alOf i gs s'.toks i)) ∧ s'.heap.get? X.ai = some (aiO (decI (alOf i gs s'.toks (i + 1))) (alOf i gs s'.toks (i + 2))) ∧ s'.heap.get? X.pb = some (pbO [] (alOf i gs s'.toks (i + 3))) ∧ _
    rw [t0, eI, e2', e3', t8, t9, t10, t11, t12, t13, t14]
    exact ⟨H.ld, H.ai, H.pb, trivial⟩
  · exact H.st
  · match k, e with
    | 0, e =>
      have e' : some (dO (decL (alOf i gs s'.toks (i + 4))) (alOf i gs s'.toks (i + 5))) = some ob := e
      rw [eL, e5] at e'
      cases e'
      exact H.dd
    | 1, e =>
      have e' : some (ssO ((words.map w3S).zip (decN (alOf i gs s'.toks (i + 6)))) (alOf i gs s'.toks (i + 7))) = some ob := e
      rw [eN, e7] at e'
      cases e'
      exact H.ss
    | 2, e =>
      have e' : some (twoO (alOf m [d, sn, a] s'.heap.objs.size m) (alOf m [d, sn, a] s'.heap.objs.size (m + 1))) = some ob := e
      rw [m0, m1] at e'
      cases e'
      exact H.tup
  · have q1 : d ≠ sn := fun q => by have := H.dd; rw [q, H.ss] at this; simp [ssO, dO] at this
    have q2 : d ≠ a := fun q => by have := H.dd; rw [q, H.tup] at this; simp [twoO, dO] at this
    have q3 : sn ≠ a := fun q => by have := H.ss; rw [q, H.tup] at this; simp [twoO, ssO] at this
    have hk1 : k < 3 := hk
    have hk2 : k' < 3 := hk'
    match k, k', hk1, hk2, e with
    | 0, 0, _, _, _ => rfl
    | 0, 1, _, _, e => exact absurd e q1
    | 0, 2, _, _, e => exact absurd e q2
    | 1, 0, _, _, e => exact absurd e.symm q1
    | 1, 1, _, _, _ => rfl
    | 1, 2, _, _, e => exact absurd e q3
    | 2, 0, _, _, e => exact absurd e.symm q2
    | 2, 1, _, _, e => exact absurd e.symm q3
    | 2, 2, _, _, _ => rfl
  · rw [eL]; exact H.laid
  · rw [eL]; exact H.pos
  · rw [eL]; exact H.row
  · rw [eN]; exact H.len
end
end Mine
namespace Mine
open PySem PySem.W PySem.W.X
open Sem (wp finPost)
/-! `sum` of six ints -/
theorem runs_size {M : Model} {Γ : Ctx} {p : Pos} {t : Sem PySem.Fin} {fs : List Frame} {s s' : Shared} {e : End} (h : Runs M Γ p t fs s e s') : s.heap.objs.size ≤ s'.heap.objs.size := by
  induction h <;> (try simp only [Shared.setGen, Heap.size_push, Heap.size_update] at *) <;> omega
theorem code_sum {w : World} {A : Around} {R : Result → Shared → Prop} {s : Shared} (hh : A.handled = none) {l : Addr} {items : Array Value} (hl : s.heap.IsList l items) (val : Nat → Int) (hval : ∀ i v, items[i]? = some v → ∃ t, v = Value.int (val i) t) (hfit : ∀ j, j < items.size → InLong (val j) ∧ InLong (preSum val (j + 1)))
    (hR : ∀ h' tk t', (∀ b o, s.heap.get? b = some o → h'.get? b = some o) → R (.ok (.ret (.int (preSum val items.size) t'))) { s with heap := h', toks := tk }) : codeAny (model prog w) A (.call (.builtin "sum") ⟨[.ref l], []⟩) R s := by
  refine codeAny_call_builtin F.plain_sum F.entry_sum ?_
  have ha : argsOk "sum" ⟨[.ref l], []⟩ := F.args_sum1 _
  simp only [checkBuiltinCall, F.kind_sum]
  have main : wpAny (model prog w) A.in1 (Builtin.«sum» ⟨[.ref l], []⟩) (fun fin s' => match fin with | .done f => R (.ok f) s' | .again c' => c'.quiet = true ∧ codeAny (model prog w) A c' R s') (fun e s' => R (.error e) s') s := by
    unfold Builtin.«sum»
    simp only [List.length_cons, List.length_nil]
    rw [if_neg (by decide)]
    refine wpAny_bind (wpAny_of_eq (show Builtin.Builtins.bindParams "sum" ["start"] 0 { } = pure [none] from rfl) ?_)
    refine wpAny_bind (wpAny_pyIter_list hl ?_)
    have hne : l ≠ s.heap.objs.size := by obtain ⟨o, ho, _⟩ := hl; exact Nat.ne_of_lt (Heap.lt_size ho)
    have hl2 := hl.push { cls := .type "list_iterator", data := .fields #[.ref l, .int 0 0] }
    have W : Walks prog w A.in1 s.heap.objs.size [s.heap.objs.size, l] [s.heap.objs.size] items.size (fun i v => items[i]? = some v) (fun i h => h.IsListIter s.heap.objs.size l i ∧ h.IsList l items) := Walks.list (by exact hh) s.heap.objs.size l hne items
    refine wpAny_bind (wpAny_mkInt ?_)
    refine wpAny_bind (wpAny_pure ?_)
    simp only [List.forIn_cons, List.forIn_nil]
    refine wpAny_bind (wpAny_bind (wpAny_bind (wpAny_isInstance (T := "int") (b := false) (typeIs_int _ _ _) sub_int_str ?_)))
    simp only [Bool.false_eq_true, if_false]
    refine wpAny_pure (wpAny_bind (wpAny_bind (wpAny_isInstance (T := "int") (b := false) (typeIs_int _ _ _) sub_int_bytes ?_)))
    simp only [Bool.false_eq_true, if_false]
    refine wpAny_pure (wpAny_bind (wpAny_bind (wpAny_isInstance (T := "int") (b := false) (typeIs_int _ _ _) sub_int_bytearray ?_)))
    simp only [Bool.false_eq_true, if_false]
    refine wpAny_pure (wpAny_pure ?_)
    refine wpAny_bind (wpAny_newObj_type ?_)
    have hsz : (s.heap.push { cls := .type "list_iterator", data := .fields #[.ref l, .int 0 0] }).objs.size = s.heap.objs.size + 1 := Heap.size_push ..
    have hll : l < s.heap.objs.size := by obtain ⟨o, ho, _⟩ := hl; exact Heap.lt_size ho
    have hst : (fun i (h : Heap) => h.IsListIter s.heap.objs.size l i ∧ h.IsList l items) 0 (s.heap.push { cls := .type "list_iterator", data := .fields #[.ref l, .int 0 0] }) := ⟨⟨_, Heap.get?_push_size _ rfl, rfl, rfl⟩, hl2⟩
    refine wpAny_pure ⟨plainId_quiet F.plain_sum_loop _, codeAny_sum_loop W val hval hfit _ (by
        rw [hsz]
        simp only [List.mem_cons, List.not_mem_nil, or_false, not_or]
        exact ⟨Nat.succ_ne_self _, fun q => by rw [← q] at hll; exact absurd hll (Nat.not_lt.mpr (Nat.le_succ _))⟩) items.size 0 _ s.toks 0 rfl (Nat.zero_le _)
      (W.frame _ _ _ hst fun b _ o e => Heap.get?_push_of_some _ e) (Heap.get?_push_size _ rfl) fun h' tk t' hk => ?_⟩
    refine hR h' tk t' fun b o e => hk b o ?_ ?_ (Heap.get?_push_of_some _ (Heap.get?_push_of_some _ e))
    · rw [List.mem_singleton]; exact Nat.ne_of_lt (Heap.lt_size e)
    · have h1 := Heap.lt_size e
      intro q
      have h2 : b = s.heap.objs.size + 1 := q.trans hsz
      rw [h2] at h1
      exact absurd h1 (Nat.not_lt.mpr (Nat.le_succ _))
  cases hsig : Manifest.signature? "sum" with
  | none => exact wpAny_pure main
  | some sig =>
    simp only [argsOk, hsig] at ha
    have h2 : Bind.checkArgs "sum" sig ⟨[.ref l], []⟩ = pure () := ha
    show wpAny _ A.in1 (Bind.checkArgs "sum" sig ⟨[.ref l], []⟩) _ _ s
    rw [h2]; exact wpAny_pure main
/-- the six of them, in their order -/
noncomputable def six6 (v0 v1 v2 v3 v4 v5 : Int) (j : Nat) : Int := [v0, v1, v2, v3, v4, v5].getD j 0
noncomputable def sumC (a : Nat) : Code := .call (.builtin "sum") ⟨[.ref a], []⟩
noncomputable def oSum (j : Nat) (v : Int) : Orc := { ctx := true, sel := [j], r := (fun _ _ i _ tk => .ok (.ret (.int v (tk i)))), di := 1 }
noncomputable def Sml (v : Int) : Prop := -4 ≤ v ∧ v ≤ 4
theorem okr_sum {w : World} {s₀ : Shared} {A₀ : List Addr} {R : Result → Shared → Prop} {m i : Nat} {next : (Nat → Nat) → (Nat → Nat) → RLog} {Y : CxL} {pq : Pos} {a j g0 g1 g2 g3 g4 g5 : Nat} {v0 v1 v2 v3 v4 v5 : Int} (h0 : Sml v0) (h1 : Sml v1) (h2 : Sml v2) (h3 : Sml v3) (h4 : Sml v4) (h5 : Sml v5) (hm : Nat.ble m 1000 = true)
    (ok : ∀ al tk, (∀ k, s₀.heap.objs.size ≤ al (m + k)) → OkR (VV w) (model prog w) s₀ A₀ R (next al tk)) :
    OkR (VV w) (model prog w) s₀ A₀ R (.call (.bi 7239284 [.ref a]) (some (Y.ctx (sumC a), pq)) m i [some (a, lsV [.int v0 g0, .int v1 g1, .int v2 g2, .int v3 g3, .int v4 g4, .int v5 g5] 6)] (oSum j (0 + v0 + v1 + v2 + v3 + v4 + v5)) next) := by
  refine okr_UF rfl (fun _ _ _ _ _ => rfl) (fun _ _ _ _ _ => rfl) hm fun c Γ p e1 e2 e3 s hnow hc => ?_
  obtain ⟨rfl, rfl⟩ := Prod.mk.inj (e3 _ rfl)
  have hl := lsV_isList hc.1
  have hp : preSum (six6 v0 v1 v2 v3 v4 v5) 6 = 0 + v0 + v1 + v2 + v3 + v4 + v5 := rfl
  obtain ⟨r, s', hr, t, rfl, hk, he⟩ := (code_sum (w := w) (A := aboutB (Y.ctx (sumC a))) (s := s) (R := fun r s' => ∃ t, r = .ok (.ret (.int (preSum (six6 v0 v1 v2 v3 v4 v5) 6) t)) ∧ (∀ b o, s.heap.get? b = some o → s'.heap.get? b = some o) ∧ ∃ h' tk, s' = { s with heap := h', toks := tk }) rfl hl (six6 v0 v1 v2 v3 v4 v5) (fun k v hv => by
      match k, hv with
      | 0, hv => cases hv; exact ⟨_, rfl⟩
      | 1, hv => cases hv; exact ⟨_, rfl⟩
      | 2, hv => cases hv; exact ⟨_, rfl⟩
      | 3, hv => cases hv; exact ⟨_, rfl⟩
      | 4, hv => cases hv; exact ⟨_, rfl⟩
      | 5, hv => cases hv; exact ⟨_, rfl⟩) (fun k hk => by
      have hk' : k < 6 := hk
      unfold Sml at *
      match k, hk' with
      | 0, _ => delta InLong; simp only [preSum, six6]; simp; omega
      | 1, _ => delta InLong; simp only [preSum, six6]; simp; omega
      | 2, _ => delta InLong; simp only [preSum, six6]; simp; omega
      | 3, _ => delta InLong; simp only [preSum, six6]; simp; omega
      | 4, _ => delta InLong; simp only [preSum, six6]; simp; omega
      | 5, _ => delta InLong; simp only [preSum, six6]; simp; omega) (fun h' tk t' hk => ⟨t', rfl, hk, h', tk, rfl⟩)) (Y.ctx (sumC a)) pq rfl (below_any _)
  obtain ⟨h', tk, e⟩ := he
  rw [hp] at hr
  refine ⟨s', [t], rfl, fun al' tk' ea et => ⟨?_, rfl, upd_nil _, ?_, fun hf => ok _ _ hf⟩⟩
  · show Returns _ _ pq s (.ok (.ret (.int _ (tk' i)))) s'
    rw [et, show alOf i [t] s'.toks i = t from alOf_at i [t] _ 0 (by simp)]
    exact hr
  · show Step s s' (touched _ [])
    rw [touched_nil]
    refine ⟨fun a o e _ => hk a o e, runs_size hr, hr.toks_le, ?_, ?_, ?_⟩
    · rw [e]
    · rw [e]
    · rw [e]
end Mine
namespace Mine
open PySem PySem.W PySem.W.X
/-! the law's own body (the kernel runs it, once for each length of the script) -/
noncomputable def lawC (a : Nat) : Code := .call (.ref 139) ⟨[.ref a], []⟩
noncomputable def lawX (pc : Pos) (c : Code) : Ctx := ⟨c, none, none, [(.builtin "claim.caller" {}, pc)], none⟩
noncomputable def o100 : Obj := { cls := .none, data := .fields #[] }
noncomputable def o100E (a b : Nat) : Obj := { cls := .none, data := .fields #[.int 110 0, .int 4 0, .ref a, .int 114 0, .int 13 0, .ref b] }
noncomputable def lwLX (alB60 tkB55 tkB60 : Nat → Nat) : Lx := { lx := (alB60 95), ld := (alB60 94), ai := (alB60 77), pb := (alB60 97), fs := (alB60 92), sd := (alB60 93), rf := (alB60 85), cd := (alB60 84), cT := (alB60 75), cA := (alB60 76), fc := (alB60 91), ct := (alB60 78), k1 := (tkB60 255), k2 := (tkB60 257), k3 := (tkB60 260), k4 := (tkB60 262), k5 := (tkB60 250), tw := (tkB60 258), c1 := (tkB60 233), c2 := (tkB60 234), c3 := (tkB60 235), c5 := (tkB60 241), r1 := (alB60 79), r2 := (alB60 80), r3 := (alB60 81), r4 := (alB60 82), r5 := (alB60 83), c4 := ((tkB60 240) : Nat), tt := (tkB55 183) }
noncomputable def osLw (w : World) (c0 c1 c2 c3 c4 c5 p0 p1 p2 p3 p4 p5 e0 e1 e2 e3 e4 e5 y0 y1 y2 y3 y4 y5 d0 d1 d2 d3 d4 d5 LN CN : Int) (s0 s1 s2 s3 s4 s5 tx : Str) : List Orc := [orcV fun t => .int c0 t, orcV fun t => .int e0 t, orcV fun t => .int p0 t, orcV fun t => .int c1 t, orcV fun t => .int e1 t, orcV fun t => .int p1 t, orcV fun t => .int c2 t, orcV fun t => .int e2 t, orcV fun t => .int p2 t, orcV fun t => .int c3 t, orcV fun t => .int e3 t, orcV fun t => .int p3 t, orcV fun t => .int c4 t, orcV fun t => .int e4 t, orcV fun t => .int p4 t, orcV fun t => .int c5 t, orcV fun t => .int e5 t, orcV fun t => .int p5 t, orcV fun t => .str (rp c0) t, orcV fun t => .str (rp c0 ++ ⟨#[32]⟩) t, orcV fun t => .str (rp p0) t, orcV fun t => .str (wordS c0 p0) t, orcV fun t => .str (rp c1) t, orcV fun t => .str (rp c1 ++ ⟨#[32]⟩) t, orcV fun t => .str (rp p1) t, orcV fun t => .str (wordS c1 p1) t, orcV fun t => .str (rp c2) t, orcV fun t => .str (rp c2 ++ ⟨#[32]⟩) t, orcV fun t => .str (rp p2) t, orcV fun t => .str (wordS c2 p2) t, orcV fun t => .str (rp c3) t, orcV fun t => .str (rp c3 ++ ⟨#[32]⟩) t, orcV fun t => .str (rp p3) t, orcV fun t => .str (wordS c3 p3) t, orcV fun t => .str (rp c4) t, orcV fun t => .str (rp c4 ++ ⟨#[32]⟩) t, orcV fun t => .str (rp p4) t, orcV fun t => .str (wordS c4 p4) t, orcV fun t => .str (rp c5) t, orcV fun t => .str (rp c5 ++ ⟨#[32]⟩) t, orcV fun t => .str (rp p5) t, orcV fun t => .str (wordS c5 p5) t, orcV fun t => .int y0 t, oSpl s0, orcV fun t => .int y1 t, oSpl s1, orcV fun t => .int y2 t, oSpl s2, orcV fun t => .int y3 t, oSpl s3, orcV fun t => .int y4 t, oSpl s4, orcV fun t => .int y5 t, oSpl s5, orcU [55] (fun t => .str tx t) (fun _ => []), oCmp w [67, 68, 69, 20, 22, 23, 24, 25, 26, 27, 65, 59, 60, 61, 62, 63, 64, 66, 5, 4] (fun z => [.int (cvA c0 * wt p0) (z 0), .int (cvA c1 * wt p1) (z 1), .int (cvA c2 * wt p2) (z 2), .int (cvA c3 * wt p3) (z 3), .int (cvA c4 * wt p4) (z 4), .int (cvA c5 * wt p5) (z 5)]) c5 p5, oSum 68 (0 + cvA c0 * wt p0 + cvA c1 * wt p1 + cvA c2 * wt p2 + cvA c3 * wt p3 + cvA c4 * wt p4 + cvA c5 * wt p5), oCmp w [70, 71, 72, 20, 22, 23, 24, 25, 26, 27, 65, 59, 60, 61, 62, 63, 64, 66, 5, 4] (fun z => [.int (cvB c0 * wt p0) (z 0), .int (cvB c1 * wt p1) (z 1), .int (cvB c2 * wt p2) (z 2), .int (cvB c3 * wt p3) (z 3), .int (cvB c4 * wt p4) (z 4), .int (cvB c5 * wt p5) (z 5)]) c5 p5, oSum 71 (0 + cvB c0 * wt p0 + cvB c1 * wt p1 + cvB c2 * wt p2 + cvB c3 * wt p3 + cvB c4 * wt p4 + cvB c5 * wt p5), oDueL, oRead w [94, 77, 97, 95, 92, 93, 85, 84, 75, 76] [wordS c0 p0, wordS c1 p1, wordS c2 p2, wordS c3 p3, wordS c4 p4, wordS c5 p5] LN, orcU [98, 73] (fun _ => .bool false) (fun _ => []), orcU [99, 31] (fun _ => .bool false) (fun _ => []), orcV fun t => .int CN t, orcI fun x y => x + y, orcV fun _ => .bool false, oOff [20, 22, 23, 24, 25, 26, 27], orcU [104, 73] (fun _ => .bool true) (fun _ => [])]
noncomputable def trLw : List Nat := [266, 3, 0, 257, 1256, 1256, 1256, 1, 0, 271, 0, 271, 271, 269, 269, 269, 0, 269, 272, 272, 272, 272, 272, 269, 0, 265, 273, 265, 1, 258, 258, 258, 274, 274, 0, 274, 275, 275, 275, 0, 275, 275, 275, 274, 275, 275, 277, 277, 277, 1, 277, 1, 1, 0, 276, 276, 276, 276, 275, 0, 275, 275, 275, 274, 275, 275, 277, 277, 277, 1, 277, 1, 1, 0, 276, 276, 276, 276, 275, 0, 275, 275, 275, 274, 275, 275, 277, 277, 277, 1, 277, 1, 1, 0, 276, 276, 276, 276, 275, 0, 275, 275, 275, 274, 275, 275, 277, 277, 277, 1, 277, 1, 1, 0, 276, 276, 276, 276, 275, 0, 275, 275, 275, 274, 275, 275, 277, 277, 277, 1, 277, 1, 1, 0, 276, 276, 276, 276, 275, 0, 275, 275, 275, 274, 275, 275, 277, 277, 277, 1, 277, 1, 1, 0, 276, 276, 276, 276, 275, 0, 275, 275, 275, 274, 275, 275, 285, 257, 257, 277, 277, 277, 257, 276, 276, 0, 276, 286, 286, 286, 0, 286, 286, 286, 276, 286, 286, 286, 278, 278, 278, 0, 278, 289, 289, 0, 289, 289, 289, 278, 289, 289, 289, 0, 289, 289, 289, 278, 289, 289, 289, 0, 289, 289, 289, 278, 289, 289, 291, 288, 288, 288, 288, 3, 0, 288, 0, 0, 0, 1, 0, 1, 3, 0, 288, 0, 0, 0, 1, 0, 1, 0, 287, 287, 287, 287, 286, 0, 286, 286, 286, 276, 286, 286, 286, 279, 279, 279, 0, 279, 292, 292, 0, 292, 292, 292, 279, 292, 292, 292, 0, 292, 292, 292, 279, 292, 292, 292, 0, 292, 292, 292, 279, 292, 292, 294, 288, 288, 288, 288, 3, 0, 288, 0, 0, 0, 1, 0, 1, 3, 0, 288, 0, 0, 0, 1, 0, 1, 0, 287, 287, 287, 287, 286, 0, 286, 286, 286, 276, 286, 286, 286, 280, 280, 280, 0, 280, 295, 295, 0, 295, 295, 295, 280, 295, 295, 295, 0, 295, 295, 295, 280, 295, 295, 295, 0, 295, 295, 295, 280, 295, 295, 297, 288, 288, 288, 288, 3, 0, 288, 0, 0, 0, 1, 0, 1, 3, 0, 288, 0, 0, 0, 1, 0, 1, 0, 287, 287, 287, 287, 286, 0, 286, 286, 286, 276, 286, 286, 286, 281, 281, 281, 0, 281, 298, 298, 0, 298, 298, 298, 281, 298, 298, 298, 0, 298, 298, 298, 281, 298, 298, 298, 0, 298, 298, 298, 281, 298, 298, 300, 288, 288, 288, 288, 3, 0, 288, 0, 0, 0, 1, 0, 1, 3, 0, 288, 0, 0, 0, 1, 0, 1, 0, 287, 287, 287, 287, 286, 0, 286, 286, 286, 276, 286, 286, 286, 282, 282, 282, 0, 282, 301, 301, 0, 301, 301, 301, 282, 301, 301, 301, 0, 301, 301, 301, 282, 301, 301, 301, 0, 301, 301, 301, 282, 301, 301, 303, 288, 288, 288, 288, 3, 0, 288, 0, 0, 0, 1, 0, 1, 3, 0, 288, 0, 0, 0, 1, 0, 1, 0, 287, 287, 287, 287, 286, 0, 286, 286, 286, 276, 286, 286, 286, 283, 283, 283, 0, 283, 304, 304, 0, 304, 304, 304, 283, 304, 304, 304, 0, 304, 304, 304, 283, 304, 304, 304, 0, 304, 304, 304, 283, 304, 304, 306, 288, 288, 288, 288, 3, 0, 288, 0, 0, 0, 1, 0, 1, 3, 0, 288, 0, 0, 0, 1, 0, 1, 0, 287, 287, 287, 287, 286, 0, 286, 286, 286, 276, 286, 286, 308, 288, 288, 288, 288, 288, 288, 259, 259, 3, 0, 0, 0, 309, 309, 0, 309, 309, 309, 309, 0, 309, 309, 309, 309, 310, 310, 310, 0, 310, 310, 310, 310, 310, 310, 310, 310, 312, 312, 3, 259, 312, 287, 287, 287, 0, 287, 287, 258, 312, 274, 274, 274, 0, 274, 274, 1, 110, 1, 0, 311, 311, 311, 311, 310, 0, 310, 310, 310, 310, 310, 310, 310, 310, 312, 312, 3, 259, 312, 287, 287, 287, 0, 287, 287, 258, 312, 274, 274, 274, 0, 274, 274, 1, 110, 1, 0, 311, 311, 311, 311, 310, 0, 310, 310, 310, 310, 310, 310, 310, 310, 312, 312, 3, 259, 312, 287, 287, 287, 0, 287, 287, 258, 312, 274, 274, 274, 0, 274, 274, 1, 110, 1, 0, 311, 311, 311, 311, 310, 0, 310, 310, 310, 310, 310, 310, 310, 310, 312, 312, 3, 259, 312, 287, 287, 287, 0, 287, 287, 258, 312, 274, 274, 274, 0, 274, 274, 1, 110, 1, 0, 311, 311, 311, 311, 310, 0, 310, 310, 310, 310, 310, 310, 310, 310, 312, 312, 3, 259, 312, 287, 287, 287, 0, 287, 287, 258, 312, 274, 274, 274, 0, 274, 274, 1, 110, 1, 0, 311, 311, 311, 311, 310, 0, 310, 310, 310, 310, 310, 310, 310, 310, 312, 312, 3, 259, 312, 287, 287, 287, 0, 287, 287, 258, 312, 274, 274, 274, 0, 274, 274, 1, 110, 1, 0, 311, 311, 311, 311, 310, 0, 310, 310, 310, 310, 314, 312, 312, 312, 1, 257, 257, 0, 0, 0, 0, 260, 260, 0, 261, 261, 3, 0, 257, 276, 276, 0, 276, 323, 1, 325, 325, 325, 325, 325, 325, 1, 257, 257, 3, 0, 257, 276, 276, 0, 276, 326, 1, 328, 328, 328, 328, 328, 328, 1, 257, 257, 3, 257, 257, 134, 1, 257, 257, 3, 257, 105, 0, 105, 104, 331, 331, 2, 332, 332, 104, 256, 256, 256, 256, 3, 4, 3, 330, 330, 104, 256, 256, 256, 256, 3, 4, 3, 330, 330, 330, 330, 348, 0, 348, 348, 348, 348, 348, 349, 349, 349, 3, 330, 94, 94, 0, 94, 94, 94, 94, 94, 94, 0, 94, 94, 94, 94, 94, 94, 94, 94, 94, 94, 94, 94, 94, 94, 94, 94, 94, 93, 94, 94, 351, 94, 351, 94, 94, 93, 70, 0, 70, 69, 352, 352, 352, 352, 2, 352, 351, 94, 94, 93, 0, 351, 94, 351, 94, 351, 94, 94, 93, 351, 94, 350, 350, 350, 352, 352, 351, 94, 94, 93, 0, 351, 94, 351, 94, 351, 94, 94, 93, 351, 94, 350, 350, 350, 352, 351, 94, 94, 93, 0, 351, 94, 351, 94, 351, 94, 94, 93, 351, 94, 350, 350, 350, 352, 351, 94, 94, 93, 0, 351, 94, 351, 94, 351, 94, 94, 93, 351, 94, 350, 350, 350, 257, 257, 3, 257, 122, 1, 356, 356, 356, 0, 356, 357, 357, 0, 357, 357, 357, 356, 357, 357, 357, 0, 357, 357, 357, 356, 357, 357, 357, 0, 357, 357, 357, 356, 357, 357, 359, 257, 257, 257, 257, 257, 257, 354, 329, 354, 1, 257, 259, 355, 287, 355, 1, 257, 351, 94, 94, 93, 0, 351, 94, 94, 93, 351, 351, 94, 350, 257, 1, 1, 1, 3, 257, 127, 1, 257, 360, 329, 360, 1]
noncomputable def eLw (w : World) (pc : Pos) (f g2 g3 g4 g5 : Nat) (c0 c1 c2 c3 c4 c5 p0 p1 p2 p3 p4 p5 e0 e1 e2 e3 e4 e5 y0 y1 y2 y3 y4 y5 d0 d1 d2 d3 d4 d5 LN CN : Int) (s0 s1 s2 s3 s4 s5 tx : Str) (τ0 τ1 τ2 τ3 τ4 τ5 : Nat) (alA tkA : Nat → Nat) : RLog := .goto (some (alA 19)) (some ((alA 19), { cls := (.type "list_iterator"), dict := none, data := (.fields #[(.ref (alA 18)), (.int 0 0)]), slots := #[] })) <| .call (.bi 116512097088030077292474218 [(.int d0 τ0), (.int 6 (tkA 65))]) none 22 66 [] (orcV fun t => .int c0 t) fun alB1 tkB1 => .call (.bi 128106770130096871752080967664072486762 [(.int d0 τ0), (.int 6 (tkB1 67))]) none 22 68 [] (orcV fun t => .int e0 t) fun alB2 tkB2 => .call (.bi 116512097088030077292474218 [(.int e0 (tkB2 68)), (.int 3 (tkB2 69))]) none 22 70 [] (orcV fun t => .int p0 t) fun alB3 tkB3 => .call (.bi 116512097088030077292474218 [(.int d1 τ1), (.int 6 (tkB3 72))]) none 23 73 [] (orcV fun t => .int c1 t) fun alB4 tkB4 => .call (.bi 128106770130096871752080967664072486762 [(.int d1 τ1), (.int 6 (tkB4 74))]) none 23 75 [] (orcV fun t => .int e1 t) fun alB5 tkB5 => .call (.bi 116512097088030077292474218 [(.int e1 (tkB5 75)), (.int 3 (tkB5 76))]) none 23 77 [] (orcV fun t => .int p1 t) fun alB6 tkB6 => .call (.bi 116512097088030077292474218 [(.int d2 τ2), (.int 6 (tkB6 79))]) none 24 80 [] (orcV fun t => .int c2 t) fun alB7 tkB7 => .call (.bi 128106770130096871752080967664072486762 [(.int d2 τ2), (.int 6 (tkB7 81))]) none 24 82 [] (orcV fun t => .int e2 t) fun alB8 tkB8 => .call (.bi 116512097088030077292474218 [(.int e2 (tkB8 82)), (.int 3 (tkB8 83))]) none 24 84 [] (orcV fun t => .int p2 t) fun alB9 tkB9 => .call (.bi 116512097088030077292474218 [(.int d3 τ3), (.int 6 (tkB9 86))]) none 25 87 [] (orcV fun t => .int c3 t) fun alB10 tkB10 => .call (.bi 128106770130096871752080967664072486762 [(.int d3 τ3), (.int 6 (tkB10 88))]) none 25 89 [] (orcV fun t => .int e3 t) fun alB11 tkB11 => .call (.bi 116512097088030077292474218 [(.int e3 (tkB11 89)), (.int 3 (tkB11 90))]) none 25 91 [] (orcV fun t => .int p3 t) fun alB12 tkB12 => .call (.bi 116512097088030077292474218 [(.int d4 τ4), (.int 6 (tkB12 93))]) none 26 94 [] (orcV fun t => .int c4 t) fun alB13 tkB13 => .call (.bi 128106770130096871752080967664072486762 [(.int d4 τ4), (.int 6 (tkB13 95))]) none 26 96 [] (orcV fun t => .int e4 t) fun alB14 tkB14 => .call (.bi 116512097088030077292474218 [(.int e4 (tkB14 96)), (.int 3 (tkB14 97))]) none 26 98 [] (orcV fun t => .int p4 t) fun alB15 tkB15 => .call (.bi 116512097088030077292474218 [(.int d5 τ5), (.int 6 (tkB15 100))]) none 27 101 [] (orcV fun t => .int c5 t) fun alB16 tkB16 => .call (.bi 128106770130096871752080967664072486762 [(.int d5 τ5), (.int 6 (tkB16 102))]) none 27 103 [] (orcV fun t => .int e5 t) fun alB17 tkB17 => .call (.bi 116512097088030077292474218 [(.int e5 (tkB17 103)), (.int 3 (tkB17 104))]) none 27 105 [] (orcV fun t => .int p5 t) fun alB18 tkB18 => .goto (some (alB18 30)) (some ((alB18 30), { cls := (.type "list_iterator"), dict := none, data := (.fields #[(.ref (alA 20)), (.int 0 0)]), slots := #[] })) <| .call (.bi 29827162985542091517149409130 [(.int c0 (tkB1 66))]) none 36 109 [] (orcV fun t => .str (rp c0) t) fun alB19 tkB19 => .call (.bi 116512096292018843154609524 [(.str (rp c0) (tkB19 109)), (.str ⟨#[32]⟩ (tkB19 110))]) none 36 111 [] (orcV fun t => .str (rp c0 ++ ⟨#[32]⟩) t) fun alB20 tkB20 => .call (.bi 29827162985542091517149409130 [(.int p0 (tkB3 70))]) none 36 112 [] (orcV fun t => .str (rp p0) t) fun alB21 tkB21 => .call (.bi 116512096292018843154609524 [(.str (rp c0 ++ ⟨#[32]⟩) (tkB20 111)), (.str (rp p0) (tkB21 112))]) none 36 113 [] (orcV fun t => .str (wordS c0 p0) t) fun alB22 tkB22 => .call (.bi 29827162985542091517149409130 [(.int c1 (tkB4 73))]) none 39 116 [] (orcV fun t => .str (rp c1) t) fun alB23 tkB23 => .call (.bi 116512096292018843154609524 [(.str (rp c1) (tkB23 116)), (.str ⟨#[32]⟩ (tkB23 117))]) none 39 118 [] (orcV fun t => .str (rp c1 ++ ⟨#[32]⟩) t) fun alB24 tkB24 => .call (.bi 29827162985542091517149409130 [(.int p1 (tkB6 77))]) none 39 119 [] (orcV fun t => .str (rp p1) t) fun alB25 tkB25 => .call (.bi 116512096292018843154609524 [(.str (rp c1 ++ ⟨#[32]⟩) (tkB24 118)), (.str (rp p1) (tkB25 119))]) none 39 120 [] (orcV fun t => .str (wordS c1 p1) t) fun alB26 tkB26 => .call (.bi 29827162985542091517149409130 [(.int c2 (tkB7 80))]) none 42 123 [] (orcV fun t => .str (rp c2) t) fun alB27 tkB27 => .call (.bi 116512096292018843154609524 [(.str (rp c2) (tkB27 123)), (.str ⟨#[32]⟩ (tkB27 124))]) none 42 125 [] (orcV fun t => .str (rp c2 ++ ⟨#[32]⟩) t) fun alB28 tkB28 => .call (.bi 29827162985542091517149409130 [(.int p2 (tkB9 84))]) none 42 126 [] (orcV fun t => .str (rp p2) t) fun alB29 tkB29 => .call (.bi 116512096292018843154609524 [(.str (rp c2 ++ ⟨#[32]⟩) (tkB28 125)), (.str (rp p2) (tkB29 126))]) none 42 127 [] (orcV fun t => .str (wordS c2 p2) t) fun alB30 tkB30 => .call (.bi 29827162985542091517149409130 [(.int c3 (tkB10 87))]) none 45 130 [] (orcV fun t => .str (rp c3) t) fun alB31 tkB31 => .call (.bi 116512096292018843154609524 [(.str (rp c3) (tkB31 130)), (.str ⟨#[32]⟩ (tkB31 131))]) none 45 132 [] (orcV fun t => .str (rp c3 ++ ⟨#[32]⟩) t) fun alB32 tkB32 => .call (.bi 29827162985542091517149409130 [(.int p3 (tkB12 91))]) none 45 133 [] (orcV fun t => .str (rp p3) t) fun alB33 tkB33 => .call (.bi 116512096292018843154609524 [(.str (rp c3 ++ ⟨#[32]⟩) (tkB32 132)), (.str (rp p3) (tkB33 133))]) none 45 134 [] (orcV fun t => .str (wordS c3 p3) t) fun alB34 tkB34 => .call (.bi 29827162985542091517149409130 [(.int c4 (tkB13 94))]) none 48 137 [] (orcV fun t => .str (rp c4) t) fun alB35 tkB35 => .call (.bi 116512096292018843154609524 [(.str (rp c4) (tkB35 137)), (.str ⟨#[32]⟩ (tkB35 138))]) none 48 139 [] (orcV fun t => .str (rp c4 ++ ⟨#[32]⟩) t) fun alB36 tkB36 => .call (.bi 29827162985542091517149409130 [(.int p4 (tkB15 98))]) none 48 140 [] (orcV fun t => .str (rp p4) t) fun alB37 tkB37 => .call (.bi 116512096292018843154609524 [(.str (rp c4 ++ ⟨#[32]⟩) (tkB36 139)), (.str (rp p4) (tkB37 140))]) none 48 141 [] (orcV fun t => .str (wordS c4 p4) t) fun alB38 tkB38 => .call (.bi 29827162985542091517149409130 [(.int c5 (tkB16 101))]) none 51 144 [] (orcV fun t => .str (rp c5) t) fun alB39 tkB39 => .call (.bi 116512096292018843154609524 [(.str (rp c5) (tkB39 144)), (.str ⟨#[32]⟩ (tkB39 145))]) none 51 146 [] (orcV fun t => .str (rp c5 ++ ⟨#[32]⟩) t) fun alB40 tkB40 => .call (.bi 29827162985542091517149409130 [(.int p5 (tkB18 105))]) none 51 147 [] (orcV fun t => .str (rp p5) t) fun alB41 tkB41 => .call (.bi 116512096292018843154609524 [(.str (rp c5 ++ ⟨#[32]⟩) (tkB40 146)), (.str (rp p5) (tkB41 147))]) none 51 148 [] (orcV fun t => .str (wordS c5 p5) t) fun alB42 tkB42 => .goto (some (alB42 54)) (some ((alB42 54), { cls := (.type "range_iterator"), dict := none, data := (.fields #[(.int 0 0), (.int 6 0), (.int 1 0)]), slots := #[] })) <| .call (.bi 128106770130096871752080967664072486762 [(.int d0 τ0), (.int 18 (tkB42 155))]) none 57 156 [] (orcV fun t => .int y0 t) fun alB43 tkB43 => .call (.fn 110 [(.str (wordS c0 p0) (tkB22 113)), (.int y0 (tkB43 156))]) (some ((spX f g2 g3 g4 g5 (alB42 54) (alB42 55) (alB42 56) ⟨185, 20, 185, 58⟩ ⟨185, 68, 185, 76⟩ pc).ctx (splC (wordS c0 p0) (tkB22 113) y0 (tkB43 156)), ⟨185, 20, 185, 58⟩)) 57 157 [] (oSpl s0) fun alB44 tkB44 => .call (.bi 128106770130096871752080967664072486762 [(.int d1 τ1), (.int 18 (tkB44 160))]) none 57 161 [] (orcV fun t => .int y1 t) fun alB45 tkB45 => .call (.fn 110 [(.str (wordS c1 p1) (tkB26 120)), (.int y1 (tkB45 161))]) (some ((spX f g2 g3 g4 g5 (alB42 54) (alB42 55) (alB42 56) ⟨185, 20, 185, 58⟩ ⟨185, 68, 185, 76⟩ pc).ctx (splC (wordS c1 p1) (tkB26 120) y1 (tkB45 161)), ⟨185, 20, 185, 58⟩)) 57 162 [] (oSpl s1) fun alB46 tkB46 => .call (.bi 128106770130096871752080967664072486762 [(.int d2 τ2), (.int 18 (tkB46 165))]) none 57 166 [] (orcV fun t => .int y2 t) fun alB47 tkB47 => .call (.fn 110 [(.str (wordS c2 p2) (tkB30 127)), (.int y2 (tkB47 166))]) (some ((spX f g2 g3 g4 g5 (alB42 54) (alB42 55) (alB42 56) ⟨185, 20, 185, 58⟩ ⟨185, 68, 185, 76⟩ pc).ctx (splC (wordS c2 p2) (tkB30 127) y2 (tkB47 166)), ⟨185, 20, 185, 58⟩)) 57 167 [] (oSpl s2) fun alB48 tkB48 => .call (.bi 128106770130096871752080967664072486762 [(.int d3 τ3), (.int 18 (tkB48 170))]) none 57 171 [] (orcV fun t => .int y3 t) fun alB49 tkB49 => .call (.fn 110 [(.str (wordS c3 p3) (tkB34 134)), (.int y3 (tkB49 171))]) (some ((spX f g2 g3 g4 g5 (alB42 54) (alB42 55) (alB42 56) ⟨185, 20, 185, 58⟩ ⟨185, 68, 185, 76⟩ pc).ctx (splC (wordS c3 p3) (tkB34 134) y3 (tkB49 171)), ⟨185, 20, 185, 58⟩)) 57 172 [] (oSpl s3) fun alB50 tkB50 => .call (.bi 128106770130096871752080967664072486762 [(.int d4 τ4), (.int 18 (tkB50 175))]) none 57 176 [] (orcV fun t => .int y4 t) fun alB51 tkB51 => .call (.fn 110 [(.str (wordS c4 p4) (tkB38 141)), (.int y4 (tkB51 176))]) (some ((spX f g2 g3 g4 g5 (alB42 54) (alB42 55) (alB42 56) ⟨185, 20, 185, 58⟩ ⟨185, 68, 185, 76⟩ pc).ctx (splC (wordS c4 p4) (tkB38 141) y4 (tkB51 176)), ⟨185, 20, 185, 58⟩)) 57 177 [] (oSpl s4) fun alB52 tkB52 => .call (.bi 128106770130096871752080967664072486762 [(.int d5 τ5), (.int 18 (tkB52 180))]) none 57 181 [] (orcV fun t => .int y5 t) fun alB53 tkB53 => .call (.fn 110 [(.str (wordS c5 p5) (tkB42 148)), (.int y5 (tkB53 181))]) (some ((spX f g2 g3 g4 g5 (alB42 54) (alB42 55) (alB42 56) ⟨185, 20, 185, 58⟩ ⟨185, 68, 185, 76⟩ pc).ctx (splC (wordS c5 p5) (tkB42 148) y5 (tkB53 181)), ⟨185, 20, 185, 58⟩)) 57 182 [] (oSpl s5) fun alB54 tkB54 => .call (.bi 8028352891401237876 [(.str ⟨#[]⟩ (tkB42 149)), (.ref (alB42 55))]) none 59 183 [some ((alB42 55), lsV (strValues [(s0, (tkB44 157)), (s1, (tkB46 162)), (s2, (tkB48 167)), (s3, (tkB50 172)), (s4, (tkB52 177)), (s5, (tkB54 182))]) 6)] (orcU [55] (fun t => .str tx t) (fun _ => [])) fun alB55 tkB55 => .call (.other (cmC 6 (alB55 67) (alB55 68) (alB55 69) g5 g4 f)) (some ((lwY f g2 g3 g4 g5 ⟨188, 73, 188, 78⟩ pc).ctx (cmC 6 (alB55 67) (alB55 68) (alB55 69) g5 g4 f), ⟨188, 73, 188, 78⟩)) 70 205 [some ((alB55 67), itO (alA 20)), some ((alB55 68), lsV [] 0), some ((alB55 69), dcO 0), some ((alA 20), lsV (iRefs (alB3 22) (alB6 23) (alB9 24) (alB12 25) (alB15 26) (alB18 27)) 6), some ((alB3 22), prO c0 (tkB1 66) p0 (tkB3 70)), some ((alB6 23), prO c1 (tkB4 73) p1 (tkB6 77)), some ((alB9 24), prO c2 (tkB7 80) p2 (tkB9 84)), some ((alB12 25), prO c3 (tkB10 87) p3 (tkB12 91)), some ((alB15 26), prO c4 (tkB13 94) p4 (tkB15 98)), some ((alB18 27), prO c5 (tkB16 101) p5 (tkB18 105)), some ((alB55 65), lsV (iRefs (alB55 59) (alB55 60) (alB55 61) (alB55 62) (alB55 63) (alB55 64)) 0), some ((alB55 59), twoI 1 (tkB55 185) 0 (tkB55 186)), some ((alB55 60), twoI 1 (tkB55 187) 1 (tkB55 188)), some ((alB55 61), twoI 0 (tkB55 189) 1 (tkB55 190)), some ((alB55 62), twoI (-1) (tkB55 192) 0 (tkB55 193)), some ((alB55 63), twoI (-1) (tkB55 195) (-1) (tkB55 197)), some ((alB55 64), twoI 0 (tkB55 198) (-1) (tkB55 200)), some ((alB55 66), lsV (weV (tkB55 201) (tkB55 203) (tkB55 204)) 0), some (g5, celO (alB55 66)), some (g4, celO (alB55 65))] (oCmp w [67, 68, 69, 20, 22, 23, 24, 25, 26, 27, 65, 59, 60, 61, 62, 63, 64, 66, 5, 4] (fun z => [.int (cvA c0 * wt p0) (z 0), .int (cvA c1 * wt p1) (z 1), .int (cvA c2 * wt p2) (z 2), .int (cvA c3 * wt p3) (z 3), .int (cvA c4 * wt p4) (z 4), .int (cvA c5 * wt p5) (z 5)]) c5 p5) fun alB56 tkB56 => .call (.bi 7239284 [(.ref (alB55 68))]) (some ((lwY f g2 g3 g4 g5 ⟨188, 12, 188, 80⟩ pc).ctx (sumC (alB55 68)), ⟨188, 12, 188, 80⟩)) 70 215 [some ((alB55 68), lsV [(.int (cvA c0 * wt p0) (tkB56 205)), (.int (cvA c1 * wt p1) (tkB56 206)), (.int (cvA c2 * wt p2) (tkB56 207)), (.int (cvA c3 * wt p3) (tkB56 208)), (.int (cvA c4 * wt p4) (tkB56 209)), (.int (cvA c5 * wt p5) (tkB56 210))] 6)] (oSum 68 (0 + cvA c0 * wt p0 + cvA c1 * wt p1 + cvA c2 * wt p2 + cvA c3 * wt p3 + cvA c4 * wt p4 + cvA c5 * wt p5)) fun alB57 tkB57 => .call (.other (cmC 7 (alB57 70) (alB57 71) (alB57 72) g5 g4 f)) (some ((lwY f g2 g3 g4 g5 ⟨189, 74, 189, 79⟩ pc).ctx (cmC 7 (alB57 70) (alB57 71) (alB57 72) g5 g4 f), ⟨189, 74, 189, 79⟩)) 73 217 [some ((alB57 70), itO (alA 20)), some ((alB57 71), lsV [] 0), some ((alB57 72), dcO 0), some ((alA 20), lsV (iRefs (alB3 22) (alB6 23) (alB9 24) (alB12 25) (alB15 26) (alB18 27)) 6), some ((alB3 22), prO c0 (tkB1 66) p0 (tkB3 70)), some ((alB6 23), prO c1 (tkB4 73) p1 (tkB6 77)), some ((alB9 24), prO c2 (tkB7 80) p2 (tkB9 84)), some ((alB12 25), prO c3 (tkB10 87) p3 (tkB12 91)), some ((alB15 26), prO c4 (tkB13 94) p4 (tkB15 98)), some ((alB18 27), prO c5 (tkB16 101) p5 (tkB18 105)), some ((alB55 65), lsV (iRefs (alB55 59) (alB55 60) (alB55 61) (alB55 62) (alB55 63) (alB55 64)) 0), some ((alB55 59), twoI 1 (tkB55 185) 0 (tkB55 186)), some ((alB55 60), twoI 1 (tkB55 187) 1 (tkB55 188)), some ((alB55 61), twoI 0 (tkB55 189) 1 (tkB55 190)), some ((alB55 62), twoI (-1) (tkB55 192) 0 (tkB55 193)), some ((alB55 63), twoI (-1) (tkB55 195) (-1) (tkB55 197)), some ((alB55 64), twoI 0 (tkB55 198) (-1) (tkB55 200)), some ((alB55 66), lsV (weV (tkB55 201) (tkB55 203) (tkB55 204)) 0), some (g5, celO (alB55 66)), some (g4, celO (alB55 65))] (oCmp w [70, 71, 72, 20, 22, 23, 24, 25, 26, 27, 65, 59, 60, 61, 62, 63, 64, 66, 5, 4] (fun z => [.int (cvB c0 * wt p0) (z 0), .int (cvB c1 * wt p1) (z 1), .int (cvB c2 * wt p2) (z 2), .int (cvB c3 * wt p3) (z 3), .int (cvB c4 * wt p4) (z 4), .int (cvB c5 * wt p5) (z 5)]) c5 p5) fun alB58 tkB58 => .call (.bi 7239284 [(.ref (alB57 71))]) (some ((lwY f g2 g3 g4 g5 ⟨189, 13, 189, 81⟩ pc).ctx (sumC (alB57 71)), ⟨189, 13, 189, 81⟩)) 73 227 [some ((alB57 71), lsV [(.int (cvB c0 * wt p0) (tkB58 217)), (.int (cvB c1 * wt p1) (tkB58 218)), (.int (cvB c2 * wt p2) (tkB58 219)), (.int (cvB c3 * wt p3) (tkB58 220)), (.int (cvB c4 * wt p4) (tkB58 221)), (.int (cvB c5 * wt p5) (tkB58 222))] 6)] (oSum 71 (0 + cvB c0 * wt p0 + cvB c1 * wt p1 + cvB c2 * wt p2 + cvB c3 * wt p3 + cvB c4 * wt p4 + cvB c5 * wt p5)) fun alB59 tkB59 => .call (.fn 134 [(.int (0 + cvA c0 * wt p0 + cvA c1 * wt p1 + cvA c2 * wt p2 + cvA c3 * wt p3 + cvA c4 * wt p4 + cvA c5 * wt p5) (tkB57 215)), (.int (0 + cvB c0 * wt p0 + cvB c1 * wt p1 + cvB c2 * wt p2 + cvB c3 * wt p3 + cvB c4 * wt p4 + cvB c5 * wt p5) (tkB59 227))]) (some ((lwY f g2 g3 g4 g5 ⟨190, 10, 190, 33⟩ pc).ctx (dueC (0 + cvA c0 * wt p0 + cvA c1 * wt p1 + cvA c2 * wt p2 + cvA c3 * wt p3 + cvA c4 * wt p4 + cvA c5 * wt p5) (tkB57 215) (0 + cvB c0 * wt p0 + cvB c1 * wt p1 + cvB c2 * wt p2 + cvB c3 * wt p3 + cvB c4 * wt p4 + cvB c5 * wt p5) (tkB59 227)), ⟨190, 10, 190, 33⟩)) 73 229 [] (oDueL) fun alB60 tkB60 => .call (.fn 122 [.ref (lwLX alB60 tkB55 tkB60).lx]) (some ((lwY f g2 g3 g4 g5 ⟨192, 17, 192, 36⟩ pc).ctx (rdC (lwLX alB60 tkB55 tkB60).lx), ⟨192, 17, 192, 36⟩)) 98 264 [some ((lwLX alB60 tkB55 tkB60).ld, ldO w (lwLX alB60 tkB55 tkB60) 1 (tkB60 253)), some ((lwLX alB60 tkB55 tkB60).ai, aiO 0 (tkB60 232)), some ((lwLX alB60 tkB55 tkB60).pb, pbO [] 0), some ((lwLX alB60 tkB55 tkB60).lx, lxO (lwLX alB60 tkB55 tkB60)), some ((lwLX alB60 tkB55 tkB60).fs, fsO (lwLX alB60 tkB55 tkB60)), some ((lwLX alB60 tkB55 tkB60).sd, sdO w (lwLX alB60 tkB55 tkB60)), some ((lwLX alB60 tkB55 tkB60).rf, rfO (lwLX alB60 tkB55 tkB60)), some ((lwLX alB60 tkB55 tkB60).cd, cdO (lwLX alB60 tkB55 tkB60)), some ((lwLX alB60 tkB55 tkB60).cT, cTO (lwLX alB60 tkB55 tkB60) tx), some ((lwLX alB60 tkB55 tkB60).cA, cAO (lwLX alB60 tkB55 tkB60))] (oRead w [94, 77, 97, 95, 92, 93, 85, 84, 75, 76] [wordS c0 p0, wordS c1 p1, wordS c2 p2, wordS c3 p3, wordS c4 p4, wordS c5 p5] LN) fun alB61 tkB61 => .call (.bi 116512115458775698010040933 [(.ref (alB61 98)), (.ref (alB60 73))]) none 104 281 [some ((alB61 98), dO (decL (tkB61 268)) (tkB61 269)), some ((alB60 73), dO (decL (tkB60 229)) (tkB60 230))] (orcU [98, 73] (fun _ => .bool false) (fun _ => [])) fun alB62 tkB62 => .call (.bi 116512115458775698011089517 [(.ref (alB61 99)), (.ref (alB18 31))]) none 104 282 [some ((alB61 99), lsV (strValues ([wordS c0 p0, wordS c1 p1, wordS c2 p2, wordS c3 p3, wordS c4 p4, wordS c5 p5].zip (decN (tkB61 270)))) (tkB61 271)), some ((alB18 31), lsV (strValues [((wordS c0 p0), (tkB22 113)), ((wordS c1 p1), (tkB26 120)), ((wordS c2 p2), (tkB30 127)), ((wordS c3 p3), (tkB34 134)), ((wordS c4 p4), (tkB38 141)), ((wordS c5 p5), (tkB42 148))]) 6)] (orcU [99, 31] (fun _ => .bool false) (fun _ => [])) fun alB63 tkB63 => .call (.bi 2166300787185074533748 [(.str tx (tkB55 183)), (.str ⟨#[10]⟩ (tkB63 284))]) none 104 285 [] (orcV fun t => .int CN t) fun alB64 tkB64 => .call (.bi 116512096292018843154739050 [(.int CN (tkB64 285)), (.int 1 (tkB64 286))]) none 104 287 [] (orcI fun x y => x + y) fun alB65 tkB65 => .call (.bi 455125451010842570354538 [(.int LN (tkB61 264)), (.int (CN + 1) (tkB65 287))]) none 104 288 [] (orcV fun _ => .bool false) fun alB66 tkB66 => .call (.fn 127 [(.ref (alA 20))]) (some ((lwY f g2 g3 g4 g5 ⟨195, 11, 195, 33⟩ pc).ctx (offC (alA 20)), ⟨195, 11, 195, 33⟩)) 104 289 [some ((alA 20), lsV (iRefs (alB3 22) (alB6 23) (alB9 24) (alB12 25) (alB15 26) (alB18 27)) 6), some ((alB3 22), prO c0 (tkB1 66) p0 (tkB3 70)), some ((alB6 23), prO c1 (tkB4 73) p1 (tkB6 77)), some ((alB9 24), prO c2 (tkB7 80) p2 (tkB9 84)), some ((alB12 25), prO c3 (tkB10 87) p3 (tkB12 91)), some ((alB15 26), prO c4 (tkB13 94) p4 (tkB15 98)), some ((alB18 27), prO c5 (tkB16 101) p5 (tkB18 105))] (oOff [20, 22, 23, 24, 25, 26, 27]) fun alB67 tkB67 => .call (.bi 116512336171186236183308901 [(.ref (alB67 104)), (.ref (alB60 73))]) none 105 291 [some ((alB67 104), dO (decL (tkB67 289)) (tkB67 290)), some ((alB60 73), dO (decL (tkB60 229)) (tkB60 230))] (orcU [104, 73] (fun _ => .bool true) (fun _ => [])) fun alB68 tkB68 => .ret (.ok (.ret (.bool true))) [some (100, o100E (alB60 84) (alB60 91))]
noncomputable def trLw0 : List Nat := [139, 138, 257, 257, 2, 257, 1256, 1256, 1256, 1, 263, 263, 0, 263, 264, 264, 264, 0, 264, 264, 264, 263, 264, 264, 268] ++ trLw
noncomputable def eLw0 (w : World) (pc p : Pos) (sc ep : Nat) (c0 c1 c2 c3 c4 c5 p0 p1 p2 p3 p4 p5 e0 e1 e2 e3 e4 e5 y0 y1 y2 y3 y4 y5 d0 d1 d2 d3 d4 d5 LN CN : Int) (s0 s1 s2 s3 s4 s5 tx : Str) (vs : List Value) (al0 tk0 : Nat → Nat) : RLog := .call (.bi 128106587276438692081757506308484131437 [(.ref sc), (.ref (al0 6))]) none 7 2 [some ((al0 6), slT 6 (tk0 1))] (oNew [6] []) fun al1 tk1 => .goto (some (al1 8)) (some ((al1 8), { cls := (.type "list_iterator"), dict := none, data := (.fields #[(.ref (al1 7)), (.int 0 0)]), slots := #[] })) <| .call (.bi 128106587276438692081757506308484131437 [(.ref sc), (.ref (al1 14))]) none 15 9 [some ((al1 14), slT 6 (tk1 8))] (oNew [14] []) fun al2 tk2 => .call (.bi 29827096650756823847613524589 [(.ref (al1 9)), (.ref (al2 17))]) none 18 11 [some ((al1 9), lsV [] 0), some ((al2 17), lsV [(.int 0 (tk1 2)), (.int 18 (tk1 3)), (.int 38 (tk1 4)), (.int 9 (tk1 5)), (.int 23 (tk1 6)), (.int 49 (tk1 7))] 0)] (oAdd6 9 17 d0 d1 d2 d3 d4 d5 53) fun al3 tk3 => eLw w pc (al0 1) (al0 2) (al0 3) (al0 4) (al0 5) c0 c1 c2 c3 c4 c5 p0 p1 p2 p3 p4 p5 e0 e1 e2 e3 e4 e5 y0 y1 y2 y3 y4 y5 d0 d1 d2 d3 d4 d5 LN CN s0 s1 s2 s3 s4 s5 tx (tk3 11) (tk3 12) (tk3 13) (tk3 14) (tk3 15) (tk3 16) al3 tk3
noncomputable def osLw0 (w : World) (c0 c1 c2 c3 c4 c5 p0 p1 p2 p3 p4 p5 e0 e1 e2 e3 e4 e5 y0 y1 y2 y3 y4 y5 d0 d1 d2 d3 d4 d5 LN CN : Int) (s0 s1 s2 s3 s4 s5 tx : Str) (al0 tk0 : Nat → Nat) : List Orc := [oNew [6] [], oNew [14] [], oAdd6 9 17 d0 d1 d2 d3 d4 d5 53] ++ osLw w c0 c1 c2 c3 c4 c5 p0 p1 p2 p3 p4 p5 e0 e1 e2 e3 e4 e5 y0 y1 y2 y3 y4 y5 d0 d1 d2 d3 d4 d5 LN CN s0 s1 s2 s3 s4 s5 tx
noncomputable def trLw1 : List Nat := [139, 138, 257, 257, 2, 257, 1256, 1256, 1256, 1, 263, 263, 0, 263, 264, 264, 264, 0, 264, 264, 264, 263, 264, 264, 266, 266, 266, 1, 0, 265, 265, 265, 265, 264, 0, 264, 264, 264, 263, 264, 264, 268, 266, 266] ++ trLw
noncomputable def eLw1 (w : World) (pc p : Pos) (sc ep t0 : Nat) (x0 : Int) (c0 c1 c2 c3 c4 c5 p0 p1 p2 p3 p4 p5 e0 e1 e2 e3 e4 e5 y0 y1 y2 y3 y4 y5 d0 d1 d2 d3 d4 d5 LN CN : Int) (s0 s1 s2 s3 s4 s5 tx : Str) (vs : List Value) (al0 tk0 : Nat → Nat) : RLog := .call (.bi 128106587276438692081757506308484131437 [(.ref sc), (.ref (al0 6))]) none 7 2 [some ((al0 6), slT 6 (tk0 1))] (oNew [6] [.int x0 t0]) fun al1 tk1 => .goto (some (al1 8)) (some ((al1 8), { cls := (.type "list_iterator"), dict := none, data := (.fields #[(.ref (al1 7)), (.int 0 0)]), slots := #[] })) <| .call (.bi 116512097088030077292474218 [(.int x0 t0), (.int 54 (tk1 3))]) none 11 4 [] (orcV fun t => .int d0 t) fun al2 tk2 => .call (.bi 128106587276438692081757506308484131437 [(.ref sc), (.ref (al2 14))]) none 15 12 [some ((al2 14), slT 6 (tk2 11))] (oNew [14] [.int x0 t0]) fun al3 tk3 => .call (.bi 29827096650756823847613524589 [(.ref (al1 9)), (.ref (al3 17))]) none 18 14 [some ((al1 9), lsV [(.int d0 (tk2 4))] 1), some ((al3 17), lsV [(.int 18 (tk2 6)), (.int 38 (tk2 7)), (.int 9 (tk2 8)), (.int 23 (tk2 9)), (.int 49 (tk2 10))] 0)] (oAdd6 9 17 d0 d1 d2 d3 d4 d5 50) fun al4 tk4 => eLw w pc (al0 1) (al0 2) (al0 3) (al0 4) (al0 5) c0 c1 c2 c3 c4 c5 p0 p1 p2 p3 p4 p5 e0 e1 e2 e3 e4 e5 y0 y1 y2 y3 y4 y5 d0 d1 d2 d3 d4 d5 LN CN s0 s1 s2 s3 s4 s5 tx (tk4 14) (tk4 15) (tk4 16) (tk4 17) (tk4 18) (tk4 19) al4 tk4
noncomputable def osLw1 (w : World) (x0 : Int) (t0 : Nat) (c0 c1 c2 c3 c4 c5 p0 p1 p2 p3 p4 p5 e0 e1 e2 e3 e4 e5 y0 y1 y2 y3 y4 y5 d0 d1 d2 d3 d4 d5 LN CN : Int) (s0 s1 s2 s3 s4 s5 tx : Str) (al0 tk0 : Nat → Nat) : List Orc := [oNew [6] [.int x0 t0], orcV fun t => .int d0 t, oNew [14] [.int x0 t0], oAdd6 9 17 d0 d1 d2 d3 d4 d5 50] ++ osLw w c0 c1 c2 c3 c4 c5 p0 p1 p2 p3 p4 p5 e0 e1 e2 e3 e4 e5 y0 y1 y2 y3 y4 y5 d0 d1 d2 d3 d4 d5 LN CN s0 s1 s2 s3 s4 s5 tx
noncomputable def trLw2 : List Nat := [139, 138, 257, 257, 2, 257, 1256, 1256, 1256, 1, 263, 263, 0, 263, 264, 264, 264, 0, 264, 264, 264, 263, 264, 264, 266, 266, 266, 1, 0, 265, 265, 265, 265, 264, 0, 264, 264, 264, 263, 264, 264, 266, 266, 266, 1, 0, 265, 265, 265, 265, 264, 0, 264, 264, 264, 263, 264, 264, 268, 266, 266] ++ trLw
noncomputable def eLw2 (w : World) (pc p : Pos) (sc ep t0 t1 : Nat) (x0 x1 : Int) (c0 c1 c2 c3 c4 c5 p0 p1 p2 p3 p4 p5 e0 e1 e2 e3 e4 e5 y0 y1 y2 y3 y4 y5 d0 d1 d2 d3 d4 d5 LN CN : Int) (s0 s1 s2 s3 s4 s5 tx : Str) (vs : List Value) (al0 tk0 : Nat → Nat) : RLog := .call (.bi 128106587276438692081757506308484131437 [(.ref sc), (.ref (al0 6))]) none 7 2 [some ((al0 6), slT 6 (tk0 1))] (oNew [6] [.int x0 t0, .int x1 t1]) fun al1 tk1 => .goto (some (al1 8)) (some ((al1 8), { cls := (.type "list_iterator"), dict := none, data := (.fields #[(.ref (al1 7)), (.int 0 0)]), slots := #[] })) <| .call (.bi 116512097088030077292474218 [(.int x0 t0), (.int 54 (tk1 3))]) none 11 4 [] (orcV fun t => .int d0 t) fun al2 tk2 => .call (.bi 116512097088030077292474218 [(.int x1 t1), (.int 54 (tk2 6))]) none 11 7 [] (orcV fun t => .int d1 t) fun al3 tk3 => .call (.bi 128106587276438692081757506308484131437 [(.ref sc), (.ref (al3 14))]) none 15 15 [some ((al3 14), slT 6 (tk3 14))] (oNew [14] [.int x0 t0, .int x1 t1]) fun al4 tk4 => .call (.bi 29827096650756823847613524589 [(.ref (al1 9)), (.ref (al4 17))]) none 18 17 [some ((al1 9), lsV [(.int d0 (tk2 4)), (.int d1 (tk3 7))] 2), some ((al4 17), lsV [(.int 38 (tk3 10)), (.int 9 (tk3 11)), (.int 23 (tk3 12)), (.int 49 (tk3 13))] 0)] (oAdd6 9 17 d0 d1 d2 d3 d4 d5 47) fun al5 tk5 => eLw w pc (al0 1) (al0 2) (al0 3) (al0 4) (al0 5) c0 c1 c2 c3 c4 c5 p0 p1 p2 p3 p4 p5 e0 e1 e2 e3 e4 e5 y0 y1 y2 y3 y4 y5 d0 d1 d2 d3 d4 d5 LN CN s0 s1 s2 s3 s4 s5 tx (tk5 17) (tk5 18) (tk5 19) (tk5 20) (tk5 21) (tk5 22) al5 tk5
noncomputable def osLw2 (w : World) (x0 x1 : Int) (t0 t1 : Nat) (c0 c1 c2 c3 c4 c5 p0 p1 p2 p3 p4 p5 e0 e1 e2 e3 e4 e5 y0 y1 y2 y3 y4 y5 d0 d1 d2 d3 d4 d5 LN CN : Int) (s0 s1 s2 s3 s4 s5 tx : Str) (al0 tk0 : Nat → Nat) : List Orc := [oNew [6] [.int x0 t0, .int x1 t1], orcV fun t => .int d0 t, orcV fun t => .int d1 t, oNew [14] [.int x0 t0, .int x1 t1], oAdd6 9 17 d0 d1 d2 d3 d4 d5 47] ++ osLw w c0 c1 c2 c3 c4 c5 p0 p1 p2 p3 p4 p5 e0 e1 e2 e3 e4 e5 y0 y1 y2 y3 y4 y5 d0 d1 d2 d3 d4 d5 LN CN s0 s1 s2 s3 s4 s5 tx
noncomputable def trLw3 : List Nat := [139, 138, 257, 257, 2, 257, 1256, 1256, 1256, 1, 263, 263, 0, 263, 264, 264, 264, 0, 264, 264, 264, 263, 264, 264, 266, 266, 266, 1, 0, 265, 265, 265, 265, 264, 0, 264, 264, 264, 263, 264, 264, 266, 266, 266, 1, 0, 265, 265, 265, 265, 264, 0, 264, 264, 264, 263, 264, 264, 266, 266, 266, 1, 0, 265, 265, 265, 265, 264, 0, 264, 264, 264, 263, 264, 264, 268, 266, 266] ++ trLw
noncomputable def eLw3 (w : World) (pc p : Pos) (sc ep t0 t1 t2 : Nat) (x0 x1 x2 : Int) (c0 c1 c2 c3 c4 c5 p0 p1 p2 p3 p4 p5 e0 e1 e2 e3 e4 e5 y0 y1 y2 y3 y4 y5 d0 d1 d2 d3 d4 d5 LN CN : Int) (s0 s1 s2 s3 s4 s5 tx : Str) (vs : List Value) (al0 tk0 : Nat → Nat) : RLog := .call (.bi 128106587276438692081757506308484131437 [(.ref sc), (.ref (al0 6))]) none 7 2 [some ((al0 6), slT 6 (tk0 1))] (oNew [6] [.int x0 t0, .int x1 t1, .int x2 t2]) fun al1 tk1 => .goto (some (al1 8)) (some ((al1 8), { cls := (.type "list_iterator"), dict := none, data := (.fields #[(.ref (al1 7)), (.int 0 0)]), slots := #[] })) <| .call (.bi 116512097088030077292474218 [(.int x0 t0), (.int 54 (tk1 3))]) none 11 4 [] (orcV fun t => .int d0 t) fun al2 tk2 => .call (.bi 116512097088030077292474218 [(.int x1 t1), (.int 54 (tk2 6))]) none 11 7 [] (orcV fun t => .int d1 t) fun al3 tk3 => .call (.bi 116512097088030077292474218 [(.int x2 t2), (.int 54 (tk3 9))]) none 11 10 [] (orcV fun t => .int d2 t) fun al4 tk4 => .call (.bi 128106587276438692081757506308484131437 [(.ref sc), (.ref (al4 14))]) none 15 18 [some ((al4 14), slT 6 (tk4 17))] (oNew [14] [.int x0 t0, .int x1 t1, .int x2 t2]) fun al5 tk5 => .call (.bi 29827096650756823847613524589 [(.ref (al1 9)), (.ref (al5 17))]) none 18 20 [some ((al1 9), lsV [(.int d0 (tk2 4)), (.int d1 (tk3 7)), (.int d2 (tk4 10))] 3), some ((al5 17), lsV [(.int 9 (tk4 14)), (.int 23 (tk4 15)), (.int 49 (tk4 16))] 0)] (oAdd6 9 17 d0 d1 d2 d3 d4 d5 44) fun al6 tk6 => eLw w pc (al0 1) (al0 2) (al0 3) (al0 4) (al0 5) c0 c1 c2 c3 c4 c5 p0 p1 p2 p3 p4 p5 e0 e1 e2 e3 e4 e5 y0 y1 y2 y3 y4 y5 d0 d1 d2 d3 d4 d5 LN CN s0 s1 s2 s3 s4 s5 tx (tk6 20) (tk6 21) (tk6 22) (tk6 23) (tk6 24) (tk6 25) al6 tk6
noncomputable def osLw3 (w : World) (x0 x1 x2 : Int) (t0 t1 t2 : Nat) (c0 c1 c2 c3 c4 c5 p0 p1 p2 p3 p4 p5 e0 e1 e2 e3 e4 e5 y0 y1 y2 y3 y4 y5 d0 d1 d2 d3 d4 d5 LN CN : Int) (s0 s1 s2 s3 s4 s5 tx : Str) (al0 tk0 : Nat → Nat) : List Orc := [oNew [6] [.int x0 t0, .int x1 t1, .int x2 t2], orcV fun t => .int d0 t, orcV fun t => .int d1 t, orcV fun t => .int d2 t, oNew [14] [.int x0 t0, .int x1 t1, .int x2 t2], oAdd6 9 17 d0 d1 d2 d3 d4 d5 44] ++ osLw w c0 c1 c2 c3 c4 c5 p0 p1 p2 p3 p4 p5 e0 e1 e2 e3 e4 e5 y0 y1 y2 y3 y4 y5 d0 d1 d2 d3 d4 d5 LN CN s0 s1 s2 s3 s4 s5 tx
noncomputable def trLw4 : List Nat := [139, 138, 257, 257, 2, 257, 1256, 1256, 1256, 1, 263, 263, 0, 263, 264, 264, 264, 0, 264, 264, 264, 263, 264, 264, 266, 266, 266, 1, 0, 265, 265, 265, 265, 264, 0, 264, 264, 264, 263, 264, 264, 266, 266, 266, 1, 0, 265, 265, 265, 265, 264, 0, 264, 264, 264, 263, 264, 264, 266, 266, 266, 1, 0, 265, 265, 265, 265, 264, 0, 264, 264, 264, 263, 264, 264, 266, 266, 266, 1, 0, 265, 265, 265, 265, 264, 0, 264, 264, 264, 263, 264, 264, 268, 266, 266] ++ trLw
noncomputable def eLw4 (w : World) (pc p : Pos) (sc ep t0 t1 t2 t3 : Nat) (x0 x1 x2 x3 : Int) (c0 c1 c2 c3 c4 c5 p0 p1 p2 p3 p4 p5 e0 e1 e2 e3 e4 e5 y0 y1 y2 y3 y4 y5 d0 d1 d2 d3 d4 d5 LN CN : Int) (s0 s1 s2 s3 s4 s5 tx : Str) (vs : List Value) (al0 tk0 : Nat → Nat) : RLog := .call (.bi 128106587276438692081757506308484131437 [(.ref sc), (.ref (al0 6))]) none 7 2 [some ((al0 6), slT 6 (tk0 1))] (oNew [6] [.int x0 t0, .int x1 t1, .int x2 t2, .int x3 t3]) fun al1 tk1 => .goto (some (al1 8)) (some ((al1 8), { cls := (.type "list_iterator"), dict := none, data := (.fields #[(.ref (al1 7)), (.int 0 0)]), slots := #[] })) <| .call (.bi 116512097088030077292474218 [(.int x0 t0), (.int 54 (tk1 3))]) none 11 4 [] (orcV fun t => .int d0 t) fun al2 tk2 => .call (.bi 116512097088030077292474218 [(.int x1 t1), (.int 54 (tk2 6))]) none 11 7 [] (orcV fun t => .int d1 t) fun al3 tk3 => .call (.bi 116512097088030077292474218 [(.int x2 t2), (.int 54 (tk3 9))]) none 11 10 [] (orcV fun t => .int d2 t) fun al4 tk4 => .call (.bi 116512097088030077292474218 [(.int x3 t3), (.int 54 (tk4 12))]) none 11 13 [] (orcV fun t => .int d3 t) fun al5 tk5 => .call (.bi 128106587276438692081757506308484131437 [(.ref sc), (.ref (al5 14))]) none 15 21 [some ((al5 14), slT 6 (tk5 20))] (oNew [14] [.int x0 t0, .int x1 t1, .int x2 t2, .int x3 t3]) fun al6 tk6 => .call (.bi 29827096650756823847613524589 [(.ref (al1 9)), (.ref (al6 17))]) none 18 23 [some ((al1 9), lsV [(.int d0 (tk2 4)), (.int d1 (tk3 7)), (.int d2 (tk4 10)), (.int d3 (tk5 13))] 4), some ((al6 17), lsV [(.int 23 (tk5 18)), (.int 49 (tk5 19))] 0)] (oAdd6 9 17 d0 d1 d2 d3 d4 d5 41) fun al7 tk7 => eLw w pc (al0 1) (al0 2) (al0 3) (al0 4) (al0 5) c0 c1 c2 c3 c4 c5 p0 p1 p2 p3 p4 p5 e0 e1 e2 e3 e4 e5 y0 y1 y2 y3 y4 y5 d0 d1 d2 d3 d4 d5 LN CN s0 s1 s2 s3 s4 s5 tx (tk7 23) (tk7 24) (tk7 25) (tk7 26) (tk7 27) (tk7 28) al7 tk7
noncomputable def osLw4 (w : World) (x0 x1 x2 x3 : Int) (t0 t1 t2 t3 : Nat) (c0 c1 c2 c3 c4 c5 p0 p1 p2 p3 p4 p5 e0 e1 e2 e3 e4 e5 y0 y1 y2 y3 y4 y5 d0 d1 d2 d3 d4 d5 LN CN : Int) (s0 s1 s2 s3 s4 s5 tx : Str) (al0 tk0 : Nat → Nat) : List Orc := [oNew [6] [.int x0 t0, .int x1 t1, .int x2 t2, .int x3 t3], orcV fun t => .int d0 t, orcV fun t => .int d1 t, orcV fun t => .int d2 t, orcV fun t => .int d3 t, oNew [14] [.int x0 t0, .int x1 t1, .int x2 t2, .int x3 t3], oAdd6 9 17 d0 d1 d2 d3 d4 d5 41] ++ osLw w c0 c1 c2 c3 c4 c5 p0 p1 p2 p3 p4 p5 e0 e1 e2 e3 e4 e5 y0 y1 y2 y3 y4 y5 d0 d1 d2 d3 d4 d5 LN CN s0 s1 s2 s3 s4 s5 tx
noncomputable def trLw5 : List Nat := [139, 138, 257, 257, 2, 257, 1256, 1256, 1256, 1, 263, 263, 0, 263, 264, 264, 264, 0, 264, 264, 264, 263, 264, 264, 266, 266, 266, 1, 0, 265, 265, 265, 265, 264, 0, 264, 264, 264, 263, 264, 264, 266, 266, 266, 1, 0, 265, 265, 265, 265, 264, 0, 264, 264, 264, 263, 264, 264, 266, 266, 266, 1, 0, 265, 265, 265, 265, 264, 0, 264, 264, 264, 263, 264, 264, 266, 266, 266, 1, 0, 265, 265, 265, 265, 264, 0, 264, 264, 264, 263, 264, 264, 266, 266, 266, 1, 0, 265, 265, 265, 265, 264, 0, 264, 264, 264, 263, 264, 264, 268, 266, 266] ++ trLw
noncomputable def eLw5 (w : World) (pc p : Pos) (sc ep t0 t1 t2 t3 t4 : Nat) (x0 x1 x2 x3 x4 : Int) (c0 c1 c2 c3 c4 c5 p0 p1 p2 p3 p4 p5 e0 e1 e2 e3 e4 e5 y0 y1 y2 y3 y4 y5 d0 d1 d2 d3 d4 d5 LN CN : Int) (s0 s1 s2 s3 s4 s5 tx : Str) (vs : List Value) (al0 tk0 : Nat → Nat) : RLog := .call (.bi 128106587276438692081757506308484131437 [(.ref sc), (.ref (al0 6))]) none 7 2 [some ((al0 6), slT 6 (tk0 1))] (oNew [6] [.int x0 t0, .int x1 t1, .int x2 t2, .int x3 t3, .int x4 t4]) fun al1 tk1 => .goto (some (al1 8)) (some ((al1 8), { cls := (.type "list_iterator"), dict := none, data := (.fields #[(.ref (al1 7)), (.int 0 0)]), slots := #[] })) <| .call (.bi 116512097088030077292474218 [(.int x0 t0), (.int 54 (tk1 3))]) none 11 4 [] (orcV fun t => .int d0 t) fun al2 tk2 => .call (.bi 116512097088030077292474218 [(.int x1 t1), (.int 54 (tk2 6))]) none 11 7 [] (orcV fun t => .int d1 t) fun al3 tk3 => .call (.bi 116512097088030077292474218 [(.int x2 t2), (.int 54 (tk3 9))]) none 11 10 [] (orcV fun t => .int d2 t) fun al4 tk4 => .call (.bi 116512097088030077292474218 [(.int x3 t3), (.int 54 (tk4 12))]) none 11 13 [] (orcV fun t => .int d3 t) fun al5 tk5 => .call (.bi 116512097088030077292474218 [(.int x4 t4), (.int 54 (tk5 15))]) none 11 16 [] (orcV fun t => .int d4 t) fun al6 tk6 => .call (.bi 128106587276438692081757506308484131437 [(.ref sc), (.ref (al6 14))]) none 15 24 [some ((al6 14), slT 6 (tk6 23))] (oNew [14] [.int x0 t0, .int x1 t1, .int x2 t2, .int x3 t3, .int x4 t4]) fun al7 tk7 => .call (.bi 29827096650756823847613524589 [(.ref (al1 9)), (.ref (al7 17))]) none 18 26 [some ((al1 9), lsV [(.int d0 (tk2 4)), (.int d1 (tk3 7)), (.int d2 (tk4 10)), (.int d3 (tk5 13)), (.int d4 (tk6 16))] 5), some ((al7 17), lsV [(.int 49 (tk6 22))] 0)] (oAdd6 9 17 d0 d1 d2 d3 d4 d5 38) fun al8 tk8 => eLw w pc (al0 1) (al0 2) (al0 3) (al0 4) (al0 5) c0 c1 c2 c3 c4 c5 p0 p1 p2 p3 p4 p5 e0 e1 e2 e3 e4 e5 y0 y1 y2 y3 y4 y5 d0 d1 d2 d3 d4 d5 LN CN s0 s1 s2 s3 s4 s5 tx (tk8 26) (tk8 27) (tk8 28) (tk8 29) (tk8 30) (tk8 31) al8 tk8
noncomputable def osLw5 (w : World) (x0 x1 x2 x3 x4 : Int) (t0 t1 t2 t3 t4 : Nat) (c0 c1 c2 c3 c4 c5 p0 p1 p2 p3 p4 p5 e0 e1 e2 e3 e4 e5 y0 y1 y2 y3 y4 y5 d0 d1 d2 d3 d4 d5 LN CN : Int) (s0 s1 s2 s3 s4 s5 tx : Str) (al0 tk0 : Nat → Nat) : List Orc := [oNew [6] [.int x0 t0, .int x1 t1, .int x2 t2, .int x3 t3, .int x4 t4], orcV fun t => .int d0 t, orcV fun t => .int d1 t, orcV fun t => .int d2 t, orcV fun t => .int d3 t, orcV fun t => .int d4 t, oNew [14] [.int x0 t0, .int x1 t1, .int x2 t2, .int x3 t3, .int x4 t4], oAdd6 9 17 d0 d1 d2 d3 d4 d5 38] ++ osLw w c0 c1 c2 c3 c4 c5 p0 p1 p2 p3 p4 p5 e0 e1 e2 e3 e4 e5 y0 y1 y2 y3 y4 y5 d0 d1 d2 d3 d4 d5 LN CN s0 s1 s2 s3 s4 s5 tx
noncomputable def trLw6 : List Nat := [139, 138, 257, 257, 2, 257, 1256, 1256, 1256, 1, 263, 263, 0, 263, 264, 264, 264, 0, 264, 264, 264, 263, 264, 264, 266, 266, 266, 1, 0, 265, 265, 265, 265, 264, 0, 264, 264, 264, 263, 264, 264, 266, 266, 266, 1, 0, 265, 265, 265, 265, 264, 0, 264, 264, 264, 263, 264, 264, 266, 266, 266, 1, 0, 265, 265, 265, 265, 264, 0, 264, 264, 264, 263, 264, 264, 266, 266, 266, 1, 0, 265, 265, 265, 265, 264, 0, 264, 264, 264, 263, 264, 264, 266, 266, 266, 1, 0, 265, 265, 265, 265, 264, 0, 264, 264, 264, 263, 264, 264, 266, 266, 266, 1, 0, 265, 265, 265, 265, 264, 0, 264, 264, 264, 263, 264, 264, 268, 266, 266] ++ trLw
noncomputable def eLw6 (w : World) (pc p : Pos) (sc ep t0 t1 t2 t3 t4 t5 : Nat) (x0 x1 x2 x3 x4 x5 : Int) (c0 c1 c2 c3 c4 c5 p0 p1 p2 p3 p4 p5 e0 e1 e2 e3 e4 e5 y0 y1 y2 y3 y4 y5 d0 d1 d2 d3 d4 d5 LN CN : Int) (s0 s1 s2 s3 s4 s5 tx : Str) (vs : List Value) (al0 tk0 : Nat → Nat) : RLog := .call (.bi 128106587276438692081757506308484131437 [(.ref sc), (.ref (al0 6))]) none 7 2 [some ((al0 6), slT 6 (tk0 1))] (oNew [6] [.int x0 t0, .int x1 t1, .int x2 t2, .int x3 t3, .int x4 t4, .int x5 t5]) fun al1 tk1 => .goto (some (al1 8)) (some ((al1 8), { cls := (.type "list_iterator"), dict := none, data := (.fields #[(.ref (al1 7)), (.int 0 0)]), slots := #[] })) <| .call (.bi 116512097088030077292474218 [(.int x0 t0), (.int 54 (tk1 3))]) none 11 4 [] (orcV fun t => .int d0 t) fun al2 tk2 => .call (.bi 116512097088030077292474218 [(.int x1 t1), (.int 54 (tk2 6))]) none 11 7 [] (orcV fun t => .int d1 t) fun al3 tk3 => .call (.bi 116512097088030077292474218 [(.int x2 t2), (.int 54 (tk3 9))]) none 11 10 [] (orcV fun t => .int d2 t) fun al4 tk4 => .call (.bi 116512097088030077292474218 [(.int x3 t3), (.int 54 (tk4 12))]) none 11 13 [] (orcV fun t => .int d3 t) fun al5 tk5 => .call (.bi 116512097088030077292474218 [(.int x4 t4), (.int 54 (tk5 15))]) none 11 16 [] (orcV fun t => .int d4 t) fun al6 tk6 => .call (.bi 116512097088030077292474218 [(.int x5 t5), (.int 54 (tk6 18))]) none 11 19 [] (orcV fun t => .int d5 t) fun al7 tk7 => .call (.bi 128106587276438692081757506308484131437 [(.ref sc), (.ref (al7 14))]) none 15 27 [some ((al7 14), slT 6 (tk7 26))] (oNew [14] [.int x0 t0, .int x1 t1, .int x2 t2, .int x3 t3, .int x4 t4, .int x5 t5]) fun al8 tk8 => .call (.bi 29827096650756823847613524589 [(.ref (al1 9)), (.ref (al8 17))]) none 18 29 [some ((al1 9), lsV [(.int d0 (tk2 4)), (.int d1 (tk3 7)), (.int d2 (tk4 10)), (.int d3 (tk5 13)), (.int d4 (tk6 16)), (.int d5 (tk7 19))] 6), some ((al8 17), lsV [] 0)] (oAdd6 9 17 d0 d1 d2 d3 d4 d5 35) fun al9 tk9 => eLw w pc (al0 1) (al0 2) (al0 3) (al0 4) (al0 5) c0 c1 c2 c3 c4 c5 p0 p1 p2 p3 p4 p5 e0 e1 e2 e3 e4 e5 y0 y1 y2 y3 y4 y5 d0 d1 d2 d3 d4 d5 LN CN s0 s1 s2 s3 s4 s5 tx (tk9 29) (tk9 30) (tk9 31) (tk9 32) (tk9 33) (tk9 34) al9 tk9
noncomputable def osLw6 (w : World) (x0 x1 x2 x3 x4 x5 : Int) (t0 t1 t2 t3 t4 t5 : Nat) (c0 c1 c2 c3 c4 c5 p0 p1 p2 p3 p4 p5 e0 e1 e2 e3 e4 e5 y0 y1 y2 y3 y4 y5 d0 d1 d2 d3 d4 d5 LN CN : Int) (s0 s1 s2 s3 s4 s5 tx : Str) (al0 tk0 : Nat → Nat) : List Orc := [oNew [6] [.int x0 t0, .int x1 t1, .int x2 t2, .int x3 t3, .int x4 t4, .int x5 t5], orcV fun t => .int d0 t, orcV fun t => .int d1 t, orcV fun t => .int d2 t, orcV fun t => .int d3 t, orcV fun t => .int d4 t, orcV fun t => .int d5 t, oNew [14] [.int x0 t0, .int x1 t1, .int x2 t2, .int x3 t3, .int x4 t4, .int x5 t5], oAdd6 9 17 d0 d1 d2 d3 d4 d5 35] ++ osLw w c0 c1 c2 c3 c4 c5 p0 p1 p2 p3 p4 p5 e0 e1 e2 e3 e4 e5 y0 y1 y2 y3 y4 y5 d0 d1 d2 d3 d4 d5 LN CN s0 s1 s2 s3 s4 s5 tx
theorem run_lw0 (w : World) (pc p : Pos) (sc ep : Nat) (c0 c1 c2 c3 c4 c5 p0 p1 p2 p3 p4 p5 e0 e1 e2 e3 e4 e5 y0 y1 y2 y3 y4 y5 d0 d1 d2 d3 d4 d5 LN CN : Int) (s0 s1 s2 s3 s4 s5 tx : Str) (vs : List Value) (al0 tk0 : Nat → Nat) : mixA [0] (seg (VV w) 2311 trLw0 (osLw0 w  c0 c1 c2 c3 c4 c5 p0 p1 p2 p3 p4 p5 e0 e1 e2 e3 e4 e5 y0 y1 y2 y3 y4 y5 d0 d1 d2 d3 d4 d5 LN CN s0 s1 s2 s3 s4 s5 tx al0 tk0) (lawX pc (lawC sc)) p [] (denF (lawX pc (lawC sc)).code) (mkT [(100, o100)] [(sc, lsV vs ep)]) 1 0 al0 tk0) = mixB (seg (VV w) 2311 trLw0 (osLw0 w  c0 c1 c2 c3 c4 c5 p0 p1 p2 p3 p4 p5 e0 e1 e2 e3 e4 e5 y0 y1 y2 y3 y4 y5 d0 d1 d2 d3 d4 d5 LN CN s0 s1 s2 s3 s4 s5 tx al0 tk0) (lawX pc (lawC sc)) p [] (denF (lawX pc (lawC sc)).code) (mkT [(100, o100)] [(sc, lsV vs ep)]) 1 0 al0 tk0) (eLw0 w pc p sc ep c0 c1 c2 c3 c4 c5 p0 p1 p2 p3 p4 p5 e0 e1 e2 e3 e4 e5 y0 y1 y2 y3 y4 y5 d0 d1 d2 d3 d4 d5 LN CN s0 s1 s2 s3 s4 s5 tx vs al0 tk0) := by kernel_rfl
theorem run_lw1 (w : World) (pc p : Pos) (sc ep t0 : Nat) (x0 : Int) (c0 c1 c2 c3 c4 c5 p0 p1 p2 p3 p4 p5 e0 e1 e2 e3 e4 e5 y0 y1 y2 y3 y4 y5 d0 d1 d2 d3 d4 d5 LN CN : Int) (s0 s1 s2 s3 s4 s5 tx : Str) (vs : List Value) (al0 tk0 : Nat → Nat) : mixA [0] (seg (VV w) 2346 trLw1 (osLw1 w x0 t0 c0 c1 c2 c3 c4 c5 p0 p1 p2 p3 p4 p5 e0 e1 e2 e3 e4 e5 y0 y1 y2 y3 y4 y5 d0 d1 d2 d3 d4 d5 LN CN s0 s1 s2 s3 s4 s5 tx al0 tk0) (lawX pc (lawC sc)) p [] (denF (lawX pc (lawC sc)).code) (mkT [(100, o100)] [(sc, lsV vs ep)]) 1 0 al0 tk0) = mixB (seg (VV w) 2346 trLw1 (osLw1 w x0 t0 c0 c1 c2 c3 c4 c5 p0 p1 p2 p3 p4 p5 e0 e1 e2 e3 e4 e5 y0 y1 y2 y3 y4 y5 d0 d1 d2 d3 d4 d5 LN CN s0 s1 s2 s3 s4 s5 tx al0 tk0) (lawX pc (lawC sc)) p [] (denF (lawX pc (lawC sc)).code) (mkT [(100, o100)] [(sc, lsV vs ep)]) 1 0 al0 tk0) (eLw1 w pc p sc ep t0 x0 c0 c1 c2 c3 c4 c5 p0 p1 p2 p3 p4 p5 e0 e1 e2 e3 e4 e5 y0 y1 y2 y3 y4 y5 d0 d1 d2 d3 d4 d5 LN CN s0 s1 s2 s3 s4 s5 tx vs al0 tk0) := by kernel_rfl
theorem run_lw2 (w : World) (pc p : Pos) (sc ep t0 t1 : Nat) (x0 x1 : Int) (c0 c1 c2 c3 c4 c5 p0 p1 p2 p3 p4 p5 e0 e1 e2 e3 e4 e5 y0 y1 y2 y3 y4 y5 d0 d1 d2 d3 d4 d5 LN CN : Int) (s0 s1 s2 s3 s4 s5 tx : Str) (vs : List Value) (al0 tk0 : Nat → Nat) : mixA [0] (seg (VV w) 2377 trLw2 (osLw2 w x0 x1 t0 t1 c0 c1 c2 c3 c4 c5 p0 p1 p2 p3 p4 p5 e0 e1 e2 e3 e4 e5 y0 y1 y2 y3 y4 y5 d0 d1 d2 d3 d4 d5 LN CN s0 s1 s2 s3 s4 s5 tx al0 tk0) (lawX pc (lawC sc)) p [] (denF (lawX pc (lawC sc)).code) (mkT [(100, o100)] [(sc, lsV vs ep)]) 1 0 al0 tk0) = mixB (seg (VV w) 2377 trLw2 (osLw2 w x0 x1 t0 t1 c0 c1 c2 c3 c4 c5 p0 p1 p2 p3 p4 p5 e0 e1 e2 e3 e4 e5 y0 y1 y2 y3 y4 y5 d0 d1 d2 d3 d4 d5 LN CN s0 s1 s2 s3 s4 s5 tx al0 tk0) (lawX pc (lawC sc)) p [] (denF (lawX pc (lawC sc)).code) (mkT [(100, o100)] [(sc, lsV vs ep)]) 1 0 al0 tk0) (eLw2 w pc p sc ep t0 t1 x0 x1 c0 c1 c2 c3 c4 c5 p0 p1 p2 p3 p4 p5 e0 e1 e2 e3 e4 e5 y0 y1 y2 y3 y4 y5 d0 d1 d2 d3 d4 d5 LN CN s0 s1 s2 s3 s4 s5 tx vs al0 tk0) := by kernel_rfl
theorem run_lw3 (w : World) (pc p : Pos) (sc ep t0 t1 t2 : Nat) (x0 x1 x2 : Int) (c0 c1 c2 c3 c4 c5 p0 p1 p2 p3 p4 p5 e0 e1 e2 e3 e4 e5 y0 y1 y2 y3 y4 y5 d0 d1 d2 d3 d4 d5 LN CN : Int) (s0 s1 s2 s3 s4 s5 tx : Str) (vs : List Value) (al0 tk0 : Nat → Nat) : mixA [0] (seg (VV w) 2408 trLw3 (osLw3 w x0 x1 x2 t0 t1 t2 c0 c1 c2 c3 c4 c5 p0 p1 p2 p3 p4 p5 e0 e1 e2 e3 e4 e5 y0 y1 y2 y3 y4 y5 d0 d1 d2 d3 d4 d5 LN CN s0 s1 s2 s3 s4 s5 tx al0 tk0) (lawX pc (lawC sc)) p [] (denF (lawX pc (lawC sc)).code) (mkT [(100, o100)] [(sc, lsV vs ep)]) 1 0 al0 tk0) = mixB (seg (VV w) 2408 trLw3 (osLw3 w x0 x1 x2 t0 t1 t2 c0 c1 c2 c3 c4 c5 p0 p1 p2 p3 p4 p5 e0 e1 e2 e3 e4 e5 y0 y1 y2 y3 y4 y5 d0 d1 d2 d3 d4 d5 LN CN s0 s1 s2 s3 s4 s5 tx al0 tk0) (lawX pc (lawC sc)) p [] (denF (lawX pc (lawC sc)).code) (mkT [(100, o100)] [(sc, lsV vs ep)]) 1 0 al0 tk0) (eLw3 w pc p sc ep t0 t1 t2 x0 x1 x2 c0 c1 c2 c3 c4 c5 p0 p1 p2 p3 p4 p5 e0 e1 e2 e3 e4 e5 y0 y1 y2 y3 y4 y5 d0 d1 d2 d3 d4 d5 LN CN s0 s1 s2 s3 s4 s5 tx vs al0 tk0) := by kernel_rfl
theorem run_lw4 (w : World) (pc p : Pos) (sc ep t0 t1 t2 t3 : Nat) (x0 x1 x2 x3 : Int) (c0 c1 c2 c3 c4 c5 p0 p1 p2 p3 p4 p5 e0 e1 e2 e3 e4 e5 y0 y1 y2 y3 y4 y5 d0 d1 d2 d3 d4 d5 LN CN : Int) (s0 s1 s2 s3 s4 s5 tx : Str) (vs : List Value) (al0 tk0 : Nat → Nat) : mixA [0] (seg (VV w) 2439 trLw4 (osLw4 w x0 x1 x2 x3 t0 t1 t2 t3 c0 c1 c2 c3 c4 c5 p0 p1 p2 p3 p4 p5 e0 e1 e2 e3 e4 e5 y0 y1 y2 y3 y4 y5 d0 d1 d2 d3 d4 d5 LN CN s0 s1 s2 s3 s4 s5 tx al0 tk0) (lawX pc (lawC sc)) p [] (denF (lawX pc (lawC sc)).code) (mkT [(100, o100)] [(sc, lsV vs ep)]) 1 0 al0 tk0) = mixB (seg (VV w) 2439 trLw4 (osLw4 w x0 x1 x2 x3 t0 t1 t2 t3 c0 c1 c2 c3 c4 c5 p0 p1 p2 p3 p4 p5 e0 e1 e2 e3 e4 e5 y0 y1 y2 y3 y4 y5 d0 d1 d2 d3 d4 d5 LN CN s0 s1 s2 s3 s4 s5 tx al0 tk0) (lawX pc (lawC sc)) p [] (denF (lawX pc (lawC sc)).code) (mkT [(100, o100)] [(sc, lsV vs ep)]) 1 0 al0 tk0) (eLw4 w pc p sc ep t0 t1 t2 t3 x0 x1 x2 x3 c0 c1 c2 c3 c4 c5 p0 p1 p2 p3 p4 p5 e0 e1 e2 e3 e4 e5 y0 y1 y2 y3 y4 y5 d0 d1 d2 d3 d4 d5 LN CN s0 s1 s2 s3 s4 s5 tx vs al0 tk0) := by kernel_rfl
theorem run_lw5 (w : World) (pc p : Pos) (sc ep t0 t1 t2 t3 t4 : Nat) (x0 x1 x2 x3 x4 : Int) (c0 c1 c2 c3 c4 c5 p0 p1 p2 p3 p4 p5 e0 e1 e2 e3 e4 e5 y0 y1 y2 y3 y4 y5 d0 d1 d2 d3 d4 d5 LN CN : Int) (s0 s1 s2 s3 s4 s5 tx : Str) (vs : List Value) (al0 tk0 : Nat → Nat) : mixA [0] (seg (VV w) 2470 trLw5 (osLw5 w x0 x1 x2 x3 x4 t0 t1 t2 t3 t4 c0 c1 c2 c3 c4 c5 p0 p1 p2 p3 p4 p5 e0 e1 e2 e3 e4 e5 y0 y1 y2 y3 y4 y5 d0 d1 d2 d3 d4 d5 LN CN s0 s1 s2 s3 s4 s5 tx al0 tk0) (lawX pc (lawC sc)) p [] (denF (lawX pc (lawC sc)).code) (mkT [(100, o100)] [(sc, lsV vs ep)]) 1 0 al0 tk0) = mixB (seg (VV w) 2470 trLw5 (osLw5 w x0 x1 x2 x3 x4 t0 t1 t2 t3 t4 c0 c1 c2 c3 c4 c5 p0 p1 p2 p3 p4 p5 e0 e1 e2 e3 e4 e5 y0 y1 y2 y3 y4 y5 d0 d1 d2 d3 d4 d5 LN CN s0 s1 s2 s3 s4 s5 tx al0 tk0) (lawX pc (lawC sc)) p [] (denF (lawX pc (lawC sc)).code) (mkT [(100, o100)] [(sc, lsV vs ep)]) 1 0 al0 tk0) (eLw5 w pc p sc ep t0 t1 t2 t3 t4 x0 x1 x2 x3 x4 c0 c1 c2 c3 c4 c5 p0 p1 p2 p3 p4 p5 e0 e1 e2 e3 e4 e5 y0 y1 y2 y3 y4 y5 d0 d1 d2 d3 d4 d5 LN CN s0 s1 s2 s3 s4 s5 tx vs al0 tk0) := by kernel_rfl
theorem run_lw6 (w : World) (pc p : Pos) (sc ep t0 t1 t2 t3 t4 t5 : Nat) (x0 x1 x2 x3 x4 x5 : Int) (c0 c1 c2 c3 c4 c5 p0 p1 p2 p3 p4 p5 e0 e1 e2 e3 e4 e5 y0 y1 y2 y3 y4 y5 d0 d1 d2 d3 d4 d5 LN CN : Int) (s0 s1 s2 s3 s4 s5 tx : Str) (vs : List Value) (al0 tk0 : Nat → Nat) : mixA [0] (seg (VV w) 2501 trLw6 (osLw6 w x0 x1 x2 x3 x4 x5 t0 t1 t2 t3 t4 t5 c0 c1 c2 c3 c4 c5 p0 p1 p2 p3 p4 p5 e0 e1 e2 e3 e4 e5 y0 y1 y2 y3 y4 y5 d0 d1 d2 d3 d4 d5 LN CN s0 s1 s2 s3 s4 s5 tx al0 tk0) (lawX pc (lawC sc)) p [] (denF (lawX pc (lawC sc)).code) (mkT [(100, o100)] [(sc, lsV vs ep)]) 1 0 al0 tk0) = mixB (seg (VV w) 2501 trLw6 (osLw6 w x0 x1 x2 x3 x4 x5 t0 t1 t2 t3 t4 t5 c0 c1 c2 c3 c4 c5 p0 p1 p2 p3 p4 p5 e0 e1 e2 e3 e4 e5 y0 y1 y2 y3 y4 y5 d0 d1 d2 d3 d4 d5 LN CN s0 s1 s2 s3 s4 s5 tx al0 tk0) (lawX pc (lawC sc)) p [] (denF (lawX pc (lawC sc)).code) (mkT [(100, o100)] [(sc, lsV vs ep)]) 1 0 al0 tk0) (eLw6 w pc p sc ep t0 t1 t2 t3 t4 t5 x0 x1 x2 x3 x4 x5 c0 c1 c2 c3 c4 c5 p0 p1 p2 p3 p4 p5 e0 e1 e2 e3 e4 e5 y0 y1 y2 y3 y4 y5 d0 d1 d2 d3 d4 d5 LN CN s0 s1 s2 s3 s4 s5 tx vs al0 tk0) := by kernel_rfl
end Mine
namespace Mine
open PySem PySem.W PySem.W.X
/-! plain law: the row of a sum, the text, the newlines -/
noncomputable def digL (l : List (Int × Int)) (k : Int) : Option Int := (l.find? fun x => x.1 == k).map (·.2)
theorem dig_kv (D : List Ent) (k : Int) : dig D k = digL (D.map Ent.kv) k := by
  unfold dig digL
  induction D with
  | nil => rfl
  | cons x D ih =>
    by_cases h : x.k = k
    · simp [Ent.kv, h]
    · rw [List.find?_cons_of_neg (by simpa using h), List.map_cons, List.find?_cons_of_neg (by simpa [Ent.kv] using h)]
      exact ih
theorem rowL_ge : ∀ (n : Nat) (g : Int → Option Int) (pl : Int), ∀ x ∈ rowL g n pl, pl ≤ x.1
  | 0, _, _, x, h => by cases h
  | n + 1, g, pl, x, h => by
    unfold rowL at h
    rcases List.mem_append.mp h with q | q
    · cases hg : g 0 with
      | none => rw [hg] at q; cases q
      | some v => rw [hg] at q; rw [List.mem_singleton.mp q]; exact Int.le_refl _
    · have := rowL_ge n _ (pl + 1) x q; omega
theorem rowL_nodup : ∀ (n : Nat) (g : Int → Option Int) (pl : Int), ((rowL g n pl).map (·.1)).Nodup
  | 0, _, _ => by simp [rowL]
  | n + 1, g, pl => by
    have ih := rowL_nodup n (fun k => g (k + 1)) (pl + 1)
    unfold rowL
    cases hg : g 0 with
    | none => simpa using ih
    | some v =>
      simp only [List.singleton_append, List.map_cons, List.nodup_cons]
      refine ⟨fun q => ?_, ih⟩
      obtain ⟨x, hx, e⟩ := List.mem_map.mp q
      have := rowL_ge n _ (pl + 1) x hx
      omega
theorem digL_rowL : ∀ (n : Nat) (g : Int → Option Int) (pl k : Int), digL (rowL g n pl) k = if pl ≤ k ∧ k < pl + n then g (k - pl) else none
  | 0, g, pl, k => by
    rw [if_neg (by omega)]; rfl
  | n + 1, g, pl, k => by
    have ih := digL_rowL n (fun k => g (k + 1)) (pl + 1) k
    by_cases hk : k = pl
    · subst hk
      rw [if_pos (by omega), show k - k = 0 by omega]
      unfold rowL
      cases hg : g 0 with
      | none =>
        simp only [List.nil_append]
        rw [ih, if_neg (by omega)]
      | some v => simp [digL]
    · have e : digL (rowL g (n + 1) pl) k = digL (rowL (fun k => g (k + 1)) n (pl + 1)) k := by
        rw [rowL]
        cases hg : g 0 with
        | none => rfl
        | some v =>
          simp only [List.singleton_append]
          unfold digL
          rw [List.find?_cons_of_neg (by simpa using fun q : pl = k => hk q.symm)]
      rw [e, ih]
      by_cases h : pl + 1 ≤ k ∧ k < pl + 1 + n
      · rw [if_pos h, if_pos (by omega)]
        show g (k - (pl + 1) + 1) = g (k - pl)
        congr 1; omega
      · rw [if_neg h, if_neg (by omega)]
theorem dig_big {L : List Ent} : ∃ N : Nat, ∀ k : Int, (N : Int) ≤ k → dig L k = none := by
  induction L with
  | nil => exact ⟨0, fun k _ => rfl⟩
  | cons x L ih =>
    obtain ⟨N, h⟩ := ih
    refine ⟨max N (x.k.toNat + 1), fun k hk => ?_⟩
    rw [dig_cons_ne (by omega)]
    exact h k (by omega)
theorem row_same {L D : List Ent} {a b : Int} {n : Nat} {r : List (Int × Int)} (hL : Laid1 L) (hp : ∀ x ∈ L, 0 ≤ x.k) (hR : RowIs L a b) (hd : dueF n a b 0 = some r) (hD : D.map Ent.kv = r) : (D.map (·.k)).Nodup ∧ ∀ k, dig L k = dig D k := by
  obtain ⟨n0, hn0⟩ := hR
  obtain ⟨N, hN⟩ := dig_big (L := L)
  obtain ⟨e1, e2⟩ := hn0 (max n0 N) (by omega)
  have h := due_row (max n0 N) (dig L) 0 a b (fun k => dig_isDig hL k) e1 e2
  have e := dueF_one hd h
  subst hD
  refine ⟨?_, fun k => ?_⟩
  · have := rowL_nodup (max n0 N) (dig L) 0
    rw [← e, List.map_map] at this
    exact this
  · rw [dig_kv D k, e, digL_rowL]
    by_cases h : 0 ≤ k ∧ k < 0 + ((max n0 N : Nat) : Int)
    · rw [if_pos h]; congr 1; omega
    · rw [if_neg h]
      by_cases h0 : 0 ≤ k
      · exact hN k (by omega)
      · exact dig_none fun x hx => by have := hp x hx; omega
theorem due_all : (List.range 49).all (fun i => (List.range 49).all fun j => (dueF 20 ((i : Int) - 24) ((j : Int) - 24) 0).isSome) = true := by decide +kernel
theorem due_some {a b : Int} (ha : -24 ≤ a ∧ a ≤ 24) (hb : -24 ≤ b ∧ b ≤ 24) : ∃ r, dueF 20 a b 0 = some r := by
  have h1 := List.all_eq_true.mp due_all (a + 24).toNat (List.mem_range.mpr (by omega))
  have h2 := List.all_eq_true.mp h1 (b + 24).toNat (List.mem_range.mpr (by omega))
  rw [show (((a + 24).toNat : Nat) : Int) - 24 = a by omega, show (((b + 24).toNat : Nat) : Int) - 24 = b by omega] at h2
  exact Option.isSome_iff_exists.mp h2
theorem wt_pow {p : Nat} (h : p < 3) : wt (p : Int) = (-2) ^ p := by
  have : p = 0 ∨ p = 1 ∨ p = 2 := by omega
  rcases this with rfl | rfl | rfl <;> rfl
theorem sml_of {cv : Int → Int} {c p : Int} (hc : cv c = 0 ∨ cv c = 1 ∨ cv c = -1) : Sml (cv c * wt p) := by
  unfold Sml wt
  rcases hc with h | h | h <;> rw [h] <;> split <;> (try split) <;> omega
theorem cvA_v (c : Int) : cvA c = 0 ∨ cvA c = 1 ∨ cvA c = -1 := by
  unfold cvA; split <;> (try split) <;> (try split) <;> (try split) <;> omega
theorem cvB_v (c : Int) : cvB c = 0 ∨ cvB c = 1 ∨ cvB c = -1 := by
  unfold cvB; split <;> (try split) <;> (try split) <;> (try split) <;> omega
/-! newlines -/
theorem occ_go (x : Str) (c : Nat) : ∀ (k i : Nat) (found : Array Nat) (f : Nat), i + k = x.length + 1 → found.size ≤ i → f ≤ i →
    (forIn (List.range' i k) (found, f) (StrLaws.occBody x ⟨#[c]⟩ x.length (x.length + 1))).run.fst.size = found.size + (x.cps.toList.drop i).count c
  | 0, i, found, f, h, _, _ => by
    have : x.cps.toList.drop i = [] := List.drop_eq_nil_of_le (by have : x.cps.toList.length = x.length := rfl; omega)
    simp [this]
  | k + 1, i, found, f, h, hf, hi => by
    rw [List.range'_succ, List.forIn_cons]
    have hlen : x.cps.toList.length = x.length := rfl
    by_cases hc : x.cps.toList[i]? = some c
    · have h1 := (StrLaws.subAt_one x c i).mpr hc
      have eb : StrLaws.occBody x ⟨#[c]⟩ x.length (x.length + 1) i (found, f) = pure (ForInStep.yield (found.push i, i + (⟨#[c]⟩ : Str).length)) := by
        unfold StrLaws.occBody
        rw [if_pos ⟨⟨⟨by dsimp only; omega, hi⟩, h1.1⟩, h1.2⟩]
      rw [eb]
      show (forIn (m := Id) (List.range' (i + 1) k) (found.push i, i + 1) (StrLaws.occBody x ⟨#[c]⟩ x.length (x.length + 1))).run.fst.size = _
      rw [occ_go x c k (i + 1) _ _ (by omega) (by rw [Array.size_push]; omega) (Nat.le_refl _), Array.size_push]
      obtain ⟨hlt, e⟩ := List.getElem?_eq_some_iff.mp hc
      rw [List.drop_eq_getElem_cons hlt, e, List.count_cons_self]
      omega
    · have eb : StrLaws.occBody x ⟨#[c]⟩ x.length (x.length + 1) i (found, f) = pure (ForInStep.yield (found, f)) := by
        unfold StrLaws.occBody
        rw [if_neg fun q => hc ((StrLaws.subAt_one x c i).mp ⟨q.1.2, q.2⟩)]
      rw [eb]
      show (forIn (m := Id) (List.range' (i + 1) k) (found, f) (StrLaws.occBody x ⟨#[c]⟩ x.length (x.length + 1))).run.fst.size = _
      rw [occ_go x c k (i + 1) _ _ (by omega) (by omega) (by omega)]
      by_cases hlt : i < x.cps.toList.length
      · rw [List.drop_eq_getElem_cons hlt, List.count_cons_of_ne]
        intro q
        exact hc (by rw [List.getElem?_eq_getElem hlt, q])
      · rw [List.drop_eq_nil_of_le (by omega), List.drop_eq_nil_of_le (by omega)]
theorem occ_count (x : Str) (c : Nat) : (Builtin.Str.occurrences x ⟨#[c]⟩ 0 x.length (x.length + 1)).length = x.cps.toList.count c := by
  rw [StrLaws.occ_eq]
  have := occ_go x c (x.length + 1) 0 #[] 0 (by omega) (by simp) (Nat.le_refl _)
  simpa using this
end Mine
namespace Mine
open PySem PySem.W PySem.W.X
theorem nl_spell {x : W3} (h : x.1 < 3) : (spC x).count 10 = if x.1 = 0 then 1 else 0 := by
  obtain ⟨y, c, q⟩ := x
  have : y = 0 ∨ y = 1 ∨ y = 2 := by dsimp only at h; omega
  have hc : 48 + c ≠ 10 := by omega
  have hq : 48 + q ≠ 10 := by omega
  rcases this with rfl | rfl | rfl
  · show ([48 + c, 92, 32, 48 + q, 10] : List Nat).count 10 = 1
    simp [List.count_cons, hc, hq]
  · show ([34, 48 + c, 32, 48 + q, 34] : List Nat).count 10 = 0
    simp [List.count_cons, hc, hq]
  · show ([92, 48 + c, 92, 32, 92, 48 + q, 9] : List Nat).count 10 = 0
    simp [List.count_cons, hc, hq]
theorem nl_flat : ∀ {l : List W3}, (∀ x ∈ l, x.1 < 3) → (flat3 l).count 10 = l.countP fun x => x.1 = 0
  | [], _ => rfl
  | x :: l, h => by
    have e : flat3 (x :: l) = spC x ++ flat3 l := by simp [flat3]
    rw [e, List.count_append, nl_spell (h x (.head _)), nl_flat fun y hy => h y (.tail _ hy), List.countP_cons]
    by_cases q : x.1 = 0
    · simp [q]; omega
    · simp [q]
noncomputable def textOf (l : List W3) : Str := ⟨(flat3 l).toArray⟩
theorem text_at {l : List W3} (h : ∀ x ∈ l, w3Ok x) : TxAt (textOf l) 0 l := ⟨by simp [textOf], Int.le_refl _, by simp [textOf, Str.length], h⟩
theorem join_mk {z0 z1 z2 z3 z4 z5 : W3} (t0 t1 t2 t3 t4 t5 : Tok) : MkS (joinMade ⟨#[]⟩ [(⟨(spC z0).toArray⟩, t0), (⟨(spC z1).toArray⟩, t1), (⟨(spC z2).toArray⟩, t2), (⟨(spC z3).toArray⟩, t3), (⟨(spC z4).toArray⟩, t4), (⟨(spC z5).toArray⟩, t5)]) (textOf [z0, z1, z2, z3, z4, z5]) := by
  have e : Builtin.Str.glued ⟨#[]⟩ [⟨(spC z0).toArray⟩, ⟨(spC z1).toArray⟩, ⟨(spC z2).toArray⟩, ⟨(spC z3).toArray⟩, ⟨(spC z4).toArray⟩, ⟨(spC z5).toArray⟩] = textOf [z0, z1, z2, z3, z4, z5] := by
    unfold Builtin.Str.glued textOf flat3
    simp
  refine .inr ⟨?_, ?_⟩
  · show Made.str (Builtin.Str.glued ⟨#[]⟩ _) = _
    exact congrArg Made.str e
  · have hl : ∀ z : W3, (spC z).length ≤ 7 := fun z => by unfold spC spellL; split <;> (try split) <;> simp
    have := hl z0; have := hl z1; have := hl z2; have := hl z3; have := hl z4; have := hl z5
    rw [sizeLine_eq]
    simp only [textOf, Str.length, flat3, List.flatMap_cons, List.flatMap_nil, List.append_nil, List.size_toArray, List.length_append]
    omega
theorem join_short {z0 z1 z2 z3 z4 z5 : W3} : Builtin.Str.tooLong (([⟨(spC z0).toArray⟩, ⟨(spC z1).toArray⟩, ⟨(spC z2).toArray⟩, ⟨(spC z3).toArray⟩, ⟨(spC z4).toArray⟩, ⟨(spC z5).toArray⟩] : List Str).toArray.foldl (· + ·.length + (⟨#[]⟩ : Str).length) 0) = false := by
  have hl : ∀ z : W3, (spC z).length ≤ 7 := fun z => by unfold spC spellL; split <;> (try split) <;> simp
  have := hl z0; have := hl z1; have := hl z2; have := hl z3; have := hl z4; have := hl z5
  show decide (_ > sizeLine) = false
  refine decide_eq_false ?_
  rw [sizeLine_eq]
  show ¬ (0 + (spC z0).length + 0 + (spC z1).length + 0 + (spC z2).length + 0 + (spC z3).length + 0 + (spC z4).length + 0 + (spC z5).length + 0 > _)
  omega
theorem zip_six {W : List Str} {ts : List Nat} (h : ts.length = W.length) : (W.zip ts).map (·.1) = W := by
  induction W generalizing ts with
  | nil => rfl
  | cons x W ih =>
    cases ts with
    | nil => cases h
    | cons t ts => simp only [List.zip_cons_cons, List.map_cons]; rw [ih (by simpa using h)]
end Mine
namespace Mine
open PySem PySem.W PySem.W.X
open Sem (wp finPost)
/-! the law's own body: all contracts laid -/
structure LawH (z0 z1 z2 z3 z4 z5 : W3) (e0 e1 e2 e3 e4 e5 d0 d1 d2 d3 d4 d5 LN CN : Int) (r : List (Int × Int)) : Prop where
  hz0 : w3Ok z0 ∧ z0.1 < 3
  hc0 : d0.fmod 6 = z0.2.1
  he0 : d0.fdiv 6 = e0
  hp0 : e0.fmod 3 = z0.2.2
  hy0 : d0.fdiv 18 = z0.1
  hz1 : w3Ok z1 ∧ z1.1 < 3
  hc1 : d1.fmod 6 = z1.2.1
  he1 : d1.fdiv 6 = e1
  hp1 : e1.fmod 3 = z1.2.2
  hy1 : d1.fdiv 18 = z1.1
  hz2 : w3Ok z2 ∧ z2.1 < 3
  hc2 : d2.fmod 6 = z2.2.1
  he2 : d2.fdiv 6 = e2
  hp2 : e2.fmod 3 = z2.2.2
  hy2 : d2.fdiv 18 = z2.1
  hz3 : w3Ok z3 ∧ z3.1 < 3
  hc3 : d3.fmod 6 = z3.2.1
  he3 : d3.fdiv 6 = e3
  hp3 : e3.fmod 3 = z3.2.2
  hy3 : d3.fdiv 18 = z3.1
  hz4 : w3Ok z4 ∧ z4.1 < 3
  hc4 : d4.fmod 6 = z4.2.1
  he4 : d4.fdiv 6 = e4
  hp4 : e4.fmod 3 = z4.2.2
  hy4 : d4.fdiv 18 = z4.1
  hz5 : w3Ok z5 ∧ z5.1 < 3
  hc5 : d5.fmod 6 = z5.2.1
  he5 : d5.fdiv 6 = e5
  hp5 : e5.fmod 3 = z5.2.2
  hy5 : d5.fdiv 18 = z5.1
  hdue : dueF 20 (0 + cvA z0.2.1 * wt z0.2.2 + cvA z1.2.1 * wt z1.2.2 + cvA z2.2.1 * wt z2.2.2 + cvA z3.2.1 * wt z3.2.2 + cvA z4.2.1 * wt z4.2.2 + cvA z5.2.1 * wt z5.2.2) (0 + cvB z0.2.1 * wt z0.2.2 + cvB z1.2.1 * wt z1.2.2 + cvB z2.2.1 * wt z2.2.2 + cvB z3.2.1 * wt z3.2.2 + cvB z4.2.1 * wt z4.2.2 + cvB z5.2.1 * wt z5.2.2) 0 = some r
  HR : ∀ L, Laid1 L → (∀ x ∈ L, 0 ≤ x.k) → RowIs L (isum ([z0, z1, z2, z3, z4, z5].map (v3 cvA))) (isum ([z0, z1, z2, z3, z4, z5].map (v3 cvB))) → ∀ D, D.map Ent.kv = r → (D.map (·.k)).Nodup ∧ ∀ k, dig L k = dig D k
  HO : ∀ L, Laid1 L → (∀ x ∈ L, 0 ≤ x.k) → RowIs L (chipS cvA z0.2.1 z0.2.2 z1.2.1 z1.2.2 z2.2.1 z2.2.2 z3.2.1 z3.2.2 z4.2.1 z4.2.2 z5.2.1 z5.2.2) (chipS cvB z0.2.1 z0.2.2 z1.2.1 z1.2.2 z2.2.1 z2.2.2 z3.2.1 z3.2.2 z4.2.1 z4.2.2 z5.2.1 z5.2.2) → ∀ D, D.map Ent.kv = r → (D.map (·.k)).Nodup ∧ ∀ k, dig L k = dig D k
  hLN : 1 + (([z0, z1, z2, z3, z4, z5].countP fun x => x.1 = 0 : Nat) : Int) = LN
  hCN : ((Builtin.Str.occurrences (textOf [z0, z1, z2, z3, z4, z5]) ⟨#[10]⟩ 0 (textOf [z0, z1, z2, z3, z4, z5]).length ((textOf [z0, z1, z2, z3, z4, z5]).length + 1)).length : Int) = CN
  hLC : (LN != CN + 1) = false
noncomputable def lawR (s₀ : Shared) (r : Result) (s' : Shared) : Prop := r = .ok (.ret (.bool true)) ∧ (∃ a b, s'.heap.get? 100 = some (o100E a b)) ∧ Step s₀ s' [100]
theorem ok_ints {x : W3} (h : w3Ok x) : 0 ≤ (x.2.1 : Int) ∧ (x.2.1 : Int) ≤ 5 ∧ 0 ≤ (x.2.2 : Int) ∧ (x.2.2 : Int) ≤ 2 := by have a := h.1; have b := h.2; omega
theorem law_rest {w : World} {s₀ : Shared} {z0 z1 z2 z3 z4 z5 : W3} {e0 e1 e2 e3 e4 e5 d0 d1 d2 d3 d4 d5 LN CN : Int} {r : List (Int × Int)} (H : LawH z0 z1 z2 z3 z4 z5 e0 e1 e2 e3 e4 e5 d0 d1 d2 d3 d4 d5 LN CN r) (hz : 140 ≤ s₀.heap.objs.size) (pc : Pos) (f γ2 γ3 γ4 γ5 : Nat) (τ0 τ1 τ2 τ3 τ4 τ5 : Nat) (alA tkA : Nat → Nat) :
    OkR (VV w) (model prog w) s₀ [100] (lawR s₀) (eLw w pc f γ2 γ3 γ4 γ5 z0.2.1 z1.2.1 z2.2.1 z3.2.1 z4.2.1 z5.2.1 z0.2.2 z1.2.2 z2.2.2 z3.2.2 z4.2.2 z5.2.2 e0 e1 e2 e3 e4 e5 z0.1 z1.1 z2.1 z3.1 z4.1 z5.1 d0 d1 d2 d3 d4 d5 LN CN ⟨(spC z0).toArray⟩ ⟨(spC z1).toArray⟩ ⟨(spC z2).toArray⟩ ⟨(spC z3).toArray⟩ ⟨(spC z4).toArray⟩ ⟨(spC z5).toArray⟩ (textOf [z0, z1, z2, z3, z4, z5]) τ0 τ1 τ2 τ3 τ4 τ5 alA tkA) := by
  have h0 := ok_ints H.hz0.1
  have g0 : 0 ≤ (z0.2.1 : Int) ∧ (z0.2.1 : Int) ≤ 5 ∧ 0 ≤ (z0.2.2 : Int) := ⟨h0.1, h0.2.1, h0.2.2.1⟩
  have wo0 := wordOk_of h0.1 h0.2.1 h0.2.2.1 (Int.lt_of_le_of_lt h0.2.2.2 (by decide))
  have h1 := ok_ints H.hz1.1
  have g1 : 0 ≤ (z1.2.1 : Int) ∧ (z1.2.1 : Int) ≤ 5 ∧ 0 ≤ (z1.2.2 : Int) := ⟨h1.1, h1.2.1, h1.2.2.1⟩
  have wo1 := wordOk_of h1.1 h1.2.1 h1.2.2.1 (Int.lt_of_le_of_lt h1.2.2.2 (by decide))
  have h2 := ok_ints H.hz2.1
  have g2 : 0 ≤ (z2.2.1 : Int) ∧ (z2.2.1 : Int) ≤ 5 ∧ 0 ≤ (z2.2.2 : Int) := ⟨h2.1, h2.2.1, h2.2.2.1⟩
  have wo2 := wordOk_of h2.1 h2.2.1 h2.2.2.1 (Int.lt_of_le_of_lt h2.2.2.2 (by decide))
  have h3 := ok_ints H.hz3.1
  have g3 : 0 ≤ (z3.2.1 : Int) ∧ (z3.2.1 : Int) ≤ 5 ∧ 0 ≤ (z3.2.2 : Int) := ⟨h3.1, h3.2.1, h3.2.2.1⟩
  have wo3 := wordOk_of h3.1 h3.2.1 h3.2.2.1 (Int.lt_of_le_of_lt h3.2.2.2 (by decide))
  have h4 := ok_ints H.hz4.1
  have g4 : 0 ≤ (z4.2.1 : Int) ∧ (z4.2.1 : Int) ≤ 5 ∧ 0 ≤ (z4.2.2 : Int) := ⟨h4.1, h4.2.1, h4.2.2.1⟩
  have wo4 := wordOk_of h4.1 h4.2.1 h4.2.2.1 (Int.lt_of_le_of_lt h4.2.2.2 (by decide))
  have h5 := ok_ints H.hz5.1
  have g5 : 0 ≤ (z5.2.1 : Int) ∧ (z5.2.1 : Int) ≤ 5 ∧ 0 ≤ (z5.2.2 : Int) := ⟨h5.1, h5.2.1, h5.2.2.1⟩
  have wo5 := wordOk_of h5.1 h5.2.1 h5.2.2.1 (Int.lt_of_le_of_lt h5.2.2.2 (by decide))
  have hw : ∀ x ∈ [z0, z1, z2, z3, z4, z5], w3Ok x := (allC (H.hz0.1) (allC (H.hz1.1) (allC (H.hz2.1) (allC (H.hz3.1) (allC (H.hz4.1) (allC (H.hz5.1) allN))))))
  exact ⟨⟨_, _, rfl, rfl, rfl⟩, okr_mod _ rfl H.hc0 rfl fun alB1 tkB1 => okr_fdiv _ rfl (fun _ => rfl) H.he0 rfl fun alB2 tkB2 => okr_mod _ rfl H.hp0 rfl fun alB3 tkB3 => okr_mod _ rfl H.hc1 rfl fun alB4 tkB4 => okr_fdiv _ rfl (fun _ => rfl) H.he1 rfl fun alB5 tkB5 => okr_mod _ rfl H.hp1 rfl fun alB6 tkB6 => okr_mod _ rfl H.hc2 rfl fun alB7 tkB7 => okr_fdiv _ rfl (fun _ => rfl) H.he2 rfl fun alB8 tkB8 => okr_mod _ rfl H.hp2 rfl fun alB9 tkB9 => okr_mod _ rfl H.hc3 rfl fun alB10 tkB10 => okr_fdiv _ rfl (fun _ => rfl) H.he3 rfl fun alB11 tkB11 => okr_mod _ rfl H.hp3 rfl fun alB12 tkB12 => okr_mod _ rfl H.hc4 rfl fun alB13 tkB13 => okr_fdiv _ rfl (fun _ => rfl) H.he4 rfl fun alB14 tkB14 => okr_mod _ rfl H.hp4 rfl fun alB15 tkB15 => okr_mod _ rfl H.hc5 rfl fun alB16 tkB16 => okr_fdiv _ rfl (fun _ => rfl) H.he5 rfl fun alB17 tkB17 => okr_mod _ rfl H.hp5 rfl fun alB18 tkB18 => ⟨⟨_, _, rfl, rfl, rfl⟩, okr_repr _ (log_small h0.1 (Int.lt_of_le_of_lt h0.2.1 (by decide))) rfl wo0.l1 rfl fun alB19 tkB19 => okr_sadd _ rfl wo0.l2 rfl fun alB20 tkB20 => okr_repr _ (log_small h0.2.2.1 (Int.lt_of_le_of_lt h0.2.2.2 (by decide))) rfl wo0.l3 rfl fun alB21 tkB21 => okr_sadd _ rfl wo0.len rfl fun alB22 tkB22 => okr_repr _ (log_small h1.1 (Int.lt_of_le_of_lt h1.2.1 (by decide))) rfl wo1.l1 rfl fun alB23 tkB23 => okr_sadd _ rfl wo1.l2 rfl fun alB24 tkB24 => okr_repr _ (log_small h1.2.2.1 (Int.lt_of_le_of_lt h1.2.2.2 (by decide))) rfl wo1.l3 rfl fun alB25 tkB25 => okr_sadd _ rfl wo1.len rfl fun alB26 tkB26 => okr_repr _ (log_small h2.1 (Int.lt_of_le_of_lt h2.2.1 (by decide))) rfl wo2.l1 rfl fun alB27 tkB27 => okr_sadd _ rfl wo2.l2 rfl fun alB28 tkB28 => okr_repr _ (log_small h2.2.2.1 (Int.lt_of_le_of_lt h2.2.2.2 (by decide))) rfl wo2.l3 rfl fun alB29 tkB29 => okr_sadd _ rfl wo2.len rfl fun alB30 tkB30 => okr_repr _ (log_small h3.1 (Int.lt_of_le_of_lt h3.2.1 (by decide))) rfl wo3.l1 rfl fun alB31 tkB31 => okr_sadd _ rfl wo3.l2 rfl fun alB32 tkB32 => okr_repr _ (log_small h3.2.2.1 (Int.lt_of_le_of_lt h3.2.2.2 (by decide))) rfl wo3.l3 rfl fun alB33 tkB33 => okr_sadd _ rfl wo3.len rfl fun alB34 tkB34 => okr_repr _ (log_small h4.1 (Int.lt_of_le_of_lt h4.2.1 (by decide))) rfl wo4.l1 rfl fun alB35 tkB35 => okr_sadd _ rfl wo4.l2 rfl fun alB36 tkB36 => okr_repr _ (log_small h4.2.2.1 (Int.lt_of_le_of_lt h4.2.2.2 (by decide))) rfl wo4.l3 rfl fun alB37 tkB37 => okr_sadd _ rfl wo4.len rfl fun alB38 tkB38 => okr_repr _ (log_small h5.1 (Int.lt_of_le_of_lt h5.2.1 (by decide))) rfl wo5.l1 rfl fun alB39 tkB39 => okr_sadd _ rfl wo5.l2 rfl fun alB40 tkB40 => okr_repr _ (log_small h5.2.2.1 (Int.lt_of_le_of_lt h5.2.2.2 (by decide))) rfl wo5.l3 rfl fun alB41 tkB41 => okr_sadd _ rfl wo5.len rfl fun alB42 tkB42 => ⟨⟨_, _, rfl, rfl, rfl⟩, okr_fdiv _ rfl (fun _ => rfl) H.hy0 rfl fun alB43 tkB43 => okr_spl (x := z0) H.hz0.1 H.hz0.2 rfl fun alB44 tkB44 => okr_fdiv _ rfl (fun _ => rfl) H.hy1 rfl fun alB45 tkB45 => okr_spl (x := z1) H.hz1.1 H.hz1.2 rfl fun alB46 tkB46 => okr_fdiv _ rfl (fun _ => rfl) H.hy2 rfl fun alB47 tkB47 => okr_spl (x := z2) H.hz2.1 H.hz2.2 rfl fun alB48 tkB48 => okr_fdiv _ rfl (fun _ => rfl) H.hy3 rfl fun alB49 tkB49 => okr_spl (x := z3) H.hz3.1 H.hz3.2 rfl fun alB50 tkB50 => okr_fdiv _ rfl (fun _ => rfl) H.hy4 rfl fun alB51 tkB51 => okr_spl (x := z4) H.hz4.1 H.hz4.2 rfl fun alB52 tkB52 => okr_fdiv _ rfl (fun _ => rfl) H.hy5 rfl fun alB53 tkB53 => okr_spl (x := z5) H.hz5.1 H.hz5.2 rfl fun alB54 tkB54 => okr_joinF _ (join_mk _ _ _ _ _ _) join_short rfl fun alB55 tkB55 hfB55 => okr_cmpA ⟨(Nat.le_trans hz (hfB55 8)), (Nat.le_trans hz (hfB55 9)), (Nat.le_trans hz (hfB55 10))⟩ h0 h1 h2 h3 h4 h5 rfl rfl fun alB56 tkB56 hfB56 => okr_sum (sml_of (cvA_v _)) (sml_of (cvA_v _)) (sml_of (cvA_v _)) (sml_of (cvA_v _)) (sml_of (cvA_v _)) (sml_of (cvA_v _)) rfl fun alB57 tkB57 hfB57 => okr_cmpB ⟨(Nat.le_trans hz (hfB57 0)), (Nat.le_trans hz (hfB57 1)), (Nat.le_trans hz (hfB57 2))⟩ h0 h1 h2 h3 h4 h5 rfl rfl fun alB58 tkB58 hfB58 => okr_sum (sml_of (cvB_v _)) (sml_of (cvB_v _)) (sml_of (cvB_v _)) (sml_of (cvB_v _)) (sml_of (cvB_v _)) (sml_of (cvB_v _)) rfl fun alB59 tkB59 hfB59 => okr_dueL H.hdue (by decide) (by decide) fun alB60 tkB60 hfB60 hD => okr_read (X := lwLX alB60 tkB55 tkB60) (words := [z0, z1, z2, z3, z4, z5]) ⟨(Nat.le_trans hz (hfB60 21)), (Nat.le_trans hz (hfB60 4)), (Nat.le_trans hz (hfB60 24))⟩ (text_at hw) rfl rfl H.hLN rfl (by decide) fun alB61 tkB61 hfB61 q1 q2 q3 q4 => okr_dne (Nat.le_trans hz (hfB61 0)) (Nat.le_trans hz (hfB60 0)) q1.nodup (H.HR _ q1 q2 q3 _ hD).1 (H.HR _ q1 q2 q3 _ hD).2 rfl fun alB62 tkB62 => okr_lne (zip_six (by rw [q4]; rfl)) rfl fun alB63 tkB63 => okr_scount _ H.hCN rfl fun alB64 tkB64 => okr_addI rfl fun alB65 tkB65 => okr_ne false H.hLC rfl fun alB66 tkB66 => okr_off g0 g1 g2 g3 g4 g5 (by decide) fun alB67 tkB67 hfB67 r1 r2 r3 => okr_deq (Nat.le_trans hz (hfB67 0)) (Nat.le_trans hz (hfB60 0)) r1.nodup (H.HO _ r1 r2 r3 _ hD).1 (H.HO _ r1 r2 r3 _ hD).2 rfl fun alB68 tkB68 => fun s' hn hc => ⟨rfl, ⟨_, _, hc.1⟩, hn.step⟩⟩⟩⟩
theorem top_100 (w : World) : (topKT w.params).get 100 = none := by kernel_rfl
theorem law_k0 {w : World} {s : Shared} {pc p : Pos} {sc ep : Nat} {vs : List Value} {z0 z1 z2 z3 z4 z5 : W3} {e0 e1 e2 e3 e4 e5 d0 d1 d2 d3 d4 d5 LN CN : Int} {r : List (Int × Int)} (H : LawH z0 z1 z2 z3 z4 z5 e0 e1 e2 e3 e4 e5 d0 d1 d2 d3 d4 d5 LN CN r) (htop : TopIn w s) (h100 : s.heap.get? 100 = some o100) (hsc : s.heap.get? sc = some (lsV vs ep)) (hvl : vs.length ≤ 1000) (hvs : vs.take 6 = []) (hd0 : d0 = 0) (hd1 : d1 = 18) (hd2 : d2 = 38) (hd3 : d3 = 9) (hd4 : d4 = 23) (hd5 : d5 = 49) :
    wpCode (model prog w) (lawX pc (lawC sc)) (lawR s) p s := by
  have hz := htop.size
  have nsc : sc ∉ [100] := fun q => by
    rw [List.mem_singleton.mp q, h100] at hsc
    simp [lsV, o100] at hsc
  have D0 := rep_start (V := VV w) (s := s) (cs := [(100, o100)]) (rs := [(sc, lsV vs ep)]) htop (fun c hc => by rw [List.mem_singleton.mp hc]; exact h100) (by simp) (fun c hc => by rw [List.mem_singleton.mp hc]; exact top_100 w) (fun c hc => by rw [List.mem_singleton.mp hc]; exact ⟨hsc, nsc⟩) (by simp)
  exact run_mix (isM w) (skip_ok _ w) D0 (run_lw0 w pc p sc ep z0.2.1 z1.2.1 z2.2.1 z3.2.1 z4.2.1 z5.2.1 z0.2.2 z1.2.2 z2.2.2 z3.2.2 z4.2.2 z5.2.2 e0 e1 e2 e3 e4 e5 z0.1 z1.1 z2.1 z3.1 z4.1 z5.1 d0 d1 d2 d3 d4 d5 LN CN ⟨(spC z0).toArray⟩ ⟨(spC z1).toArray⟩ ⟨(spC z2).toArray⟩ ⟨(spC z3).toArray⟩ ⟨(spC z4).toArray⟩ ⟨(spC z5).toArray⟩ (textOf [z0, z1, z2, z3, z4, z5]) vs _ _) (okr_sl6 hsc nsc hvs hvl (by decide) fun al1 tk1 => ⟨⟨_, _, rfl, rfl, rfl⟩, okr_sl6 hsc nsc hvs hvl (by decide) fun al2 tk2 => okr_add6 (n := 47) (by rw [hd0, hd1, hd2, hd3, hd4, hd5]; rfl) (by decide) fun al3 tk3 => law_rest H hz _ _ _ _ _ _ _ _ _ _ _ _ _ _⟩)
theorem law_k1 {w : World} {s : Shared} {pc p : Pos} {sc ep : Nat} {vs : List Value} {x0 : Int} {t0 : Nat} {z0 z1 z2 z3 z4 z5 : W3} {e0 e1 e2 e3 e4 e5 d0 d1 d2 d3 d4 d5 LN CN : Int} {r : List (Int × Int)} (H : LawH z0 z1 z2 z3 z4 z5 e0 e1 e2 e3 e4 e5 d0 d1 d2 d3 d4 d5 LN CN r) (htop : TopIn w s) (h100 : s.heap.get? 100 = some o100) (hsc : s.heap.get? sc = some (lsV vs ep)) (hvl : vs.length ≤ 1000) (hvs : vs.take 6 = [.int x0 t0]) (hm0 : x0.fmod 54 = d0) (hd1 : d1 = 18) (hd2 : d2 = 38) (hd3 : d3 = 9) (hd4 : d4 = 23) (hd5 : d5 = 49) :
    wpCode (model prog w) (lawX pc (lawC sc)) (lawR s) p s := by
  have hz := htop.size
  have nsc : sc ∉ [100] := fun q => by
    rw [List.mem_singleton.mp q, h100] at hsc
    simp [lsV, o100] at hsc
  have D0 := rep_start (V := VV w) (s := s) (cs := [(100, o100)]) (rs := [(sc, lsV vs ep)]) htop (fun c hc => by rw [List.mem_singleton.mp hc]; exact h100) (by simp) (fun c hc => by rw [List.mem_singleton.mp hc]; exact top_100 w) (fun c hc => by rw [List.mem_singleton.mp hc]; exact ⟨hsc, nsc⟩) (by simp)
  exact run_mix (isM w) (skip_ok _ w) D0 (run_lw1 w pc p sc ep t0 x0 z0.2.1 z1.2.1 z2.2.1 z3.2.1 z4.2.1 z5.2.1 z0.2.2 z1.2.2 z2.2.2 z3.2.2 z4.2.2 z5.2.2 e0 e1 e2 e3 e4 e5 z0.1 z1.1 z2.1 z3.1 z4.1 z5.1 d0 d1 d2 d3 d4 d5 LN CN ⟨(spC z0).toArray⟩ ⟨(spC z1).toArray⟩ ⟨(spC z2).toArray⟩ ⟨(spC z3).toArray⟩ ⟨(spC z4).toArray⟩ ⟨(spC z5).toArray⟩ (textOf [z0, z1, z2, z3, z4, z5]) vs _ _) (okr_sl6 hsc nsc hvs hvl (by decide) fun al1 tk1 => ⟨⟨_, _, rfl, rfl, rfl⟩, okr_mod _ rfl hm0 rfl fun al2 tk2 => okr_sl6 hsc nsc hvs hvl (by decide) fun al3 tk3 => okr_add6 (n := 44) (by rw [hd1, hd2, hd3, hd4, hd5]; rfl) (by decide) fun al4 tk4 => law_rest H hz _ _ _ _ _ _ _ _ _ _ _ _ _ _⟩)
theorem law_k2 {w : World} {s : Shared} {pc p : Pos} {sc ep : Nat} {vs : List Value} {x0 x1 : Int} {t0 t1 : Nat} {z0 z1 z2 z3 z4 z5 : W3} {e0 e1 e2 e3 e4 e5 d0 d1 d2 d3 d4 d5 LN CN : Int} {r : List (Int × Int)} (H : LawH z0 z1 z2 z3 z4 z5 e0 e1 e2 e3 e4 e5 d0 d1 d2 d3 d4 d5 LN CN r) (htop : TopIn w s) (h100 : s.heap.get? 100 = some o100) (hsc : s.heap.get? sc = some (lsV vs ep)) (hvl : vs.length ≤ 1000) (hvs : vs.take 6 = [.int x0 t0, .int x1 t1]) (hm0 : x0.fmod 54 = d0) (hm1 : x1.fmod 54 = d1) (hd2 : d2 = 38) (hd3 : d3 = 9) (hd4 : d4 = 23) (hd5 : d5 = 49) :
    wpCode (model prog w) (lawX pc (lawC sc)) (lawR s) p s := by
  have hz := htop.size
  have nsc : sc ∉ [100] := fun q => by
    rw [List.mem_singleton.mp q, h100] at hsc
    simp [lsV, o100] at hsc
  have D0 := rep_start (V := VV w) (s := s) (cs := [(100, o100)]) (rs := [(sc, lsV vs ep)]) htop (fun c hc => by rw [List.mem_singleton.mp hc]; exact h100) (by simp) (fun c hc => by rw [List.mem_singleton.mp hc]; exact top_100 w) (fun c hc => by rw [List.mem_singleton.mp hc]; exact ⟨hsc, nsc⟩) (by simp)
  exact run_mix (isM w) (skip_ok _ w) D0 (run_lw2 w pc p sc ep t0 t1 x0 x1 z0.2.1 z1.2.1 z2.2.1 z3.2.1 z4.2.1 z5.2.1 z0.2.2 z1.2.2 z2.2.2 z3.2.2 z4.2.2 z5.2.2 e0 e1 e2 e3 e4 e5 z0.1 z1.1 z2.1 z3.1 z4.1 z5.1 d0 d1 d2 d3 d4 d5 LN CN ⟨(spC z0).toArray⟩ ⟨(spC z1).toArray⟩ ⟨(spC z2).toArray⟩ ⟨(spC z3).toArray⟩ ⟨(spC z4).toArray⟩ ⟨(spC z5).toArray⟩ (textOf [z0, z1, z2, z3, z4, z5]) vs _ _) (okr_sl6 hsc nsc hvs hvl (by decide) fun al1 tk1 => ⟨⟨_, _, rfl, rfl, rfl⟩, okr_mod _ rfl hm0 rfl fun al2 tk2 => okr_mod _ rfl hm1 rfl fun al3 tk3 => okr_sl6 hsc nsc hvs hvl (by decide) fun al4 tk4 => okr_add6 (n := 41) (by rw [hd2, hd3, hd4, hd5]; rfl) (by decide) fun al5 tk5 => law_rest H hz _ _ _ _ _ _ _ _ _ _ _ _ _ _⟩)
theorem law_k3 {w : World} {s : Shared} {pc p : Pos} {sc ep : Nat} {vs : List Value} {x0 x1 x2 : Int} {t0 t1 t2 : Nat} {z0 z1 z2 z3 z4 z5 : W3} {e0 e1 e2 e3 e4 e5 d0 d1 d2 d3 d4 d5 LN CN : Int} {r : List (Int × Int)} (H : LawH z0 z1 z2 z3 z4 z5 e0 e1 e2 e3 e4 e5 d0 d1 d2 d3 d4 d5 LN CN r) (htop : TopIn w s) (h100 : s.heap.get? 100 = some o100) (hsc : s.heap.get? sc = some (lsV vs ep)) (hvl : vs.length ≤ 1000) (hvs : vs.take 6 = [.int x0 t0, .int x1 t1, .int x2 t2]) (hm0 : x0.fmod 54 = d0) (hm1 : x1.fmod 54 = d1) (hm2 : x2.fmod 54 = d2) (hd3 : d3 = 9) (hd4 : d4 = 23) (hd5 : d5 = 49) :
    wpCode (model prog w) (lawX pc (lawC sc)) (lawR s) p s := by
  have hz := htop.size
  have nsc : sc ∉ [100] := fun q => by
    rw [List.mem_singleton.mp q, h100] at hsc
    simp [lsV, o100] at hsc
  have D0 := rep_start (V := VV w) (s := s) (cs := [(100, o100)]) (rs := [(sc, lsV vs ep)]) htop (fun c hc => by rw [List.mem_singleton.mp hc]; exact h100) (by simp) (fun c hc => by rw [List.mem_singleton.mp hc]; exact top_100 w) (fun c hc => by rw [List.mem_singleton.mp hc]; exact ⟨hsc, nsc⟩) (by simp)
  exact run_mix (isM w) (skip_ok _ w) D0 (run_lw3 w pc p sc ep t0 t1 t2 x0 x1 x2 z0.2.1 z1.2.1 z2.2.1 z3.2.1 z4.2.1 z5.2.1 z0.2.2 z1.2.2 z2.2.2 z3.2.2 z4.2.2 z5.2.2 e0 e1 e2 e3 e4 e5 z0.1 z1.1 z2.1 z3.1 z4.1 z5.1 d0 d1 d2 d3 d4 d5 LN CN ⟨(spC z0).toArray⟩ ⟨(spC z1).toArray⟩ ⟨(spC z2).toArray⟩ ⟨(spC z3).toArray⟩ ⟨(spC z4).toArray⟩ ⟨(spC z5).toArray⟩ (textOf [z0, z1, z2, z3, z4, z5]) vs _ _) (okr_sl6 hsc nsc hvs hvl (by decide) fun al1 tk1 => ⟨⟨_, _, rfl, rfl, rfl⟩, okr_mod _ rfl hm0 rfl fun al2 tk2 => okr_mod _ rfl hm1 rfl fun al3 tk3 => okr_mod _ rfl hm2 rfl fun al4 tk4 => okr_sl6 hsc nsc hvs hvl (by decide) fun al5 tk5 => okr_add6 (n := 38) (by rw [hd3, hd4, hd5]; rfl) (by decide) fun al6 tk6 => law_rest H hz _ _ _ _ _ _ _ _ _ _ _ _ _ _⟩)
theorem law_k4 {w : World} {s : Shared} {pc p : Pos} {sc ep : Nat} {vs : List Value} {x0 x1 x2 x3 : Int} {t0 t1 t2 t3 : Nat} {z0 z1 z2 z3 z4 z5 : W3} {e0 e1 e2 e3 e4 e5 d0 d1 d2 d3 d4 d5 LN CN : Int} {r : List (Int × Int)} (H : LawH z0 z1 z2 z3 z4 z5 e0 e1 e2 e3 e4 e5 d0 d1 d2 d3 d4 d5 LN CN r) (htop : TopIn w s) (h100 : s.heap.get? 100 = some o100) (hsc : s.heap.get? sc = some (lsV vs ep)) (hvl : vs.length ≤ 1000) (hvs : vs.take 6 = [.int x0 t0, .int x1 t1, .int x2 t2, .int x3 t3]) (hm0 : x0.fmod 54 = d0) (hm1 : x1.fmod 54 = d1) (hm2 : x2.fmod 54 = d2) (hm3 : x3.fmod 54 = d3) (hd4 : d4 = 23) (hd5 : d5 = 49) :
    wpCode (model prog w) (lawX pc (lawC sc)) (lawR s) p s := by
  have hz := htop.size
  have nsc : sc ∉ [100] := fun q => by
    rw [List.mem_singleton.mp q, h100] at hsc
    simp [lsV, o100] at hsc
  have D0 := rep_start (V := VV w) (s := s) (cs := [(100, o100)]) (rs := [(sc, lsV vs ep)]) htop (fun c hc => by rw [List.mem_singleton.mp hc]; exact h100) (by simp) (fun c hc => by rw [List.mem_singleton.mp hc]; exact top_100 w) (fun c hc => by rw [List.mem_singleton.mp hc]; exact ⟨hsc, nsc⟩) (by simp)
  exact run_mix (isM w) (skip_ok _ w) D0 (run_lw4 w pc p sc ep t0 t1 t2 t3 x0 x1 x2 x3 z0.2.1 z1.2.1 z2.2.1 z3.2.1 z4.2.1 z5.2.1 z0.2.2 z1.2.2 z2.2.2 z3.2.2 z4.2.2 z5.2.2 e0 e1 e2 e3 e4 e5 z0.1 z1.1 z2.1 z3.1 z4.1 z5.1 d0 d1 d2 d3 d4 d5 LN CN ⟨(spC z0).toArray⟩ ⟨(spC z1).toArray⟩ ⟨(spC z2).toArray⟩ ⟨(spC z3).toArray⟩ ⟨(spC z4).toArray⟩ ⟨(spC z5).toArray⟩ (textOf [z0, z1, z2, z3, z4, z5]) vs _ _) (okr_sl6 hsc nsc hvs hvl (by decide) fun al1 tk1 => ⟨⟨_, _, rfl, rfl, rfl⟩, okr_mod _ rfl hm0 rfl fun al2 tk2 => okr_mod _ rfl hm1 rfl fun al3 tk3 => okr_mod _ rfl hm2 rfl fun al4 tk4 => okr_mod _ rfl hm3 rfl fun al5 tk5 => okr_sl6 hsc nsc hvs hvl (by decide) fun al6 tk6 => okr_add6 (n := 35) (by rw [hd4, hd5]; rfl) (by decide) fun al7 tk7 => law_rest H hz _ _ _ _ _ _ _ _ _ _ _ _ _ _⟩)
theorem law_k5 {w : World} {s : Shared} {pc p : Pos} {sc ep : Nat} {vs : List Value} {x0 x1 x2 x3 x4 : Int} {t0 t1 t2 t3 t4 : Nat} {z0 z1 z2 z3 z4 z5 : W3} {e0 e1 e2 e3 e4 e5 d0 d1 d2 d3 d4 d5 LN CN : Int} {r : List (Int × Int)} (H : LawH z0 z1 z2 z3 z4 z5 e0 e1 e2 e3 e4 e5 d0 d1 d2 d3 d4 d5 LN CN r) (htop : TopIn w s) (h100 : s.heap.get? 100 = some o100) (hsc : s.heap.get? sc = some (lsV vs ep)) (hvl : vs.length ≤ 1000) (hvs : vs.take 6 = [.int x0 t0, .int x1 t1, .int x2 t2, .int x3 t3, .int x4 t4]) (hm0 : x0.fmod 54 = d0) (hm1 : x1.fmod 54 = d1) (hm2 : x2.fmod 54 = d2) (hm3 : x3.fmod 54 = d3) (hm4 : x4.fmod 54 = d4) (hd5 : d5 = 49) :
    wpCode (model prog w) (lawX pc (lawC sc)) (lawR s) p s := by
  have hz := htop.size
  have nsc : sc ∉ [100] := fun q => by
    rw [List.mem_singleton.mp q, h100] at hsc
    simp [lsV, o100] at hsc
  have D0 := rep_start (V := VV w) (s := s) (cs := [(100, o100)]) (rs := [(sc, lsV vs ep)]) htop (fun c hc => by rw [List.mem_singleton.mp hc]; exact h100) (by simp) (fun c hc => by rw [List.mem_singleton.mp hc]; exact top_100 w) (fun c hc => by rw [List.mem_singleton.mp hc]; exact ⟨hsc, nsc⟩) (by simp)
  exact run_mix (isM w) (skip_ok _ w) D0 (run_lw5 w pc p sc ep t0 t1 t2 t3 t4 x0 x1 x2 x3 x4 z0.2.1 z1.2.1 z2.2.1 z3.2.1 z4.2.1 z5.2.1 z0.2.2 z1.2.2 z2.2.2 z3.2.2 z4.2.2 z5.2.2 e0 e1 e2 e3 e4 e5 z0.1 z1.1 z2.1 z3.1 z4.1 z5.1 d0 d1 d2 d3 d4 d5 LN CN ⟨(spC z0).toArray⟩ ⟨(spC z1).toArray⟩ ⟨(spC z2).toArray⟩ ⟨(spC z3).toArray⟩ ⟨(spC z4).toArray⟩ ⟨(spC z5).toArray⟩ (textOf [z0, z1, z2, z3, z4, z5]) vs _ _) (okr_sl6 hsc nsc hvs hvl (by decide) fun al1 tk1 => ⟨⟨_, _, rfl, rfl, rfl⟩, okr_mod _ rfl hm0 rfl fun al2 tk2 => okr_mod _ rfl hm1 rfl fun al3 tk3 => okr_mod _ rfl hm2 rfl fun al4 tk4 => okr_mod _ rfl hm3 rfl fun al5 tk5 => okr_mod _ rfl hm4 rfl fun al6 tk6 => okr_sl6 hsc nsc hvs hvl (by decide) fun al7 tk7 => okr_add6 (n := 32) (by rw [hd5]; rfl) (by decide) fun al8 tk8 => law_rest H hz _ _ _ _ _ _ _ _ _ _ _ _ _ _⟩)
theorem law_k6 {w : World} {s : Shared} {pc p : Pos} {sc ep : Nat} {vs : List Value} {x0 x1 x2 x3 x4 x5 : Int} {t0 t1 t2 t3 t4 t5 : Nat} {z0 z1 z2 z3 z4 z5 : W3} {e0 e1 e2 e3 e4 e5 d0 d1 d2 d3 d4 d5 LN CN : Int} {r : List (Int × Int)} (H : LawH z0 z1 z2 z3 z4 z5 e0 e1 e2 e3 e4 e5 d0 d1 d2 d3 d4 d5 LN CN r) (htop : TopIn w s) (h100 : s.heap.get? 100 = some o100) (hsc : s.heap.get? sc = some (lsV vs ep)) (hvl : vs.length ≤ 1000) (hvs : vs.take 6 = [.int x0 t0, .int x1 t1, .int x2 t2, .int x3 t3, .int x4 t4, .int x5 t5]) (hm0 : x0.fmod 54 = d0) (hm1 : x1.fmod 54 = d1) (hm2 : x2.fmod 54 = d2) (hm3 : x3.fmod 54 = d3) (hm4 : x4.fmod 54 = d4) (hm5 : x5.fmod 54 = d5) :
    wpCode (model prog w) (lawX pc (lawC sc)) (lawR s) p s := by
  have hz := htop.size
  have nsc : sc ∉ [100] := fun q => by
    rw [List.mem_singleton.mp q, h100] at hsc
    simp [lsV, o100] at hsc
  have D0 := rep_start (V := VV w) (s := s) (cs := [(100, o100)]) (rs := [(sc, lsV vs ep)]) htop (fun c hc => by rw [List.mem_singleton.mp hc]; exact h100) (by simp) (fun c hc => by rw [List.mem_singleton.mp hc]; exact top_100 w) (fun c hc => by rw [List.mem_singleton.mp hc]; exact ⟨hsc, nsc⟩) (by simp)
  exact run_mix (isM w) (skip_ok _ w) D0 (run_lw6 w pc p sc ep t0 t1 t2 t3 t4 t5 x0 x1 x2 x3 x4 x5 z0.2.1 z1.2.1 z2.2.1 z3.2.1 z4.2.1 z5.2.1 z0.2.2 z1.2.2 z2.2.2 z3.2.2 z4.2.2 z5.2.2 e0 e1 e2 e3 e4 e5 z0.1 z1.1 z2.1 z3.1 z4.1 z5.1 d0 d1 d2 d3 d4 d5 LN CN ⟨(spC z0).toArray⟩ ⟨(spC z1).toArray⟩ ⟨(spC z2).toArray⟩ ⟨(spC z3).toArray⟩ ⟨(spC z4).toArray⟩ ⟨(spC z5).toArray⟩ (textOf [z0, z1, z2, z3, z4, z5]) vs _ _) (okr_sl6 hsc nsc hvs hvl (by decide) fun al1 tk1 => ⟨⟨_, _, rfl, rfl, rfl⟩, okr_mod _ rfl hm0 rfl fun al2 tk2 => okr_mod _ rfl hm1 rfl fun al3 tk3 => okr_mod _ rfl hm2 rfl fun al4 tk4 => okr_mod _ rfl hm3 rfl fun al5 tk5 => okr_mod _ rfl hm4 rfl fun al6 tk6 => okr_mod _ rfl hm5 rfl fun al7 tk7 => okr_sl6 hsc nsc hvs hvl (by decide) fun al8 tk8 => okr_add6 (n := 29) rfl (by decide) fun al9 tk9 => law_rest H hz _ _ _ _ _ _ _ _ _ _ _ _ _ _⟩)
end Mine
namespace Mine
open PySem PySem.W PySem.W.X
open Sem (wp finPost)
/-! the law, whatever the script -/
noncomputable def dz (d : Int) : W3 := ((d / 18).toNat, (d % 6).toNat, (d / 6 % 3).toNat)
theorem dz_ok {d : Int} (h : 0 ≤ d ∧ d < 54) : (w3Ok (dz d) ∧ (dz d).1 < 3) ∧ d.fmod 6 = ((dz d).2.1 : Int) ∧ (d.fdiv 6).fmod 3 = ((dz d).2.2 : Int) ∧ d.fdiv 18 = ((dz d).1 : Int) := by
  rw [Int.fmod_eq_emod_of_nonneg _ (by decide), Int.fdiv_eq_ediv_of_nonneg _ (by decide), Int.fmod_eq_emod_of_nonneg _ (by decide), Int.fdiv_eq_ediv_of_nonneg _ (by decide)]
  unfold w3Ok dz
  dsimp only
  omega
theorem v3_wt {cv : Int → Int} {z : W3} (h : w3Ok z) : v3 cv z = cv z.2.1 * wt z.2.2 := by
  unfold v3; rw [wt_pow h.2]
theorem chip_wt {cv : Int → Int} {z : W3} (h : w3Ok z) : cv (z.2.1 : Int) * (-2) ^ ((z.2.2 : Int)).toNat = cv z.2.1 * wt z.2.2 := by
  rw [wt_pow h.2, Int.toNat_natCast]
theorem law_h {d0 d1 d2 d3 d4 d5 : Int} (h0 : 0 ≤ d0 ∧ d0 < 54) (h1 : 0 ≤ d1 ∧ d1 < 54) (h2 : 0 ≤ d2 ∧ d2 < 54) (h3 : 0 ≤ d3 ∧ d3 < 54) (h4 : 0 ≤ d4 ∧ d4 < 54) (h5 : 0 ≤ d5 ∧ d5 < 54) :
    ∃ LN CN r, LawH (dz d0) (dz d1) (dz d2) (dz d3) (dz d4) (dz d5) (d0.fdiv 6) (d1.fdiv 6) (d2.fdiv 6) (d3.fdiv 6) (d4.fdiv 6) (d5.fdiv 6) d0 d1 d2 d3 d4 d5 LN CN r := by
  obtain ⟨a0, b0, c0, e0⟩ := dz_ok h0
  obtain ⟨a1, b1, c1, e1⟩ := dz_ok h1
  obtain ⟨a2, b2, c2, e2⟩ := dz_ok h2
  obtain ⟨a3, b3, c3, e3⟩ := dz_ok h3
  obtain ⟨a4, b4, c4, e4⟩ := dz_ok h4
  obtain ⟨a5, b5, c5, e5⟩ := dz_ok h5
  generalize dz d0 = z0 at *
  generalize dz d1 = z1 at *
  generalize dz d2 = z2 at *
  generalize dz d3 = z3 at *
  generalize dz d4 = z4 at *
  generalize dz d5 = z5 at *
  have sA : ∀ z : W3, Sml (cvA z.2.1 * wt z.2.2) := fun z => sml_of (cvA_v _)
  have sB : ∀ z : W3, Sml (cvB z.2.1 * wt z.2.2) := fun z => sml_of (cvB_v _)
  have A0 := sA z0; have A1 := sA z1; have A2 := sA z2; have A3 := sA z3; have A4 := sA z4; have A5 := sA z5
  have B0 := sB z0; have B1 := sB z1; have B2 := sB z2; have B3 := sB z3; have B4 := sB z4; have B5 := sB z5
  unfold Sml at A0 A1 A2 A3 A4 A5 B0 B1 B2 B3 B4 B5
  obtain ⟨r, hr⟩ := due_some (a := 0 + cvA z0.2.1 * wt z0.2.2 + cvA z1.2.1 * wt z1.2.2 + cvA z2.2.1 * wt z2.2.2 + cvA z3.2.1 * wt z3.2.2 + cvA z4.2.1 * wt z4.2.2 + cvA z5.2.1 * wt z5.2.2) (b := 0 + cvB z0.2.1 * wt z0.2.2 + cvB z1.2.1 * wt z1.2.2 + cvB z2.2.1 * wt z2.2.2 + cvB z3.2.1 * wt z3.2.2 + cvB z4.2.1 * wt z4.2.2 + cvB z5.2.1 * wt z5.2.2) (by omega) (by omega)
  have iv : ∀ cv : Int → Int, isum ([z0, z1, z2, z3, z4, z5].map (v3 cv)) = 0 + cv z0.2.1 * wt z0.2.2 + cv z1.2.1 * wt z1.2.2 + cv z2.2.1 * wt z2.2.2 + cv z3.2.1 * wt z3.2.2 + cv z4.2.1 * wt z4.2.2 + cv z5.2.1 * wt z5.2.2 := fun cv => by
    show v3 cv z0 + (v3 cv z1 + (v3 cv z2 + (v3 cv z3 + (v3 cv z4 + (v3 cv z5 + 0))))) = _
    rw [v3_wt a0.1, v3_wt a1.1, v3_wt a2.1, v3_wt a3.1, v3_wt a4.1, v3_wt a5.1]
    omega
  have ic : ∀ cv : Int → Int, chipS cv z0.2.1 z0.2.2 z1.2.1 z1.2.2 z2.2.1 z2.2.2 z3.2.1 z3.2.2 z4.2.1 z4.2.2 z5.2.1 z5.2.2 = 0 + cv z0.2.1 * wt z0.2.2 + cv z1.2.1 * wt z1.2.2 + cv z2.2.1 * wt z2.2.2 + cv z3.2.1 * wt z3.2.2 + cv z4.2.1 * wt z4.2.2 + cv z5.2.1 * wt z5.2.2 := fun cv => by
    show _ + (_ + (_ + (_ + (_ + (_ + 0))))) = _
    rw [chip_wt a0.1, chip_wt a1.1, chip_wt a2.1, chip_wt a3.1, chip_wt a4.1, chip_wt a5.1]
    omega
  have nl : ((Builtin.Str.occurrences (textOf [z0, z1, z2, z3, z4, z5]) ⟨#[10]⟩ 0 (textOf [z0, z1, z2, z3, z4, z5]).length ((textOf [z0, z1, z2, z3, z4, z5]).length + 1)).length : Int) = (([z0, z1, z2, z3, z4, z5].countP fun x => x.1 = 0 : Nat) : Int) := by
    rw [occ_count]
    show (((flat3 [z0, z1, z2, z3, z4, z5]).toArray.toList.count 10 : Nat) : Int) = _
    rw [List.toList_toArray, nl_flat]
    exact allC a0.2 (allC a1.2 (allC a2.2 (allC a3.2 (allC a4.2 (allC a5.2 allN)))))
  refine ⟨_, _, r, ⟨a0, b0, rfl, c0, e0, a1, b1, rfl, c1, e1, a2, b2, rfl, c2, e2, a3, b3, rfl, c3, e3, a4, b4, rfl, c4, e4, a5, b5, rfl, c5, e5, hr, ?_, ?_, rfl, nl, ?_⟩⟩
  · intro L hL hp hR D hD
    rw [iv, iv] at hR
    exact row_same hL hp hR hr hD
  · intro L hL hp hR D hD
    rw [ic, ic] at hR
    exact row_same hL hp hR hr hD
  · simp only [bne_eq_false_iff_eq]; omega
theorem fmod54 (x : Int) : 0 ≤ x.fmod 54 ∧ x.fmod 54 < 54 := by
  rw [Int.fmod_eq_emod_of_nonneg _ (by decide)]
  omega
noncomputable def vInts (ns : List Int) (ts : List Nat) : List Value := (ns.zip ts).map fun x => .int x.1 x.2
theorem law_any {w : World} {s : Shared} {pc p : Pos} {sc ep : Nat} (ns : List Int) (ts : List Nat) (hl : ns.length = ts.length) (htop : TopIn w s) (h100 : s.heap.get? 100 = some o100) (hsc : s.heap.get? sc = some (lsV (vInts ns ts) ep)) (hn : ns.length ≤ 1000) :
    wpCode (model prog w) (lawX pc (lawC sc)) (lawR s) p s := by
  have hvl : (vInts ns ts).length ≤ 1000 := by simp [vInts]; omega
  match ns, ts, hl, hsc, hvl with
  | [], [], _, hsc, hvl =>
    obtain ⟨LN, CN, r, H⟩ := law_h (d0 := 0) (d1 := 18) (d2 := 38) (d3 := 9) (d4 := 23) (d5 := 49) (by decide) (by decide) (by decide) (by decide) (by decide) (by decide)
    exact law_k0 H htop h100 hsc hvl rfl rfl rfl rfl rfl rfl rfl
  | [x0], [t0], _, hsc, hvl =>
    obtain ⟨LN, CN, r, H⟩ := law_h (d1 := 18) (d2 := 38) (d3 := 9) (d4 := 23) (d5 := 49) (fmod54 x0) (by decide) (by decide) (by decide) (by decide) (by decide)
    exact law_k1 H htop h100 hsc hvl rfl rfl rfl rfl rfl rfl rfl
  | [x0, x1], [t0, t1], _, hsc, hvl =>
    obtain ⟨LN, CN, r, H⟩ := law_h (d2 := 38) (d3 := 9) (d4 := 23) (d5 := 49) (fmod54 x0) (fmod54 x1) (by decide) (by decide) (by decide) (by decide)
    exact law_k2 H htop h100 hsc hvl rfl rfl rfl rfl rfl rfl rfl
  | [x0, x1, x2], [t0, t1, t2], _, hsc, hvl =>
    obtain ⟨LN, CN, r, H⟩ := law_h (d3 := 9) (d4 := 23) (d5 := 49) (fmod54 x0) (fmod54 x1) (fmod54 x2) (by decide) (by decide) (by decide)
    exact law_k3 H htop h100 hsc hvl rfl rfl rfl rfl rfl rfl rfl
  | [x0, x1, x2, x3], [t0, t1, t2, t3], _, hsc, hvl =>
    obtain ⟨LN, CN, r, H⟩ := law_h (d4 := 23) (d5 := 49) (fmod54 x0) (fmod54 x1) (fmod54 x2) (fmod54 x3) (by decide) (by decide)
    exact law_k4 H htop h100 hsc hvl rfl rfl rfl rfl rfl rfl rfl
  | [x0, x1, x2, x3, x4], [t0, t1, t2, t3, t4], _, hsc, hvl =>
    obtain ⟨LN, CN, r, H⟩ := law_h (d5 := 49) (fmod54 x0) (fmod54 x1) (fmod54 x2) (fmod54 x3) (fmod54 x4) (by decide)
    exact law_k5 H htop h100 hsc hvl rfl rfl rfl rfl rfl rfl rfl
  | x0 :: x1 :: x2 :: x3 :: x4 :: x5 :: ns, t0 :: t1 :: t2 :: t3 :: t4 :: t5 :: ts, _, hsc, hvl =>
    obtain ⟨LN, CN, r, H⟩ := law_h (fmod54 x0) (fmod54 x1) (fmod54 x2) (fmod54 x3) (fmod54 x4) (fmod54 x5)
    exact law_k6 H htop h100 hsc hvl rfl rfl rfl rfl rfl rfl rfl
end Mine
namespace Mine
open PySem PySem.W PySem.W.X
open Sem (wp finPost)
/-! from the top's view to the law -/
theorem top_of {K : Params → Frag} {as : List Addr} {n t : Nat} {w : World} {s₀ : Shared} (y : obsZ as s₀ = valZ K n t w) (e : ∀ P, as = (K P).map (·.1)) (hk : (keysOf (topKT w.params) 1 0).map (fun k => (K w.params).lookup k) = (keysOf (topKT w.params) 1 0).map (topKT w.params).get) (h1 : (K w.params).lookup 100 = some o100) : TopIn w s₀ ∧ s₀.heap.get? 100 = some o100 := by
  have y1 : as.map s₀.heap.get? = (K w.params).map fun p => some p.2 := congrArg Prod.fst y
  have hin : (K w.params).In s₀.heap := Frag.in_of (e w.params) y1
  refine ⟨fun j o ho => ?_, hin 100 _ h1⟩
  have hm := mem_keysOf (topKT w.params) 1 0 j o ho
  rw [Nat.one_mul, Nat.add_zero] at hm
  have h2 := List.map_inj_left.mp hk j hm
  exact hin j o (h2.trans ho)
theorem lay_vals {R : WRecords} {cl : Str → Option Addr} {P : Params} {ord : List DictEntry → List DictEntry} : ∀ (ns : List Int) (s : Shared) (r : List Value × Shared), layAllW R cl P ord (ofPys (ns.map PyData.int)) s = some r → ∃ ts, ns.length = ts.length ∧ r.1 = vInts ns ts
  | [], s, r, e => by
    have : layAllW R cl P ord (ofPys (List.map PyData.int [])) s = some ([], s) := by simp [ofPys, layAllW]
    rw [this] at e
    cases e; exact ⟨[], rfl, rfl⟩
  | n :: ns, s, r, e => by
    simp only [List.map_cons, ofPys, ofPy, layAllW, layW] at e
    cases q : layAllW R cl P ord (ofPys (List.map PyData.int ns)) { s with toks := s.toks + 1 } with
    | none => rw [q] at e; cases e
    | some r' =>
      rw [q] at e
      cases e
      obtain ⟨ts, h1, h2⟩ := lay_vals ns _ r' q
      exact ⟨s.toks :: ts, by simp [h1], by rw [h2]; rfl⟩
theorem script_in {R : WRecords} {w : World} {s₀ s₁ : Shared} {ns : List Int} {vals : List Value} {as : List Addr} (L : Laid R w s₀ s₁ [ofPy (PyData.list (ns.map PyData.int))] vals as) : ∃ b ts, vals = [.ref b] ∧ ns.length = ts.length ∧ s₁.heap.get? b = some (lsV (vInts ns ts) 0) := by
  obtain ⟨ord, _, e⟩ := L.laid
  simp only [ofPy, layAllW, layW] at e
  cases q : layAllW R (classAt s₀.heap) w.params ord (ofPys (List.map PyData.int ns)) s₀ with
  | none => rw [q] at e; cases e
  | some r =>
    rw [q] at e
    obtain ⟨ts, h1, h2⟩ := lay_vals ns s₀ r q
    simp only [Option.some.injEq, Prod.mk.injEq] at e
    obtain ⟨ea, es⟩ := e
    refine ⟨_, ts, ea.symm, h1, ?_⟩
    rw [← es, ← h2]
    exact Heap.get?_push_size _ rfl
theorem law_139 {w : World} {s₀ : Shared} {a : Addr} (T : TopIn w s₀) (ha : s₀.heap.nsMap mainGlobals "law" = some (.ref a)) : a = 139 := by
  have h3 : (topKT w.params).get 3 = some (o3 w.params) := by kernel_rfl
  have g := T 3 _ h3
  have e : s₀.heap.nsMap mainGlobals "law" = some (.ref 139) := by
    unfold Heap.nsMap
    rw [show mainGlobals = 3 from rfl, g]
    show nsFind _ (Str.ofString "law") = some (.ref 139)
    kernel_rfl
  rw [e] at ha
  cases ha; rfl
theorem law_top {R : WRecords} {w : World} {s₀ s₁ : Shared} {ns : List Int} {vals : List Value} {as : List Addr} {a : Addr} (T : TopIn w s₀) (h1 : s₀.heap.get? 100 = some o100) (L : Laid R w s₀ s₁ [ofPy (PyData.list (ns.map PyData.int))] vals as) (ha : s₀.heap.nsMap mainGlobals "law" = some (.ref a)) (hlen : ns.length ≤ 1000) (p : Pos) :
    wp (model prog w) ⟨.builtin "claim.caller" {}, none, none, [], none⟩ (call (.ref a) vals) (fun v _ s' => v = .bool true ∧ OldK s₁.heap s'.heap ∧ s'.os = s₁.os ∧ s'.gens = s₁.gens) (fun _ _ _ => False) p s₁ := by
  have := law_139 T ha
  subst this
  obtain ⟨b, ts, rfl, hl, hb⟩ := script_in L
  have T1 : TopIn w s₁ := fun j o e => L.keeps j o (T j o e)
  have h1' := L.keeps 100 _ h1
  obtain ⟨r, s', hr, rfl, ⟨x, z, hx⟩, st⟩ := law_any (w := w) (s := s₁) (pc := p) (p := p) ns ts hl T1 h1' hb hlen
  have hK : OldK s₁.heap s'.heap := by
    have hcd : s₁.heap.get? 104 = some (o104 w.params) := T1 104 _ (by kernel_rfl)
    refine ⟨fun b o e => ?_, fun b o e => ?_⟩
    · by_cases hb : b = 100
      · subst hb
        rw [h1'] at e
        cases e
        exact .inr (.inl ⟨⟨104, o104 w.params, _, hcd, rfl, rfl, rfl⟩, rfl, #[], #[.int 110 0, .int 4 0, .ref x, .int 114 0, .int 13 0, .ref z], rfl, by rw [hx]; simp [o100, o100E]⟩)
      · exact .inl (st.keep b o e (by simpa using hb))
    · by_cases hb : b = 100
      · subst hb; exact ⟨_, hx⟩
      · exact ⟨o, st.keep b o e (by simpa using hb)⟩
  show wp _ _ (runValue (.call (.ref 139) ⟨[.ref b], []⟩)) _ _ p s₁
  unfold runValue run
  rw [Sem.wp_bind', Sem.wp_call]
  refine ⟨.ok (.ret (.bool true)), s', hr, ?_⟩
  exact ⟨rfl, hK, st.os, st.gens⟩
end Mine
namespace Mine
open PySem PySem.W PySem.W.X
open Sem (wp finPost)
theorem law_good {w : World} {s₀ s₁ s' : Shared} {ns : List Int} (hg : s₁.gens = #[]) (hK : OldK s₁.heap s'.heap) (hos : s'.os = s₁.os) (hge : s'.gens = s₁.gens) :
    GoodWG PySem.Challenge.rw_pg0116_01.row.claim (classAt s₀.heap) (ExcName.means s₀.heap) [ofPy (PyData.list (ns.map PyData.int))] s₁ (.ok (.ret (.bool true))) s' := by
  refine ⟨.inl ⟨.bool true, .bool true, [], rfl, fun cls => ?_, .bool true, ?_, fun _ => ⟨List.nodup_nil, fun a ha => (by cases ha)⟩⟩, hK, hos, .of_eq (hge.trans hg)⟩
  · rfl
  · wrow_post
end Mine
namespace MineH
open PySem PySem.W PySem.W.X PySem.Spec PySem.Calls PyProof.Rows
open Sem (wp finPost)
/-! the head at the caller's own context (no other is asked by the claim) -/
noncomputable def Γ₀ : PySem.Ctx := ⟨.builtin "claim.caller" {}, none, none, [], none⟩
theorem ends0 {prog : Program} {w : World} {t : Sem Fin} {s : Shared} {R : Result → Shared → Prop} (hreg : s.asleep)
    (h : wp (model prog w) Γ₀ t (fun fin _ s' => ∃ f, fin = .done f ∧ (R (.ok f) s' ∧ leftWithCleanup s'.gens = false)) (fun e _ s' => R (.error e) s' ∧ leftWithCleanup s'.gens = false) default s) :
    ∃ n r s' s'', runN (denote table) prog w n s ⟨t, .builtin "claim.caller" {}, default, []⟩ = .halted (outcomeOf r) s' ∧
      schedN (denote table) prog w n (.single s ⟨t, .builtin "claim.caller" {}, default, []⟩) = .halted (outcomeOf r) s' ∧ s'.forget = s''.forget ∧ R r s'' := by
  have h' : wp (model prog w) Γ₀ t (finPost (model prog w) Γ₀ fun r s' => R r s' ∧ leftWithCleanup s'.gens = false) (fun e _ s' => R (.error e) s' ∧ leftWithCleanup s'.gens = false) default s := by
    refine Sem.wp_mono _ _ t (fun fin p' s' q => ?_) (fun _ _ _ q => q) _ _ h
    obtain ⟨f, rfl, hf⟩ := q
    exact hf
  obtain ⟨n, r, s₁, s₂, hs, hn, hfo, hR⟩ := wp_halts_full (M := model prog w) (R := R) hreg h'
  exact ⟨n, r, s₂, s₁, hn, hs, hfo, hR⟩
theorem callFrom0 {c : ClaimW} {tree : List Value → Sem Fin} {w : World} {s : Shared} {free : Addr → Prop} {gens : Prop} {kept : Heap → Prop} (hz : s.asleep) (hgens : s.gens = #[])
    (hspec : ∀ args, c.pre args = true → WData.layableAll args = true → ∀ ord : List DictEntry → List DictEntry, (∀ l, (ord l).Perm l) →
      ∃ vs s₁, layAllW c.records (classAt s.heap) w.params ord args s = some (vs, s₁) ∧
        wp (model c.prog w) Γ₀ (tree vs) (fun fin _ s' => ∃ f, fin = .done f ∧ (c.Ends s args vs s₁ (.ok f) s' ∧ s'.os = s.os ∧ AllBare s'.gens ∧ kept s'.heap))
          (fun e _ s' => c.Ends s args vs s₁ (.error e) s' ∧ s'.os = s.os ∧ AllBare s'.gens ∧ kept s'.heap) default s₁) :
    c.CallFrom (fun vs => ⟨tree vs, .builtin "claim.caller" {}, default, []⟩) w free gens kept s := by
  intro args hpre hlay ord hord
  obtain ⟨vs, s₁, hlaid, hcode⟩ := hspec args hpre hlay ord hord
  have hal := layAllW_rest _ _ _ hlaid
  obtain ⟨k, r, s', s'', hrun, hsched, hfo, hcase, hos, hkp⟩ := ends0 (prog := c.prog) (w := w) (t := tree vs) (s := s₁) (R := fun r s' => c.Ends s args vs s₁ r s' ∧ s'.os = s.os ∧ kept s'.heap)
    (Shared.asleep_of_life hal.2.2.2 hz)
    (Sem.wp_mono _ _ _ (fun fin _ s' ⟨f, e, h1, h2, h3, h4⟩ => ⟨f, e, ⟨h1, h2, h4⟩, leftWithCleanup_false_of_bare h3⟩) (fun e _ s' ⟨h1, h2, h3, h4⟩ => ⟨⟨h1, h2, h4⟩, leftWithCleanup_false_of_bare h3⟩) _ _ hcode)
  obtain ⟨eh, _, _, eo, _⟩ := Shared.forget_eq hfo
  have hcase := hcase.congr eh
  have hkp : kept s'.heap := by rw [eh]; exact hkp
  rw [← eo] at hos
  have hlife : s'.heap.life = s.heap.life := (runN_life _ _ _ hrun).trans hal.2.2.2
  refine ⟨vs, s₁, hlaid, k, _, s', hsched, ?_, (fun _ i x hx => by rw [hgens] at hx; simp at hx), hkp, by rw [hlife], Shared.rest_eq hos⟩
  rcases hcase with ⟨v, rfl, d1, d2, d3, d4, d5⟩ | ⟨e, ob, cls, rfl, d1, d2, d3, d4, d5⟩
  · exact .inl ⟨v, rfl, d1, d2, d3, fun b o y _ => d4 b o y, d5⟩
  · exact .inr ⟨e, ob, cls, rfl, d1, d2, d3, d4, fun b o y _ => d5 b o y⟩
/-- what is left to show: the call, at the caller's context -/
noncomputable abbrev Walk0 {α : Type} (Yf : Shared → α) (Ya : World → α) (r : RowW) : Prop :=
  ∀ (w : World) (s₀ s₁ : Shared), Yf s₀ = Ya w → s₁.gens = #[] → ∀ (a : Addr), s₀.heap.nsMap mainGlobals r.name = some (.ref a) →
    ∀ (args : List WData) (vals : List Value) (as : List Addr), Laid r.records w s₀ s₁ args vals as → r.claim.pre args = true → WData.layableAll args = true → ReadsAllW r.records (classAt s₀.heap) s₁.heap vals args as →
      wp (model r.prog w) Γ₀ (PySem.call (.ref a) vals) (fun v _ s' => GoodWG r.claim (classAt s₀.heap) (ExcName.means s₀.heap) args s₁ (.ok (.ret v)) s')
        (fun e _ s' => GoodWG r.claim (classAt s₀.heap) (ExcName.means s₀.heap) args s₁ (.error e) s') default s₁
theorem PySem.W.holds_openX {r : OpenRow} {q : Program} {loose : List Str} {Xt : Shared → Bool} {XP : (Str → Option Value) → Heap → Prop} {α : Type} {Yf : Shared → α} {Ya : World → α} {d : DefRec} {kwd : List (Str × PySem.Expr)} {N : Nat}
    (left : LeftO r.prog q loose Xt Yf Ya N)
    (hX : ∀ s, Xt s = true → XP (s.heap.nsMap mainGlobals) s.heap) (hXk : ∀ mg h h', XP mg h → (∀ b o, h.get? b = some o → h'.get? b = some o) → XP mg h')
    (hdef : defOf q r.name = some (d, kwd)) (hp : r.prog.theDef r.name = some (d.params, d.body, d.scope)) (hk : kwWritten? d.params.kwonlyargs d.params.kw_defaults = some kwd) (hRf : ∀ s, Xt s = true → RecFacts r.records s.heap) (hwr : (!r.writes || r.records.isEmpty) = true)
    (k1 : r.wellSaid = true) (ok : (chainsOk q && opensWell r.prog && (frees r.toRowW && r.within.isEmpty)) = true) (hb : r.prog.bare) (hw : r.toRowW.promised)
    (call : Walk0 Yf Ya r.toRowW) : r.Holds := by
  refine ⟨k1, hw, ?_⟩
  obtain ⟨ok, k5⟩ := Bool.and_eq_true_iff.mp ok
  obtain ⟨hch, o1⟩ := Bool.and_eq_true_iff.mp ok
  obtain ⟨k5, k6⟩ := Bool.and_eq_true_iff.mp k5
  obtain ⟨hsame, hu, ha, hap, hm⟩ := frees_parts k5
  refine ⟨⟨hb, o1, by show r.makers.map _ = []; rw [hm]; rfl⟩, hw.witness, fun w => ⟨(left.behind hX hch w).1, fun s' hs' => ?_⟩⟩
  obtain ⟨s₀, hf, hg0, s, hT, hz, hgens, hg, G00, y⟩ := (left.behind (XP := fun mg h => XP mg h ∧ RecFacts r.records h) (fun s hs => ⟨hX s hs, hRf s hs⟩) hch w).2 s' hs'
  have G0 : Ground q loose [] XP w s (s.heap.nsMap mainGlobals) (s.heap.nsMap builtinsNs) s.heap := ⟨G00.T, G00.B, G00.D, G00.TE, G00.TD, G00.W, G00.X.1, G00.cls, G00.has, G00.apart, G00.once, G00.K⟩
  have RF := G00.X.2
  have hT' := hT
  refine ⟨s₀, hf, hg0, s, hT, fun n hn => ?_, RF.1, RF.2.1, ?_⟩
  · obtain rfl : n = r.name := by split at hn <;> simp_all
    exact pinned_of_view hg G0 hdef hp hk
  have hgens : s.gens = #[] := Array.eq_empty_of_size_eq_zero (beq_iff_eq.mp hgens)
  have G : Ground q loose r.records XP w s _ _ s.heap := RF.ground G0
  refine callFrom0 (c := r.toRowW.claim) hz hgens fun args hpre hlay ord hord => ?_
  obtain ⟨⟨vs, s₁⟩, hlaid⟩ := Option.isSome_iff_exists.mp (layAllW_isSome (P := w.params) (ord := ord) G.has args r.args s (pre_splitW hpre).1)
  have keeps := layAllW_keeps _ _ _ hlaid
  have hal := layAllW_rest _ _ _ hlaid
  obtain ⟨as, hrd, hin, hold⟩ := reads_layAllW hord _ _ _ hlaid hlay s₁.heap (fun _ _ e => e)
  have L : Laid r.records w s s₁ args vs as := ⟨⟨ord, hord, hlaid⟩, hrd, hin, hold, keeps, hal.1.trans hgens, hal.2.2.1⟩
  have G₁ := G.keeps hXk keeps
  obtain ⟨a, o, pm, cd, doc, dV, kV, h1, h2, h3, h4, h5⟩ := G₁.fn hdef
  have h := call w s s₁ y L.gens a h1 args vs as L hpre hlay L.reads
  have hi := ident_freeW hu ha hap
  have hwi : r.claim.within = [] := List.isEmpty_iff.mp k6
  refine ⟨vs, s₁, hlaid, ?_⟩
  rw [Sem.wp_bind']
  refine (Sem.wp_nsGet _ _ _ _ _ G₁.T.g r.name _).mpr ?_
  rw [h1]
  dsimp only
  rw [Sem.wp_bind']
  refine Sem.wp_mono _ _ _ (fun v p' s' g => ?_) (fun e p' s' g => ?_) _ _ h
  · exact ⟨_, rfl, have z := g.laid (c := r.toRowW.claim) hsame hwi hi L; ⟨z.1, z.2.1, z.2.2, fun q => ⟨namesKept_of hT' hg _ keeps g.2.1.old, noTable hwr q⟩⟩⟩
  · exact have z := g.laid (c := r.toRowW.claim) hsame hwi hi L; ⟨z.1, z.2.1, z.2.2, fun q => ⟨namesKept_of hT' hg _ keeps g.2.1.old, noTable hwr q⟩⟩
end MineH
namespace Mine
open PySem PySem.W PySem.W.X
noncomputable def viewQ : Program := view prog [1, 3, 4, 5, 6, 7, 9, 11, 12, 13, 14, 15, 16, 17]
noncomputable def fragK (P : Params) : Frag := (100, o100) :: topFrag P
noncomputable def fragA : List Addr := [100, 0, 2, 3, 4, 20, 21, 27, 28, 34, 35, 41, 42, 48, 49, 55, 56, 69, 70, 76, 77, 83, 84, 90, 91, 93, 94, 104, 105, 109, 110, 114, 115, 121, 122, 126, 127, 133, 134, 138, 139]
noncomputable def XtQ (s : Shared) : Bool := xlAt viewQ [] s && recOk (RowW.records PySem.Challenge.rw_pg0116_01.row.toRowW) s
end Mine
namespace MineH
open _root_.PySem _root_.PySem.W _root_.PySem.W.X _root_.PySem.Spec _root_.PySem.Calls _root_.PyProof.Rows
set_option maxHeartbeats 0 in
theorem left0 : LeftO Mine.prog Mine.viewQ [] Mine.XtQ (obsZ Mine.fragA) (valZ Mine.fragK 140 380) 1654 := by
  intro w
  unfold openEnds fencedOpening topFrom
  rw [PySem.W.Fast.te10274390034422433532, PySem.W.Fast.te14289696077712309145, PySem.W.Fast.te14082659384304107361, PySem.W.Fast.te1435165496053646825, PySem.W.Fast.te4187177175401517315, PySem.W.Fast.te14364793385576792824]
  kernel_rfl
end MineH
namespace MineH
open _root_.PySem _root_.PySem.W _root_.PySem.W.X _root_.PySem.Spec _root_.PySem.Calls _root_.PyProof.Rows
noncomputable abbrev rowO : OpenRow := PySem.Challenge.rw_pg0116_01.row
theorem h0 : (defOf Mine.viewQ rowO.name).isSome = true := by kernel_rfl
noncomputable def dQ : DefRec × List (Str × PySem.Expr) := (defOf Mine.viewQ rowO.name).get h0
theorem h1 : defOf Mine.viewQ rowO.name = some (dQ.1, dQ.2) := (Option.some_get h0).symm
theorem h2 : (chainsOk Mine.viewQ && opensWell rowO.prog && (frees rowO.toRowW && rowO.within.isEmpty)) = true := by kernel_rfl
theorem h3 : rowO.prog.bare := ⟨rfl, rfl, rfl, rfl, rfl, by decide +kernel⟩
theorem h4 : rowO.prog.theDef rowO.name = some (dQ.1.params, dQ.1.body, dQ.1.scope) := by kernel_rfl
theorem h5 : kwWritten? dQ.1.params.kwonlyargs dQ.1.params.kw_defaults = some dQ.2 := by kernel_rfl
theorem g1 (P : Params) : Mine.fragA = (Mine.fragK P).map (·.1) := by kernel_rfl
theorem g2 (P : Params) : (Mine.keysOf (Mine.topKT P) 1 0).map (fun k => (Mine.fragK P).lookup k) = (Mine.keysOf (Mine.topKT P) 1 0).map (Mine.topKT P).get := by kernel_rfl
theorem g3 (P : Params) : (Mine.fragK P).lookup 100 = some Mine.o100 := by kernel_rfl
theorem said0 : OpenLaw.wellSaid PySem.Challenge.rw_pg0116_01 = true := by rw [PySem.W.Fast.te9446332074065402090]; kernel_rfl
set_option maxHeartbeats 0 in
theorem core : PySem.Challenge.rw_pg0116_01.Holds := by
  w_on; refine holds_law said0 fun _ => ?_
  refine MineH.PySem.W.holds_openX (XP := XL Mine.viewQ []) left0 (fun s e => xl_of s (Bool.and_eq_true_iff.mp e).1) XL.keeps h1 h4 h5 (fun s e => recFacts_of (Bool.and_eq_true_iff.mp e).2) (by kernel_rfl) (by first | assumption | decide +kernel) h2 h3 ?hw ?hc
  (case hw => w_witness2)
  intro w s₀ s₁ y hg a ha args vals as L hpre hlay hrd
  have hsh := (_root_.PySem.W.pre_splitW hpre).1
  have hcond := (_root_.PySem.W.pre_splitW hpre).2
  wrow_hasAll hsh hlay
  clear hpre
  w_cond hcond
  obtain ⟨T, h1⟩ := Mine.top_of y g1 (g2 _) (g3 _)
  refine _root_.PySem.Sem.wp_mono _ _ _ (fun v p' s' q => ?_) (fun e p' s' q => q.elim) _ _ (Mine.law_top T h1 L ha (by omega) default)
  obtain ⟨rfl, hK, hos, hge⟩ := q
  exact Mine.law_good (w := w) hg hK hos hge
end MineH
set_option maxHeartbeats 8000000 in
theorem PySem.Challenge.cw_pg0116_01_holds : PySem.Challenge.rw_pg0116_01.Holds := by
  exact MineH.core
