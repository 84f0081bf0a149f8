import JvmDerived
import JvmDerived.Pilot.@@N@@Statement
import JvmDerived.Pilot.@@N@@Code
set_option linter.unusedVariables false
set_option linter.unusedSimpArgs false
namespace Jvm.RoadKit
open Sem ClassFile Op Lib Jvm.Stand Jvm.Free Jvm.LawKit
section Own
variable {p : Program} {l : Launch} {e : Env} {R : Room} {s : State} {m : MethodId} {args : Array Value} {below : List Frame} {meth : Method} {c : Code} {T : State} {locs : List Loc} {cells slots : Nat} {Z : State} {h h' : Heap} {a b : Addr} {ty : FieldType} {ws : List Addr}
/-- from the state S the run comes to an end that Q allows -/
def Go (p : Program) (e : Env) (below : List Frame) (s : State) (Q : Option Value → Heap → List Loc → Prop) (K N : Nat) (S : State) : Prop :=
  ∃ (t : State) (o : Outcome), Steps p.tables e below S t ∧ t.status = .running ∧ Ended t below o ∧ ∃ v L, o = .returned v ∧ Q v t.heap L ∧ FrameEnd s o t L K N
variable {Q : Option Value → Heap → List Loc → Prop} {K N : Nat} {S S' : State}
theorem gs (h : ∀ t, Steps p.tables e below S' t → Steps p.tables e below S t) (k : Go p e below s Q K N S') : Go p e below s Q K N S := by
  obtain ⟨t, o, a, b⟩ := k
  exact ⟨t, o, h t a, b⟩
theorem gt (h : Steps p.tables e below S S') (k : Go p e below s Q K N S') : Go p e below s Q K N S := gs (fun _ => h.trans) k
theorem goEnd (X : Stand p l e R s m args below meth c T locs cells slots) {v : Option Value} (hlocks : meth.locks = false) (hv : meth.sig.returnType = none → v = none)
    (hs : ∀ fs, (∀ (f : JFrame) (acts : List Action), f.method = m → f.locked = none → f.entered = [] → (doReturn e (T.setTop f) acts v).1 = T.setFrames fs) → Steps p.tables e below S (T.setFrames fs))
    (hQ : Q v T.heap locs) (hk : cells ≤ K) (hn : slots ≤ N) : Go p e below s Q K N S := by
  obtain ⟨fs, hr, hrun, hended, hW, hsame⟩ := X.leave (v := v) hv hlocks
  exact ⟨_, _, hs fs hr, hrun, hended, v, locs, rfl, hQ, ⟨_, rfl⟩, hW, hsame.mono hk hn⟩
theorem goV (X : Stand p l e R s m args below meth c T locs cells slots) (hx : p.tables.exec = Jvm.exec) (hlocks : meth.locks = false) (hret : meth.sig.returnType = none) {pc : Nat} {Ls : Array Slot} (hd : decode c.code pc = .ok (.return_, 1)) (hQ : Q none T.heap locs) (hk : cells ≤ K) (hn : slots ≤ N) :
    Go p e below s Q K N (T.setTop (mkF m pc Ls [])) := goEnd X hlocks (fun _ => rfl) (fun _ hr => X.returnOut hx hret hd hr) hQ hk hn
theorem goW (X : Stand p l e R s m args below meth c T locs cells slots) (hx : p.tables.exec = Jvm.exec) (hlocks : meth.locks = false) {t : FieldType} (hret : meth.sig.returnType = some t) {pc : Nat} {Ls : Array Slot} {w : Value} {i : Instr} {rest : List Value} (hn0 : narrow t w = w)
    (hi : (i = .ireturn ∧ (t = .int ∨ t = .boolean ∨ t = .byte ∨ t = .char ∨ t = .short) ∧ ∃ z, w = .int z) ∨ (i = .lreturn ∧ t = .long ∧ ∃ z, w = .long z) ∨ (i = .dreturn ∧ t = .double ∧ ∃ z, w = .double z) ∨ (i = .freturn ∧ t = .float ∧ ∃ z, w = .float z) ∨ (i = .areturn ∧ t.isReference = true ∧ w.isRef = true))
    (hd : decode c.code pc = .ok (i, 1)) (hQ : Q (some w) T.heap locs) (hk : cells ≤ K) (hn : slots ≤ N) : Go p e below s Q K N (T.setTop (mkF m pc Ls (w :: rest))) :=
  goEnd X hlocks (fun q => by rw [hret] at q; cases q) (fun _ hr => retOut X hx hret hn0 hi hd hr) hQ hk hn
theorem goI (X : Stand p l e R s m args below meth c T locs cells slots) (hx : p.tables.exec = Jvm.exec) (hlocks : meth.locks = false) (hret : meth.sig.returnType = some .int) {pc : Nat} {Ls : Array Slot} {w : Int32} {rest : List Value} (hd : decode c.code pc = .ok (.ireturn, 1)) (hQ : Q (some (.int w)) T.heap locs) (hk : cells ≤ K) (hn : slots ≤ N) :
    Go p e below s Q K N (T.setTop (mkF m pc Ls (.int w :: rest))) := goW X hx hlocks hret rfl (Or.inl ⟨rfl, Or.inl rfl, w, rfl⟩) hd hQ hk hn
theorem goJ (X : Stand p l e R s m args below meth c T locs cells slots) (hx : p.tables.exec = Jvm.exec) (hlocks : meth.locks = false) (hret : meth.sig.returnType = some .long) {pc : Nat} {Ls : Array Slot} {w : Int64} {rest : List Value} (hd : decode c.code pc = .ok (.lreturn, 1)) (hQ : Q (some (.long w)) T.heap locs) (hk : cells ≤ K) (hn : slots ≤ N) :
    Go p e below s Q K N (T.setTop (mkF m pc Ls (.long w :: rest))) := goW X hx hlocks hret rfl (Or.inr (Or.inl ⟨rfl, rfl, w, rfl⟩)) hd hQ hk hn
theorem goR (X : Stand p l e R s m args below meth c T locs cells slots) (hx : p.tables.exec = Jvm.exec) (hlocks : meth.locks = false) {t : FieldType} (hret : meth.sig.returnType = some t) (ht : t.isReference = true) {pc : Nat} {Ls : Array Slot} {w : Value} (hw : w.isRef = true) {rest : List Value} (hd : decode c.code pc = .ok (.areturn, 1)) (hQ : Q (some w) T.heap locs) (hk : cells ≤ K) (hn : slots ≤ N) :
    Go p e below s Q K N (T.setTop (mkF m pc Ls (w :: rest))) :=
  goW X hx hlocks hret (by cases t <;> simp [FieldType.isReference] at ht <;> rfl) (Or.inr (Or.inr (Or.inr (Or.inr ⟨rfl, ht, hw⟩)))) hd hQ hk hn
theorem goB (X : Stand p l e R s m args below meth c T locs cells slots) (hx : p.tables.exec = Jvm.exec) (hlocks : meth.locks = false) {t : FieldType} (hret : meth.sig.returnType = some t) (ht : t = .boolean ∨ t = .byte ∨ t = .char ∨ t = .short) {pc : Nat} {Ls : Array Slot} {z w : Int32} {rest : List Value} (hz : nar t z = w) (hd : decode c.code pc = .ok (.ireturn, 1)) (hQ : Q (some (.int w)) T.heap locs) (hk : cells ≤ K) (hn : slots ≤ N) :
    Go p e below s Q K N (T.setTop (mkF m pc Ls (.int z :: rest))) := by
  subst hz
  exact goEnd X hlocks (fun q => by rw [hret] at q; cases q) (fun _ hr => retN X hx hret ht hd hr) hQ hk hn
/-- an array of n places; the place i holds f i -/
def Arf (Z : State) (h : Heap) (a : Addr) (ty : FieldType) (n : Nat) (f : Nat → Value) : Prop := ∃ c : Cell, Arr Z h a c ty ∧ c.slots.size = n ∧ n < 2 ^ 31 ∧ ∀ i, i < n → c.slots[i]? = some (f i)
def updv (f : Nat → Value) (j : Nat) (v : Value) : Nat → Value := fun i => if i = j then v else f i
variable {n : Nat} {f g : Nat → Value} {sl : Nat} {v : Value}
theorem Arf.lt (F : Arf Z h a ty n f) : a < h.size := by obtain ⟨c, A, -⟩ := F; exact A.lt
theorem Arf.ext (F : Arf Z h a ty n f) (E : Ext h h') : Arf Z h' a ty n f := by obtain ⟨c, A, r⟩ := F; exact ⟨c, A.ext E, r⟩
theorem Arf.other (F : Arf Z h b ty n f) (W : Wr h h' a sl v) (q : b ≠ a) : Arf Z h' b ty n f := by obtain ⟨c, A, r⟩ := F; exact ⟨c, A.other W q, r⟩
theorem Arf.keep (F : Arf Z h a ty n f) (K : Keep h h' ws) (q : a ∉ ws) : Arf Z h' a ty n f := by obtain ⟨c, A, r⟩ := F; exact ⟨c, ⟨K.2.1 a c A.1 q, A.2⟩, r⟩
theorem Arf.congr (F : Arf Z h a ty n f) (q : ∀ i, i < n → f i = g i) : Arf Z h a ty n g := by
  obtain ⟨c, A, r1, r2, r3⟩ := F
  exact ⟨c, A, r1, r2, fun i hi => by rw [← q i hi]; exact r3 i hi⟩
theorem clampLt (z : Int32) : z.toNatClampNeg < 2 ^ 31 := by
  have h1 := z.toInt_lt
  have h2 : z.toNatClampNeg = z.toInt.toNat := rfl
  omega
theorem clampOf {j : Int32} (h0 : 0 ≤ j.toInt) : (j.toNatClampNeg : Int) = j.toInt := by
  have h2 : j.toNatClampNeg = j.toInt.toNat := rfl
  omega
theorem Arf.new {k : ClassId} {z : Int32} (A : Arr Z h a (newA k ty z) ty) : Arf Z h a ty z.toNatClampNeg (fun _ => defaultValue ty) := by
  refine ⟨_, A, sz_new _ _ _, clampLt z, fun i hi => ?_⟩
  simp [newA, hi]
theorem Arf.set (F : Arf Z h a ty n f) {j : Nat} (W : Wr h h' a j v) (hj : j < n) : Arf Z h' a ty n (updv f j v) := by
  obtain ⟨c, A, r1, r2, r3⟩ := F
  refine ⟨_, A.same W, by rw [sz_set]; exact r1, r2, fun i hi => ?_⟩
  by_cases q : i = j
  · subst q
    simp [Cell.setSlot, updv, r1, hi]
  · have q' : ¬ j = i := fun x => q x.symm
    simp [Cell.setSlot, updv, q, Array.getElem?_setIfInBounds_ne q', r3 i hi]
theorem inI {cl : Cell} (S : cl.slots.size = n) {j : Int32} (hj : 0 ≤ j.toInt ∧ j.toInt < n) : ¬ (j < 0 ∨ cl.slots.size ≤ j.toNatClampNeg) := by
  have q := clampOf hj.1
  rintro (h1 | h1)
  · rw [Int32.lt_iff_toInt_lt] at h1
    have : (0 : Int32).toInt = 0 := rfl
    omega
  · omega
theorem stIf (X : Stand p l e R s m args below meth c T locs cells slots) (hx : p.tables.exec = Jvm.exec) (hZ : Z.Warmed39 s.vm) (eT : T.heap = h) (F : Arf Z h a .int n f) {j x : Int32} (hj : 0 ≤ j.toInt ∧ j.toInt < n) {g : JFrame} (hg : g.method = m) {rest : List Value} (hs : g.stack = .int x :: .int j :: .ref a :: rest) (hd : decode c.code g.pc = .ok (.iastore, 1)) :
    ∃ T' h', Stand p l e R s m args below meth c T' (locs ++ [⟨a, j.toNatClampNeg⟩]) cells slots ∧ T'.heap = h' ∧ Wr h h' a j.toNatClampNeg (.int x) ∧ Arf Z h' a .int n (updv f j.toNatClampNeg (.int x)) ∧ ∀ target, Steps p.tables e below (T'.setTop { g with pc := g.pc + 1, stack := rest }) target → Steps p.tables e below (T.setTop g) target := by
  obtain ⟨cl, A, r1, r2, r3⟩ := id F
  obtain ⟨T', h', X', e', W, st⟩ := stI X hx hZ eT A (j := j) (x := x) (inI r1 hj) hg hs hd
  have q := clampOf hj.1
  exact ⟨T', h', X', e', W, F.set W (by omega), st⟩
theorem stJf (X : Stand p l e R s m args below meth c T locs cells slots) (hx : p.tables.exec = Jvm.exec) (hZ : Z.Warmed39 s.vm) (eT : T.heap = h) (F : Arf Z h a .long n f) {j : Int32} {x : Int64} (hj : 0 ≤ j.toInt ∧ j.toInt < n) {g : JFrame} (hg : g.method = m) {rest : List Value} (hs : g.stack = .long x :: .int j :: .ref a :: rest) (hd : decode c.code g.pc = .ok (.lastore, 1)) :
    ∃ T' h', Stand p l e R s m args below meth c T' (locs ++ [⟨a, j.toNatClampNeg⟩]) cells slots ∧ T'.heap = h' ∧ Wr h h' a j.toNatClampNeg (.long x) ∧ Arf Z h' a .long n (updv f j.toNatClampNeg (.long x)) ∧ ∀ target, Steps p.tables e below (T'.setTop { g with pc := g.pc + 1, stack := rest }) target → Steps p.tables e below (T.setTop g) target := by
  obtain ⟨cl, A, r1, r2, r3⟩ := id F
  obtain ⟨T', h', X', e', W, st⟩ := stJ X hx hZ eT A (j := j) (x := x) (inI r1 hj) hg hs hd
  have q := clampOf hj.1
  exact ⟨T', h', X', e', W, F.set W (by omega), st⟩
theorem stBf (X : Stand p l e R s m args below meth c T locs cells slots) (hx : p.tables.exec = Jvm.exec) (hZ : Z.Warmed39 s.vm) (eT : T.heap = h) (F : Arf Z h a .byte n f) {j x : Int32} (hj : 0 ≤ j.toInt ∧ j.toInt < n) {g : JFrame} (hg : g.method = m) {rest : List Value} (hs : g.stack = .int x :: .int j :: .ref a :: rest) (hd : decode c.code g.pc = .ok (.bastore, 1)) :
    ∃ T' h', Stand p l e R s m args below meth c T' (locs ++ [⟨a, j.toNatClampNeg⟩]) cells slots ∧ T'.heap = h' ∧ Wr h h' a j.toNatClampNeg (.int (nar .byte x)) ∧ Arf Z h' a .byte n (updv f j.toNatClampNeg (.int (nar .byte x))) ∧ ∀ target, Steps p.tables e below (T'.setTop { g with pc := g.pc + 1, stack := rest }) target → Steps p.tables e below (T.setTop g) target := by
  obtain ⟨cl, A, r1, r2, r3⟩ := id F
  obtain ⟨T', h', X', e', W, st⟩ := stB X hx hZ eT A (j := j) (x := x) (inI r1 hj) hg hs hd
  have q := clampOf hj.1
  exact ⟨T', h', X', e', W, F.set W (by omega), st⟩
theorem stZf (X : Stand p l e R s m args below meth c T locs cells slots) (hx : p.tables.exec = Jvm.exec) (hZ : Z.Warmed39 s.vm) (eT : T.heap = h) (F : Arf Z h a .boolean n f) {j x : Int32} (hj : 0 ≤ j.toInt ∧ j.toInt < n) {g : JFrame} (hg : g.method = m) {rest : List Value} (hs : g.stack = .int x :: .int j :: .ref a :: rest) (hd : decode c.code g.pc = .ok (.bastore, 1)) :
    ∃ T' h', Stand p l e R s m args below meth c T' (locs ++ [⟨a, j.toNatClampNeg⟩]) cells slots ∧ T'.heap = h' ∧ Wr h h' a j.toNatClampNeg (.int (nar .boolean x)) ∧ Arf Z h' a .boolean n (updv f j.toNatClampNeg (.int (nar .boolean x))) ∧ ∀ target, Steps p.tables e below (T'.setTop { g with pc := g.pc + 1, stack := rest }) target → Steps p.tables e below (T.setTop g) target := by
  obtain ⟨cl, A, r1, r2, r3⟩ := id F
  obtain ⟨T', h', X', e', W, st⟩ := stZ X hx hZ eT A (j := j) (x := x) (inI r1 hj) hg hs hd
  have q := clampOf hj.1
  exact ⟨T', h', X', e', W, F.set W (by omega), st⟩
theorem stCf (X : Stand p l e R s m args below meth c T locs cells slots) (hx : p.tables.exec = Jvm.exec) (hZ : Z.Warmed39 s.vm) (eT : T.heap = h) (F : Arf Z h a .char n f) {j x : Int32} (hj : 0 ≤ j.toInt ∧ j.toInt < n) {g : JFrame} (hg : g.method = m) {rest : List Value} (hs : g.stack = .int x :: .int j :: .ref a :: rest) (hd : decode c.code g.pc = .ok (.castore, 1)) :
    ∃ T' h', Stand p l e R s m args below meth c T' (locs ++ [⟨a, j.toNatClampNeg⟩]) cells slots ∧ T'.heap = h' ∧ Wr h h' a j.toNatClampNeg (.int (nar .char x)) ∧ Arf Z h' a .char n (updv f j.toNatClampNeg (.int (nar .char x))) ∧ ∀ target, Steps p.tables e below (T'.setTop { g with pc := g.pc + 1, stack := rest }) target → Steps p.tables e below (T.setTop g) target := by
  obtain ⟨cl, A, r1, r2, r3⟩ := id F
  obtain ⟨T', h', X', e', W, st⟩ := stC X hx hZ eT A (j := j) (x := x) (inI r1 hj) hg hs hd
  have q := clampOf hj.1
  exact ⟨T', h', X', e', W, F.set W (by omega), st⟩
theorem stRf (X : Stand p l e R s m args below meth c T locs cells slots) (hx : p.tables.exec = Jvm.exec) (hZ : Z.Warmed39 s.vm) (eT : T.heap = h) (F : Arf Z h a ty n f) (hty : ty.isReference = true) {j : Int32} {v : Value} (hv : Sto Z h a v) (hj : 0 ≤ j.toInt ∧ j.toInt < n) {g : JFrame} (hg : g.method = m) {rest : List Value} (hs : g.stack = v :: .int j :: .ref a :: rest) (hd : decode c.code g.pc = .ok (.aastore, 1)) :
    ∃ T' h', Stand p l e R s m args below meth c T' (locs ++ [⟨a, j.toNatClampNeg⟩]) cells slots ∧ T'.heap = h' ∧ Wr h h' a j.toNatClampNeg v ∧ Arf Z h' a ty n (updv f j.toNatClampNeg v) ∧ ∀ target, Steps p.tables e below (T'.setTop { g with pc := g.pc + 1, stack := rest }) target → Steps p.tables e below (T.setTop g) target := by
  obtain ⟨cl, A, r1, r2, r3⟩ := id F
  obtain ⟨T', h', X', e', W, st⟩ := stR X hx hZ eT A (j := j) (v := v) (inI r1 hj) hty hv hg hs hd
  have q := clampOf hj.1
  exact ⟨T', h', X', e', W, F.set W (by omega), st⟩
theorem ldIf (X : Stand p l e R s m args below meth c T locs cells slots) (hx : p.tables.exec = Jvm.exec) (hZ : Z.Warmed39 s.vm) (eT : T.heap = h) (F : Arf Z h a .int n f) {j : Int32} {v : Value} (hj : 0 ≤ j.toInt ∧ j.toInt < n) (hv : f j.toNatClampNeg = v) {g : JFrame} (hg : g.method = m) {rest : List Value} (hs : g.stack = .int j :: .ref a :: rest) (hd : decode c.code g.pc = .ok (.iaload, 1)) :
    ∀ target, Steps p.tables e below (T.setTop { g with pc := g.pc + 1, stack := v :: rest }) target → Steps p.tables e below (T.setTop g) target := by
  obtain ⟨cl, A, r1, r2, r3⟩ := F
  have q := clampOf hj.1
  exact fun t => X.iaload hx (by rw [eT]; exact A.1) (State.isArrayOf_alike hZ.alike A.2.1) A.2.2 (inI r1 hj) (by rw [← hv]; exact r3 _ (by omega)) hg hs hd t
theorem ldJf (X : Stand p l e R s m args below meth c T locs cells slots) (hx : p.tables.exec = Jvm.exec) (hZ : Z.Warmed39 s.vm) (eT : T.heap = h) (F : Arf Z h a .long n f) {j : Int32} {v : Value} (hj : 0 ≤ j.toInt ∧ j.toInt < n) (hv : f j.toNatClampNeg = v) {g : JFrame} (hg : g.method = m) {rest : List Value} (hs : g.stack = .int j :: .ref a :: rest) (hd : decode c.code g.pc = .ok (.laload, 1)) :
    ∀ target, Steps p.tables e below (T.setTop { g with pc := g.pc + 1, stack := v :: rest }) target → Steps p.tables e below (T.setTop g) target := by
  obtain ⟨cl, A, r1, r2, r3⟩ := F
  have q := clampOf hj.1
  exact fun t => X.laload hx (by rw [eT]; exact A.1) (State.isArrayOf_alike hZ.alike A.2.1) A.2.2 (inI r1 hj) (by rw [← hv]; exact r3 _ (by omega)) hg hs hd t
theorem ldCf (X : Stand p l e R s m args below meth c T locs cells slots) (hx : p.tables.exec = Jvm.exec) (hZ : Z.Warmed39 s.vm) (eT : T.heap = h) (F : Arf Z h a .char n f) {j : Int32} {v : Value} (hj : 0 ≤ j.toInt ∧ j.toInt < n) (hv : f j.toNatClampNeg = v) {g : JFrame} (hg : g.method = m) {rest : List Value} (hs : g.stack = .int j :: .ref a :: rest) (hd : decode c.code g.pc = .ok (.caload, 1)) :
    ∀ target, Steps p.tables e below (T.setTop { g with pc := g.pc + 1, stack := v :: rest }) target → Steps p.tables e below (T.setTop g) target := by
  obtain ⟨cl, A, r1, r2, r3⟩ := F
  have q := clampOf hj.1
  exact fun t => X.caload hx (by rw [eT]; exact A.1) (State.isArrayOf_alike hZ.alike A.2.1) A.2.2 (inI r1 hj) (by rw [← hv]; exact r3 _ (by omega)) hg hs hd t
theorem ldBf (X : Stand p l e R s m args below meth c T locs cells slots) (hx : p.tables.exec = Jvm.exec) (hZ : Z.Warmed39 s.vm) (eT : T.heap = h) (F : Arf Z h a .byte n f) {j : Int32} {v : Value} (hj : 0 ≤ j.toInt ∧ j.toInt < n) (hv : f j.toNatClampNeg = v) {g : JFrame} (hg : g.method = m) {rest : List Value} (hs : g.stack = .int j :: .ref a :: rest) (hd : decode c.code g.pc = .ok (.baload, 1)) :
    ∀ target, Steps p.tables e below (T.setTop { g with pc := g.pc + 1, stack := v :: rest }) target → Steps p.tables e below (T.setTop g) target := by
  obtain ⟨cl, A, r1, r2, r3⟩ := F
  have q := clampOf hj.1
  exact fun t => X.baloadBytes hx (by rw [eT]; exact A.1) (State.isArrayOf_alike hZ.alike A.2.1) A.2.2 (inI r1 hj) (by rw [← hv]; exact r3 _ (by omega)) hg hs hd t
theorem ldZf (X : Stand p l e R s m args below meth c T locs cells slots) (hx : p.tables.exec = Jvm.exec) (hZ : Z.Warmed39 s.vm) (eT : T.heap = h) (F : Arf Z h a .boolean n f) {j : Int32} {v : Value} (hj : 0 ≤ j.toInt ∧ j.toInt < n) (hv : f j.toNatClampNeg = v) {g : JFrame} (hg : g.method = m) {rest : List Value} (hs : g.stack = .int j :: .ref a :: rest) (hd : decode c.code g.pc = .ok (.baload, 1)) :
    ∀ target, Steps p.tables e below (T.setTop { g with pc := g.pc + 1, stack := v :: rest }) target → Steps p.tables e below (T.setTop g) target := by
  obtain ⟨cl, A, r1, r2, r3⟩ := F
  have q := clampOf hj.1
  exact fun t => X.baloadBooleans hx (by rw [eT]; exact A.1) (State.isArrayOf_alike hZ.alike A.2.1) A.2.2 (inI r1 hj) (by rw [← hv]; exact r3 _ (by omega)) hg hs hd t
theorem ldRf (X : Stand p l e R s m args below meth c T locs cells slots) (hx : p.tables.exec = Jvm.exec) (hZ : Z.Warmed39 s.vm) (eT : T.heap = h) (F : Arf Z h a ty n f) (hty : ty.isReference = true) {j : Int32} {v : Value} (hj : 0 ≤ j.toInt ∧ j.toInt < n) (hv : f j.toNatClampNeg = v) {g : JFrame} (hg : g.method = m) {rest : List Value} (hs : g.stack = .int j :: .ref a :: rest) (hd : decode c.code g.pc = .ok (.aaload, 1)) :
    ∀ target, Steps p.tables e below (T.setTop { g with pc := g.pc + 1, stack := v :: rest }) target → Steps p.tables e below (T.setTop g) target := by
  obtain ⟨cl, A, r1, r2, r3⟩ := F
  have q := clampOf hj.1
  exact fun t => X.aaload hx (by rw [eT]; exact A.1) (State.isArrayOf_alike hZ.alike A.2.1) hty A.2.2 (inI r1 hj) (by rw [← hv]; exact r3 _ (by omega)) hg hs hd t
theorem lenf (X : Stand p l e R s m args below meth c T locs cells slots) (hx : p.tables.exec = Jvm.exec) (hZ : Z.Warmed39 s.vm) (eT : T.heap = h) (F : Arf Z h a ty n f) {z : Int32} (hz : n.toInt32 = z) {g : JFrame} (hg : g.method = m) {rest : List Value} (hs : g.stack = .ref a :: rest) (hd : decode c.code g.pc = .ok (.arraylength, 1)) :
    ∀ target, Steps p.tables e below (T.setTop { g with pc := g.pc + 1, stack := .int z :: rest }) target → Steps p.tables e below (T.setTop g) target := by
  obtain ⟨cl, A, r1, r2, r3⟩ := F
  subst hz r1
  exact fun t => X.arraylength hx (by rw [eT]; exact A.1) (State.isArrayOf_alike hZ.alike A.2.1) hg hs hd t
theorem toClamp {z : Int32} (q : 0 ≤ z.toInt) : z.toNatClampNeg.toInt32 = z := (back32 (fun h => by rw [Int32.lt_iff_toInt_lt] at h; have : (0 : Int32).toInt = 0 := rfl; omega)).1
theorem refCat {v : Value} (h : v.isRef = true) : v.category = 1 := by rcases ref_cases h with rfl | ⟨_, rfl⟩ <;> rfl
/-- an array that takes every object of the class C -/
def Tak (Z : State) (h : Heap) (a : Addr) (C : String) : Prop := ∃ (cell : Cell) (k kc : Class) (comp : ClassId) (t : FieldType), h[a]? = some cell ∧ Z.vm.classes[cell.cls]? = some k ∧ k.kind = .array comp t ∧ Z.vm.classes[comp]? = some kc ∧ Z.vm.findClass C = some comp
variable {C : String}
theorem Tak.ext (F : Tak Z h a C) (E : Ext h h') : Tak Z h' a C := by obtain ⟨cell, k, kc, comp, t, h1, r⟩ := F; exact ⟨cell, k, kc, comp, t, E.2 _ _ h1, r⟩
theorem Tak.wr (F : Tak Z h a C) (W : Wr h h' b sl v) : Tak Z h' a C := by
  obtain ⟨cell, k, kc, comp, t, h1, h2, r⟩ := F
  obtain ⟨c', e1, e2, -⟩ := wr_at W h1
  exact ⟨c', k, kc, comp, t, e1, by rw [e2]; exact h2, r⟩
theorem Tak.keep (F : Tak Z h a C) (K : Keep h h' ws) : Tak Z h' a C := by
  obtain ⟨cell, k, kc, comp, t, h1, h2, r⟩ := F
  obtain ⟨c', e1, e2, -⟩ := K.2.2 _ _ h1
  exact ⟨c', k, kc, comp, t, e1, by rw [e2]; exact h2, r⟩
theorem Tak.sto (F : Tak Z h a C) {y : Addr} (I : Ins Z h y C true) : Sto Z h a (.ref y) := by
  obtain ⟨cell, k, kc, comp, t, h1, h2, h3, h4, h5⟩ := F
  obtain ⟨cv, cT, g1, g2, g3⟩ := I
  cases h5.symm.trans g2
  simp only [Bool.and_eq_true, Bool.not_eq_true'] at g3
  have hv : ∃ kv, Z.vm.classes[cv.cls]? = some kv := by
    cases q : Z.vm.classes[cv.cls]? with
    | some kv => exact ⟨kv, rfl⟩
    | none =>
      by_cases e : cv.cls = comp
      · rw [e, h4] at q; cases q
      · have := g3.2
        simp [Vm.assignable, Vm.assignableAux, e, q] at this
  obtain ⟨kv, hkv⟩ := hv
  exact Or.inr ⟨cell, cv, k, kv, kc, comp, t, y, h1, h2, h3, h4, rfl, g1, g3.1, hkv, g3.2⟩
theorem Tak.of {cA : ClassId} {n : Int32} (A : Arr Z h a (newA cA ty n) ty) (O : Ovr Z cA C) : Tak Z h a C := by
  obtain ⟨k, comp, o1, o2, o3⟩ := O
  obtain ⟨kc, q, -⟩ := Vm.findClass_spec o3
  exact ⟨_, k, kc, comp, _, A.1, o1, o2, q, o3⟩
theorem Tak.ofA {cA : ClassId} {n : Int32} {ty' : FieldType} (A : Arr Z h a (newA cA ty n) ty) (O : OvrA Z cA ty' C) : Tak Z h a C := by
  obtain ⟨k, comp, o1, o2, o3⟩ := O
  obtain ⟨kc, q, -⟩ := Vm.findClass_spec o3
  exact ⟨_, k, kc, comp, _, A.1, o1, o2, q, o3⟩
theorem own_eqI {t : Term} {k : Int32} {args : Array Value} {first s : State} {o : Option Outcome} {idx : List Nat} (h : (Cond.eq t (.int k)).value args first o s idx = some true) : t.eval args first o idx s = some (.int k) := by
  simp only [Cond.value, Term.eval] at h
  cases ht : t.eval args first o idx s with
  | none => simp [ht] at h
  | some x => cases x <;> simp [ht] at h ⊢ <;> exact h
end Own
end Jvm.RoadKit
namespace Jvm.Pilot.@@N@@
open Jvm Jvm.ClassFile Sem Op Lib Jvm.Free Jvm.Stand Jvm.LawKit Jvm.RoadKit Bundle Jvm.Pilot.@@N@@.Jvm.D
theorem pd_0 : parseMethodDescriptor "(C)Lcom/example/roastery/roastery/model/ConstantKind;" = some ⟨[.char], some (.object "com/example/roastery/roastery/model/ConstantKind")⟩ := by decide +kernel
def own_kind (c : Int32) (a b d f : Addr) : Value := if c = 66 ∨ c = 67 ∨ c = 73 ∨ c = 83 ∨ c = 90 then .ref a else if c = 74 then .ref b else if c = 70 then .ref d else if c = 68 then .ref f else .null
theorem own_ref (c : Int32) (a b d f : Addr) : (own_kind c a b d f).isRef = true := by
  unfold own_kind
  repeat' split
  all_goals rfl
theorem own_out {c : Int32} {a b d f : Addr} (h : c.toInt < 66 ∨ c.toInt > 90) : own_kind c a b d f = .null := by
  have hn : ∀ k : Int32, 66 ≤ k.toInt → k.toInt ≤ 90 → ¬ c = k := fun k h1 h2 e => by subst e; omega
  unfold own_kind
  rw [if_neg, if_neg (hn 74 (by decide) (by decide)), if_neg (hn 70 (by decide) (by decide)), if_neg (hn 68 (by decide) (by decide))]
  rintro (e | e | e | e | e)
  · exact hn 66 (by decide) (by decide) e
  · exact hn 67 (by decide) (by decide) e
  · exact hn 73 (by decide) (by decide) e
  · exact hn 83 (by decide) (by decide) e
  · exact hn 90 (by decide) (by decide) e
theorem own_in {c : Int32} (h : ¬ (c.toInt < 66 ∨ c.toInt > 90)) : c = 66 ∨ c = 67 ∨ c = 68 ∨ c = 69 ∨ c = 70 ∨ c = 71 ∨ c = 72 ∨ c = 73 ∨ c = 74 ∨ c = 75 ∨ c = 76 ∨ c = 77 ∨ c = 78 ∨ c = 79 ∨ c = 80 ∨ c = 81 ∨ c = 82 ∨ c = 83 ∨ c = 84 ∨ c = 85 ∨ c = 86 ∨ c = 87 ∨ c = 88 ∨ c = 89 ∨ c = 90 := by
  have hk : ∀ k : Int32, c.toInt = k.toInt → c = k := fun k e => Int32.toInt_inj.mp e
  rcases (by omega : c.toInt = 66 ∨ 67 ≤ c.toInt) with h1 | h1
  · exact Or.inl (hk 66 h1)
  refine Or.inr ?_
  rcases (by omega : c.toInt = 67 ∨ 68 ≤ c.toInt) with h1 | h1
  · exact Or.inl (hk 67 h1)
  refine Or.inr ?_
  rcases (by omega : c.toInt = 68 ∨ 69 ≤ c.toInt) with h1 | h1
  · exact Or.inl (hk 68 h1)
  refine Or.inr ?_
  rcases (by omega : c.toInt = 69 ∨ 70 ≤ c.toInt) with h1 | h1
  · exact Or.inl (hk 69 h1)
  refine Or.inr ?_
  rcases (by omega : c.toInt = 70 ∨ 71 ≤ c.toInt) with h1 | h1
  · exact Or.inl (hk 70 h1)
  refine Or.inr ?_
  rcases (by omega : c.toInt = 71 ∨ 72 ≤ c.toInt) with h1 | h1
  · exact Or.inl (hk 71 h1)
  refine Or.inr ?_
  rcases (by omega : c.toInt = 72 ∨ 73 ≤ c.toInt) with h1 | h1
  · exact Or.inl (hk 72 h1)
  refine Or.inr ?_
  rcases (by omega : c.toInt = 73 ∨ 74 ≤ c.toInt) with h1 | h1
  · exact Or.inl (hk 73 h1)
  refine Or.inr ?_
  rcases (by omega : c.toInt = 74 ∨ 75 ≤ c.toInt) with h1 | h1
  · exact Or.inl (hk 74 h1)
  refine Or.inr ?_
  rcases (by omega : c.toInt = 75 ∨ 76 ≤ c.toInt) with h1 | h1
  · exact Or.inl (hk 75 h1)
  refine Or.inr ?_
  rcases (by omega : c.toInt = 76 ∨ 77 ≤ c.toInt) with h1 | h1
  · exact Or.inl (hk 76 h1)
  refine Or.inr ?_
  rcases (by omega : c.toInt = 77 ∨ 78 ≤ c.toInt) with h1 | h1
  · exact Or.inl (hk 77 h1)
  refine Or.inr ?_
  rcases (by omega : c.toInt = 78 ∨ 79 ≤ c.toInt) with h1 | h1
  · exact Or.inl (hk 78 h1)
  refine Or.inr ?_
  rcases (by omega : c.toInt = 79 ∨ 80 ≤ c.toInt) with h1 | h1
  · exact Or.inl (hk 79 h1)
  refine Or.inr ?_
  rcases (by omega : c.toInt = 80 ∨ 81 ≤ c.toInt) with h1 | h1
  · exact Or.inl (hk 80 h1)
  refine Or.inr ?_
  rcases (by omega : c.toInt = 81 ∨ 82 ≤ c.toInt) with h1 | h1
  · exact Or.inl (hk 81 h1)
  refine Or.inr ?_
  rcases (by omega : c.toInt = 82 ∨ 83 ≤ c.toInt) with h1 | h1
  · exact Or.inl (hk 82 h1)
  refine Or.inr ?_
  rcases (by omega : c.toInt = 83 ∨ 84 ≤ c.toInt) with h1 | h1
  · exact Or.inl (hk 83 h1)
  refine Or.inr ?_
  rcases (by omega : c.toInt = 84 ∨ 85 ≤ c.toInt) with h1 | h1
  · exact Or.inl (hk 84 h1)
  refine Or.inr ?_
  rcases (by omega : c.toInt = 85 ∨ 86 ≤ c.toInt) with h1 | h1
  · exact Or.inl (hk 85 h1)
  refine Or.inr ?_
  rcases (by omega : c.toInt = 86 ∨ 87 ≤ c.toInt) with h1 | h1
  · exact Or.inl (hk 86 h1)
  refine Or.inr ?_
  rcases (by omega : c.toInt = 87 ∨ 88 ≤ c.toInt) with h1 | h1
  · exact Or.inl (hk 87 h1)
  refine Or.inr ?_
  rcases (by omega : c.toInt = 88 ∨ 89 ≤ c.toInt) with h1 | h1
  · exact Or.inl (hk 88 h1)
  refine Or.inr ?_
  rcases (by omega : c.toInt = 89 ∨ 90 ≤ c.toInt) with h1 | h1
  · exact Or.inl (hk 89 h1)
  refine Or.inr ?_
  exact hk 90 (by show c.toInt = 90; omega)
def own_tab (i : Nat) : Int32 := [66, 67, 68, 70, 73, 74, 83, 90, 98, 99, 100, 102, 105, 106, 115, 122, 76, 86, 91, 65].getD i 0
theorem own_j (x : Int32) {j : Int32} (h : ((x.toUInt32 >>> ((1 : Int32) &&& 31).toUInt32).toInt32) % (20 : Int32) = j) : 0 ≤ j.toInt ∧ j.toInt < (20 : Nat) := by
  have e1 := c_iushr x 1 1 (by decide) (by decide)
  have e2 := c_irem ((x.toUInt32 >>> ((1 : Int32) &&& 31).toUInt32).toInt32) 20 20 rfl
  rw [h] at e2
  have r := rng32 x
  omega
theorem own_20 {i : Nat} (h : i < 20) : i = 0 ∨ i = 1 ∨ i = 2 ∨ i = 3 ∨ i = 4 ∨ i = 5 ∨ i = 6 ∨ i = 7 ∨ i = 8 ∨ i = 9 ∨ i = 10 ∨ i = 11 ∨ i = 12 ∨ i = 13 ∨ i = 14 ∨ i = 15 ∨ i = 16 ∨ i = 17 ∨ i = 18 ∨ i = 19 := by
  rcases (by omega : i = 0 ∨ 1 ≤ i) with h1 | h1
  · exact Or.inl h1
  refine Or.inr ?_
  rcases (by omega : i = 1 ∨ 2 ≤ i) with h1 | h1
  · exact Or.inl h1
  refine Or.inr ?_
  rcases (by omega : i = 2 ∨ 3 ≤ i) with h1 | h1
  · exact Or.inl h1
  refine Or.inr ?_
  rcases (by omega : i = 3 ∨ 4 ≤ i) with h1 | h1
  · exact Or.inl h1
  refine Or.inr ?_
  rcases (by omega : i = 4 ∨ 5 ≤ i) with h1 | h1
  · exact Or.inl h1
  refine Or.inr ?_
  rcases (by omega : i = 5 ∨ 6 ≤ i) with h1 | h1
  · exact Or.inl h1
  refine Or.inr ?_
  rcases (by omega : i = 6 ∨ 7 ≤ i) with h1 | h1
  · exact Or.inl h1
  refine Or.inr ?_
  rcases (by omega : i = 7 ∨ 8 ≤ i) with h1 | h1
  · exact Or.inl h1
  refine Or.inr ?_
  rcases (by omega : i = 8 ∨ 9 ≤ i) with h1 | h1
  · exact Or.inl h1
  refine Or.inr ?_
  rcases (by omega : i = 9 ∨ 10 ≤ i) with h1 | h1
  · exact Or.inl h1
  refine Or.inr ?_
  rcases (by omega : i = 10 ∨ 11 ≤ i) with h1 | h1
  · exact Or.inl h1
  refine Or.inr ?_
  rcases (by omega : i = 11 ∨ 12 ≤ i) with h1 | h1
  · exact Or.inl h1
  refine Or.inr ?_
  rcases (by omega : i = 12 ∨ 13 ≤ i) with h1 | h1
  · exact Or.inl h1
  refine Or.inr ?_
  rcases (by omega : i = 13 ∨ 14 ≤ i) with h1 | h1
  · exact Or.inl h1
  refine Or.inr ?_
  rcases (by omega : i = 14 ∨ 15 ≤ i) with h1 | h1
  · exact Or.inl h1
  refine Or.inr ?_
  rcases (by omega : i = 15 ∨ 16 ≤ i) with h1 | h1
  · exact Or.inl h1
  refine Or.inr ?_
  rcases (by omega : i = 16 ∨ 17 ≤ i) with h1 | h1
  · exact Or.inl h1
  refine Or.inr ?_
  rcases (by omega : i = 17 ∨ 18 ≤ i) with h1 | h1
  · exact Or.inl h1
  refine Or.inr ?_
  rcases (by omega : i = 18 ∨ 19 ≤ i) with h1 | h1
  · exact Or.inl h1
  refine Or.inr ?_
  omega
theorem d1_0 : decode prog_86_method_8_code 0 = .ok (.iload_n 0, 1) := by decide +kernel
theorem d1_1 : decode prog_86_method_8_code 1 = .ok (.tableswitch 139 66 90 #[115, 115, 133, 139, 127, 139, 139, 115, 121, 139, 139, 139, 139, 139, 139, 139, 139, 115, 139, 139, 139, 139, 139, 139, 115], 115) := by decide +kernel
theorem d1_116 : decode prog_86_method_8_code 116 = .ok (.getstatic 7, 3) := by decide +kernel
theorem d1_119 : decode prog_86_method_8_code 119 = .ok (.goto 22, 3) := by decide +kernel
theorem d1_122 : decode prog_86_method_8_code 122 = .ok (.getstatic 13, 3) := by decide +kernel
theorem d1_125 : decode prog_86_method_8_code 125 = .ok (.goto 16, 3) := by decide +kernel
theorem d1_128 : decode prog_86_method_8_code 128 = .ok (.getstatic 10, 3) := by decide +kernel
theorem d1_131 : decode prog_86_method_8_code 131 = .ok (.goto 10, 3) := by decide +kernel
theorem d1_134 : decode prog_86_method_8_code 134 = .ok (.getstatic 16, 3) := by decide +kernel
theorem d1_137 : decode prog_86_method_8_code 137 = .ok (.goto 4, 3) := by decide +kernel
theorem d1_140 : decode prog_86_method_8_code 140 = .ok (.aconst_null, 1) := by decide +kernel
theorem d1_141 : decode prog_86_method_8_code 141 = .ok (.areturn, 1) := by decide +kernel
theorem pn_1 : plainName "com/example/roastery/roastery/model/ConstantKind" = true := by first | (simp [plainName, overriddenIn]; done) | decide +kernel
def Qrm1 (Z : State) (p0 : Int32) (x_INTEGER : Addr) (x_LONG : Addr) (x_FLOAT : Addr) (x_DOUBLE : Addr) (h0 : Heap) (n0 : Nat) (v : Option Value) (h : Heap) (L : List Loc) : Prop := v = some (own_kind p0 x_INTEGER x_LONG x_FLOAT x_DOUBLE) ∧ Fr n0 L ∧ h = h0
set_option maxRecDepth 65536 in
set_option maxHeartbeats 40000000 in
theorem rm1 (l : Launch) (Z : State) (a0 : Array Value) (hw : ∀ d ∈ tables_1, d.before a0 Z = true) (ws : List Jvm.Cond) (p0 : Int32) (x_INTEGER : Addr) (x_LONG : Addr) (x_FLOAT : Addr) (x_DOUBLE : Addr) (h0 : Heap) (n0 : Nat) (Z0 : n0 ≤ h0.size) (OLD : Old Z n0 h0) (S_x_INTEGER : Sta Z Z.heap "com/example/roastery/roastery/model/ConstantKind" "INTEGER" "Lcom/example/roastery/roastery/model/ConstantKind;" (.ref x_INTEGER)) (S_x_LONG : Sta Z Z.heap "com/example/roastery/roastery/model/ConstantKind" "LONG" "Lcom/example/roastery/roastery/model/ConstantKind;" (.ref x_LONG)) (S_x_FLOAT : Sta Z Z.heap "com/example/roastery/roastery/model/ConstantKind" "FLOAT" "Lcom/example/roastery/roastery/model/ConstantKind;" (.ref x_FLOAT)) (S_x_DOUBLE : Sta Z Z.heap "com/example/roastery/roastery/model/ConstantKind" "DOUBLE" "Lcom/example/roastery/roastery/model/ConstantKind;" (.ref x_DOUBLE)) :
    MetFree l (⟨"com/example/roastery/roastery/model/ConstantKind", "ofPrimitiveType", "(C)Lcom/example/roastery/roastery/model/ConstantKind;"⟩ : MethodName) (head1 (Jvm.Cond.code (⟨"com/example/roastery/roastery/model/ConstantKind", "ofPrimitiveType", "(C)Lcom/example/roastery/roastery/model/ConstantKind;"⟩ : MethodName) prog_86_method_8_code 1 (some (.object "com/example/roastery/roastery/model/ConstantKind")) :: ws) ({ frames := 0, cells := 0, slots := 0, locals := 0 } : Room)) (fun a U => a = #[(.int p0)] ∧ Z.Warmed39 U.vm ∧ U.heap = h0) (fun _ _ _ _ _ => True) (fun _ U o U' => ∃ v L, o = .returned v ∧ Qrm1 Z p0 x_INTEGER x_LONG x_FLOAT x_DOUBLE h0 n0 v U'.heap L ∧ FrameEnd U o U' L ({ frames := 0, cells := 0, slots := 0, locals := 0 } : Room).cells ({ frames := 0, cells := 0, slots := 0, locals := 0 } : Room).slots) := by
  refine MetFree.of_bodySF (plainFor_of_name pn_1) hisR ?_
  intro p e s m args below meth c s₁ Bd hml0 hP hK
  obtain ⟨rfl, hZ, hh⟩ := hP
  have hx := Bd.exec
  have hby := Bd.bytes
  have hml : c.maxLocals = 1 := hml0
  have hown : s.vm.findClass "com/example/roastery/roastery/model/ConstantKind" = some m.cls := findClass_of_methodNamed Bd.named
  have hnm := (name_of_methodNamed Bd.named Bd.method).1
  have X0 : Stand p l e ({ frames := 0, cells := 0, slots := 0, locals := 0 } : Room) s m #[(.int p0)] below meth c s₁ [] 0 0 := Stand.of_body Bd
  have e0 : s₁.heap = h0 := by rw [← hh, Bd.state]; rfl
  have N0 := Fr.nil n0
  have ZZ := Z0
  show Go p e below s (Qrm1 Z p0 x_INTEGER x_LONG x_FLOAT x_DOUBLE h0 n0) 0 0 (s₁.setTop (entryFrame m #[(.int p0)] 1))
  generalize hQQ : (Qrm1 Z p0 x_INTEGER x_LONG x_FLOAT x_DOUBLE h0 n0) = QQ
  refine gs (fun t k => castTop (g' := (mkF m 0 #[.val (.int p0)] [])) (by first | (simp [entryFrame, mkF, argsToLocals, Value.category, maxLocals]; done) | rfl) k) ?_
  show Go p e below s QQ 0 0 (s₁.setTop (mkF m 0 #[.val (.int p0)] []))
  refine gs (fun t => XS.iloadN X0.here hx rfl (hb hby d1_0) rfl) ?_
  show Go p e below s QQ 0 0 (s₁.setTop (mkF m 1 #[.val (.int p0)] [(.int p0)]))
  by_cases hout : p0.toInt < 66 ∨ p0.toInt > 90
  · skip
    refine gs (fun t => XS.tswOut (g := (mkF m 1 #[.val (.int p0)] [(.int p0)])) X0.here hx rfl (pc0 := 1) (pc' := 140) rfl (hb hby d1_1) rfl hout (by decide) (by decide)) ?_
    show Go p e below s QQ 0 0 (s₁.setTop (mkF m 140 #[.val (.int p0)] []))
    refine gs (fun t => XS.aconstNull X0.here hx rfl (hb hby d1_140)) ?_
    show Go p e below s QQ 0 0 (s₁.setTop (mkF m 141 #[.val (.int p0)] [.null]))
    exact goR X0 hx Bd.notSynchronized Bd.returns rfl rfl (hb hby d1_141) (by rw [← hQQ, e0]; exact ⟨by rw [own_out hout], N0, rfl⟩) (by decide) (by decide)
  · skip
    rcases own_in hout with rfl | rfl | rfl | rfl | rfl | rfl | rfl | rfl | rfl | rfl | rfl | rfl | rfl | rfl | rfl | rfl | rfl | rfl | rfl | rfl | rfl | rfl | rfl | rfl | rfl
    · skip
      refine gs (fun t => XS.tswIn (g := (mkF m 1 #[.val (.int (66 : Int32))] [(.int (66 : Int32))])) X0.here hx rfl (pc0 := 1) (pc' := 116) (o := 115) rfl (hb hby d1_1) rfl (by decide +kernel) (by decide +kernel) (by decide) (by decide)) ?_
      show Go p e below s QQ 0 0 (s₁.setTop (mkF m 116 #[.val (.int (66 : Int32))] []))
      obtain ⟨T1, X1, e1, st1⟩ := getS2 X0 hx hZ hown (host := "") (Or.inl (hw _ (List.mem_of_getElem? (i := 5) rfl))) Via.refl e0 (S_x_INTEGER.ext OLD.2) (g := (mkF m 116 #[.val (.int (66 : Int32))] [])) rfl (hb hby d1_116)
      refine gs st1 ?_
      show Go p e below s QQ 0 0 (T1.setTop (mkF m 119 #[.val (.int (66 : Int32))] [(.ref x_INTEGER)]))
      refine gs (fun t => XS.goto X1.here hx rfl (pc0 := 119) (pc' := 141) rfl (hb hby d1_119) (by decide) (by decide)) ?_
      show Go p e below s QQ 0 0 (T1.setTop (mkF m 141 #[.val (.int (66 : Int32))] [(.ref x_INTEGER)]))
      exact goR X1 hx Bd.notSynchronized Bd.returns rfl rfl (hb hby d1_141) (by rw [← hQQ, e1]; exact ⟨by simp [own_kind], N0, rfl⟩) (by decide) (by decide)
    · skip
      refine gs (fun t => XS.tswIn (g := (mkF m 1 #[.val (.int (67 : Int32))] [(.int (67 : Int32))])) X0.here hx rfl (pc0 := 1) (pc' := 116) (o := 115) rfl (hb hby d1_1) rfl (by decide +kernel) (by decide +kernel) (by decide) (by decide)) ?_
      show Go p e below s QQ 0 0 (s₁.setTop (mkF m 116 #[.val (.int (67 : Int32))] []))
      obtain ⟨T2, X2, e2, st2⟩ := getS2 X0 hx hZ hown (host := "") (Or.inl (hw _ (List.mem_of_getElem? (i := 5) rfl))) Via.refl e0 (S_x_INTEGER.ext OLD.2) (g := (mkF m 116 #[.val (.int (67 : Int32))] [])) rfl (hb hby d1_116)
      refine gs st2 ?_
      show Go p e below s QQ 0 0 (T2.setTop (mkF m 119 #[.val (.int (67 : Int32))] [(.ref x_INTEGER)]))
      refine gs (fun t => XS.goto X2.here hx rfl (pc0 := 119) (pc' := 141) rfl (hb hby d1_119) (by decide) (by decide)) ?_
      show Go p e below s QQ 0 0 (T2.setTop (mkF m 141 #[.val (.int (67 : Int32))] [(.ref x_INTEGER)]))
      exact goR X2 hx Bd.notSynchronized Bd.returns rfl rfl (hb hby d1_141) (by rw [← hQQ, e2]; exact ⟨by simp [own_kind], N0, rfl⟩) (by decide) (by decide)
    · skip
      refine gs (fun t => XS.tswIn (g := (mkF m 1 #[.val (.int (68 : Int32))] [(.int (68 : Int32))])) X0.here hx rfl (pc0 := 1) (pc' := 134) (o := 133) rfl (hb hby d1_1) rfl (by decide +kernel) (by decide +kernel) (by decide) (by decide)) ?_
      show Go p e below s QQ 0 0 (s₁.setTop (mkF m 134 #[.val (.int (68 : Int32))] []))
      obtain ⟨T3, X3, e3, st3⟩ := getS2 X0 hx hZ hown (host := "") (Or.inl (hw _ (List.mem_of_getElem? (i := 19) rfl))) Via.refl e0 (S_x_DOUBLE.ext OLD.2) (g := (mkF m 134 #[.val (.int (68 : Int32))] [])) rfl (hb hby d1_134)
      refine gs st3 ?_
      show Go p e below s QQ 0 0 (T3.setTop (mkF m 137 #[.val (.int (68 : Int32))] [(.ref x_DOUBLE)]))
      refine gs (fun t => XS.goto X3.here hx rfl (pc0 := 137) (pc' := 141) rfl (hb hby d1_137) (by decide) (by decide)) ?_
      show Go p e below s QQ 0 0 (T3.setTop (mkF m 141 #[.val (.int (68 : Int32))] [(.ref x_DOUBLE)]))
      exact goR X3 hx Bd.notSynchronized Bd.returns rfl rfl (hb hby d1_141) (by rw [← hQQ, e3]; exact ⟨by simp [own_kind], N0, rfl⟩) (by decide) (by decide)
    · skip
      refine gs (fun t => XS.tswIn (g := (mkF m 1 #[.val (.int (69 : Int32))] [(.int (69 : Int32))])) X0.here hx rfl (pc0 := 1) (pc' := 140) (o := 139) rfl (hb hby d1_1) rfl (by decide +kernel) (by decide +kernel) (by decide) (by decide)) ?_
      show Go p e below s QQ 0 0 (s₁.setTop (mkF m 140 #[.val (.int (69 : Int32))] []))
      refine gs (fun t => XS.aconstNull X0.here hx rfl (hb hby d1_140)) ?_
      show Go p e below s QQ 0 0 (s₁.setTop (mkF m 141 #[.val (.int (69 : Int32))] [.null]))
      exact goR X0 hx Bd.notSynchronized Bd.returns rfl rfl (hb hby d1_141) (by rw [← hQQ, e0]; exact ⟨by simp [own_kind], N0, rfl⟩) (by decide) (by decide)
    · skip
      refine gs (fun t => XS.tswIn (g := (mkF m 1 #[.val (.int (70 : Int32))] [(.int (70 : Int32))])) X0.here hx rfl (pc0 := 1) (pc' := 128) (o := 127) rfl (hb hby d1_1) rfl (by decide +kernel) (by decide +kernel) (by decide) (by decide)) ?_
      show Go p e below s QQ 0 0 (s₁.setTop (mkF m 128 #[.val (.int (70 : Int32))] []))
      obtain ⟨T4, X4, e4, st4⟩ := getS2 X0 hx hZ hown (host := "") (Or.inl (hw _ (List.mem_of_getElem? (i := 16) rfl))) Via.refl e0 (S_x_FLOAT.ext OLD.2) (g := (mkF m 128 #[.val (.int (70 : Int32))] [])) rfl (hb hby d1_128)
      refine gs st4 ?_
      show Go p e below s QQ 0 0 (T4.setTop (mkF m 131 #[.val (.int (70 : Int32))] [(.ref x_FLOAT)]))
      refine gs (fun t => XS.goto X4.here hx rfl (pc0 := 131) (pc' := 141) rfl (hb hby d1_131) (by decide) (by decide)) ?_
      show Go p e below s QQ 0 0 (T4.setTop (mkF m 141 #[.val (.int (70 : Int32))] [(.ref x_FLOAT)]))
      exact goR X4 hx Bd.notSynchronized Bd.returns rfl rfl (hb hby d1_141) (by rw [← hQQ, e4]; exact ⟨by simp [own_kind], N0, rfl⟩) (by decide) (by decide)
    · skip
      refine gs (fun t => XS.tswIn (g := (mkF m 1 #[.val (.int (71 : Int32))] [(.int (71 : Int32))])) X0.here hx rfl (pc0 := 1) (pc' := 140) (o := 139) rfl (hb hby d1_1) rfl (by decide +kernel) (by decide +kernel) (by decide) (by decide)) ?_
      show Go p e below s QQ 0 0 (s₁.setTop (mkF m 140 #[.val (.int (71 : Int32))] []))
      refine gs (fun t => XS.aconstNull X0.here hx rfl (hb hby d1_140)) ?_
      show Go p e below s QQ 0 0 (s₁.setTop (mkF m 141 #[.val (.int (71 : Int32))] [.null]))
      exact goR X0 hx Bd.notSynchronized Bd.returns rfl rfl (hb hby d1_141) (by rw [← hQQ, e0]; exact ⟨by simp [own_kind], N0, rfl⟩) (by decide) (by decide)
    · skip
      refine gs (fun t => XS.tswIn (g := (mkF m 1 #[.val (.int (72 : Int32))] [(.int (72 : Int32))])) X0.here hx rfl (pc0 := 1) (pc' := 140) (o := 139) rfl (hb hby d1_1) rfl (by decide +kernel) (by decide +kernel) (by decide) (by decide)) ?_
      show Go p e below s QQ 0 0 (s₁.setTop (mkF m 140 #[.val (.int (72 : Int32))] []))
      refine gs (fun t => XS.aconstNull X0.here hx rfl (hb hby d1_140)) ?_
      show Go p e below s QQ 0 0 (s₁.setTop (mkF m 141 #[.val (.int (72 : Int32))] [.null]))
      exact goR X0 hx Bd.notSynchronized Bd.returns rfl rfl (hb hby d1_141) (by rw [← hQQ, e0]; exact ⟨by simp [own_kind], N0, rfl⟩) (by decide) (by decide)
    · skip
      refine gs (fun t => XS.tswIn (g := (mkF m 1 #[.val (.int (73 : Int32))] [(.int (73 : Int32))])) X0.here hx rfl (pc0 := 1) (pc' := 116) (o := 115) rfl (hb hby d1_1) rfl (by decide +kernel) (by decide +kernel) (by decide) (by decide)) ?_
      show Go p e below s QQ 0 0 (s₁.setTop (mkF m 116 #[.val (.int (73 : Int32))] []))
      obtain ⟨T5, X5, e5, st5⟩ := getS2 X0 hx hZ hown (host := "") (Or.inl (hw _ (List.mem_of_getElem? (i := 5) rfl))) Via.refl e0 (S_x_INTEGER.ext OLD.2) (g := (mkF m 116 #[.val (.int (73 : Int32))] [])) rfl (hb hby d1_116)
      refine gs st5 ?_
      show Go p e below s QQ 0 0 (T5.setTop (mkF m 119 #[.val (.int (73 : Int32))] [(.ref x_INTEGER)]))
      refine gs (fun t => XS.goto X5.here hx rfl (pc0 := 119) (pc' := 141) rfl (hb hby d1_119) (by decide) (by decide)) ?_
      show Go p e below s QQ 0 0 (T5.setTop (mkF m 141 #[.val (.int (73 : Int32))] [(.ref x_INTEGER)]))
      exact goR X5 hx Bd.notSynchronized Bd.returns rfl rfl (hb hby d1_141) (by rw [← hQQ, e5]; exact ⟨by simp [own_kind], N0, rfl⟩) (by decide) (by decide)
    · skip
      refine gs (fun t => XS.tswIn (g := (mkF m 1 #[.val (.int (74 : Int32))] [(.int (74 : Int32))])) X0.here hx rfl (pc0 := 1) (pc' := 122) (o := 121) rfl (hb hby d1_1) rfl (by decide +kernel) (by decide +kernel) (by decide) (by decide)) ?_
      show Go p e below s QQ 0 0 (s₁.setTop (mkF m 122 #[.val (.int (74 : Int32))] []))
      obtain ⟨T6, X6, e6, st6⟩ := getS2 X0 hx hZ hown (host := "") (Or.inl (hw _ (List.mem_of_getElem? (i := 12) rfl))) Via.refl e0 (S_x_LONG.ext OLD.2) (g := (mkF m 122 #[.val (.int (74 : Int32))] [])) rfl (hb hby d1_122)
      refine gs st6 ?_
      show Go p e below s QQ 0 0 (T6.setTop (mkF m 125 #[.val (.int (74 : Int32))] [(.ref x_LONG)]))
      refine gs (fun t => XS.goto X6.here hx rfl (pc0 := 125) (pc' := 141) rfl (hb hby d1_125) (by decide) (by decide)) ?_
      show Go p e below s QQ 0 0 (T6.setTop (mkF m 141 #[.val (.int (74 : Int32))] [(.ref x_LONG)]))
      exact goR X6 hx Bd.notSynchronized Bd.returns rfl rfl (hb hby d1_141) (by rw [← hQQ, e6]; exact ⟨by simp [own_kind], N0, rfl⟩) (by decide) (by decide)
    · skip
      refine gs (fun t => XS.tswIn (g := (mkF m 1 #[.val (.int (75 : Int32))] [(.int (75 : Int32))])) X0.here hx rfl (pc0 := 1) (pc' := 140) (o := 139) rfl (hb hby d1_1) rfl (by decide +kernel) (by decide +kernel) (by decide) (by decide)) ?_
      show Go p e below s QQ 0 0 (s₁.setTop (mkF m 140 #[.val (.int (75 : Int32))] []))
      refine gs (fun t => XS.aconstNull X0.here hx rfl (hb hby d1_140)) ?_
      show Go p e below s QQ 0 0 (s₁.setTop (mkF m 141 #[.val (.int (75 : Int32))] [.null]))
      exact goR X0 hx Bd.notSynchronized Bd.returns rfl rfl (hb hby d1_141) (by rw [← hQQ, e0]; exact ⟨by simp [own_kind], N0, rfl⟩) (by decide) (by decide)
    · skip
      refine gs (fun t => XS.tswIn (g := (mkF m 1 #[.val (.int (76 : Int32))] [(.int (76 : Int32))])) X0.here hx rfl (pc0 := 1) (pc' := 140) (o := 139) rfl (hb hby d1_1) rfl (by decide +kernel) (by decide +kernel) (by decide) (by decide)) ?_
      show Go p e below s QQ 0 0 (s₁.setTop (mkF m 140 #[.val (.int (76 : Int32))] []))
      refine gs (fun t => XS.aconstNull X0.here hx rfl (hb hby d1_140)) ?_
      show Go p e below s QQ 0 0 (s₁.setTop (mkF m 141 #[.val (.int (76 : Int32))] [.null]))
      exact goR X0 hx Bd.notSynchronized Bd.returns rfl rfl (hb hby d1_141) (by rw [← hQQ, e0]; exact ⟨by simp [own_kind], N0, rfl⟩) (by decide) (by decide)
    · skip
      refine gs (fun t => XS.tswIn (g := (mkF m 1 #[.val (.int (77 : Int32))] [(.int (77 : Int32))])) X0.here hx rfl (pc0 := 1) (pc' := 140) (o := 139) rfl (hb hby d1_1) rfl (by decide +kernel) (by decide +kernel) (by decide) (by decide)) ?_
      show Go p e below s QQ 0 0 (s₁.setTop (mkF m 140 #[.val (.int (77 : Int32))] []))
      refine gs (fun t => XS.aconstNull X0.here hx rfl (hb hby d1_140)) ?_
      show Go p e below s QQ 0 0 (s₁.setTop (mkF m 141 #[.val (.int (77 : Int32))] [.null]))
      exact goR X0 hx Bd.notSynchronized Bd.returns rfl rfl (hb hby d1_141) (by rw [← hQQ, e0]; exact ⟨by simp [own_kind], N0, rfl⟩) (by decide) (by decide)
    · skip
      refine gs (fun t => XS.tswIn (g := (mkF m 1 #[.val (.int (78 : Int32))] [(.int (78 : Int32))])) X0.here hx rfl (pc0 := 1) (pc' := 140) (o := 139) rfl (hb hby d1_1) rfl (by decide +kernel) (by decide +kernel) (by decide) (by decide)) ?_
      show Go p e below s QQ 0 0 (s₁.setTop (mkF m 140 #[.val (.int (78 : Int32))] []))
      refine gs (fun t => XS.aconstNull X0.here hx rfl (hb hby d1_140)) ?_
      show Go p e below s QQ 0 0 (s₁.setTop (mkF m 141 #[.val (.int (78 : Int32))] [.null]))
      exact goR X0 hx Bd.notSynchronized Bd.returns rfl rfl (hb hby d1_141) (by rw [← hQQ, e0]; exact ⟨by simp [own_kind], N0, rfl⟩) (by decide) (by decide)
    · skip
      refine gs (fun t => XS.tswIn (g := (mkF m 1 #[.val (.int (79 : Int32))] [(.int (79 : Int32))])) X0.here hx rfl (pc0 := 1) (pc' := 140) (o := 139) rfl (hb hby d1_1) rfl (by decide +kernel) (by decide +kernel) (by decide) (by decide)) ?_
      show Go p e below s QQ 0 0 (s₁.setTop (mkF m 140 #[.val (.int (79 : Int32))] []))
      refine gs (fun t => XS.aconstNull X0.here hx rfl (hb hby d1_140)) ?_
      show Go p e below s QQ 0 0 (s₁.setTop (mkF m 141 #[.val (.int (79 : Int32))] [.null]))
      exact goR X0 hx Bd.notSynchronized Bd.returns rfl rfl (hb hby d1_141) (by rw [← hQQ, e0]; exact ⟨by simp [own_kind], N0, rfl⟩) (by decide) (by decide)
    · skip
      refine gs (fun t => XS.tswIn (g := (mkF m 1 #[.val (.int (80 : Int32))] [(.int (80 : Int32))])) X0.here hx rfl (pc0 := 1) (pc' := 140) (o := 139) rfl (hb hby d1_1) rfl (by decide +kernel) (by decide +kernel) (by decide) (by decide)) ?_
      show Go p e below s QQ 0 0 (s₁.setTop (mkF m 140 #[.val (.int (80 : Int32))] []))
      refine gs (fun t => XS.aconstNull X0.here hx rfl (hb hby d1_140)) ?_
      show Go p e below s QQ 0 0 (s₁.setTop (mkF m 141 #[.val (.int (80 : Int32))] [.null]))
      exact goR X0 hx Bd.notSynchronized Bd.returns rfl rfl (hb hby d1_141) (by rw [← hQQ, e0]; exact ⟨by simp [own_kind], N0, rfl⟩) (by decide) (by decide)
    · skip
      refine gs (fun t => XS.tswIn (g := (mkF m 1 #[.val (.int (81 : Int32))] [(.int (81 : Int32))])) X0.here hx rfl (pc0 := 1) (pc' := 140) (o := 139) rfl (hb hby d1_1) rfl (by decide +kernel) (by decide +kernel) (by decide) (by decide)) ?_
      show Go p e below s QQ 0 0 (s₁.setTop (mkF m 140 #[.val (.int (81 : Int32))] []))
      refine gs (fun t => XS.aconstNull X0.here hx rfl (hb hby d1_140)) ?_
      show Go p e below s QQ 0 0 (s₁.setTop (mkF m 141 #[.val (.int (81 : Int32))] [.null]))
      exact goR X0 hx Bd.notSynchronized Bd.returns rfl rfl (hb hby d1_141) (by rw [← hQQ, e0]; exact ⟨by simp [own_kind], N0, rfl⟩) (by decide) (by decide)
    · skip
      refine gs (fun t => XS.tswIn (g := (mkF m 1 #[.val (.int (82 : Int32))] [(.int (82 : Int32))])) X0.here hx rfl (pc0 := 1) (pc' := 140) (o := 139) rfl (hb hby d1_1) rfl (by decide +kernel) (by decide +kernel) (by decide) (by decide)) ?_
      show Go p e below s QQ 0 0 (s₁.setTop (mkF m 140 #[.val (.int (82 : Int32))] []))
      refine gs (fun t => XS.aconstNull X0.here hx rfl (hb hby d1_140)) ?_
      show Go p e below s QQ 0 0 (s₁.setTop (mkF m 141 #[.val (.int (82 : Int32))] [.null]))
      exact goR X0 hx Bd.notSynchronized Bd.returns rfl rfl (hb hby d1_141) (by rw [← hQQ, e0]; exact ⟨by simp [own_kind], N0, rfl⟩) (by decide) (by decide)
    · skip
      refine gs (fun t => XS.tswIn (g := (mkF m 1 #[.val (.int (83 : Int32))] [(.int (83 : Int32))])) X0.here hx rfl (pc0 := 1) (pc' := 116) (o := 115) rfl (hb hby d1_1) rfl (by decide +kernel) (by decide +kernel) (by decide) (by decide)) ?_
      show Go p e below s QQ 0 0 (s₁.setTop (mkF m 116 #[.val (.int (83 : Int32))] []))
      obtain ⟨T7, X7, e7, st7⟩ := getS2 X0 hx hZ hown (host := "") (Or.inl (hw _ (List.mem_of_getElem? (i := 5) rfl))) Via.refl e0 (S_x_INTEGER.ext OLD.2) (g := (mkF m 116 #[.val (.int (83 : Int32))] [])) rfl (hb hby d1_116)
      refine gs st7 ?_
      show Go p e below s QQ 0 0 (T7.setTop (mkF m 119 #[.val (.int (83 : Int32))] [(.ref x_INTEGER)]))
      refine gs (fun t => XS.goto X7.here hx rfl (pc0 := 119) (pc' := 141) rfl (hb hby d1_119) (by decide) (by decide)) ?_
      show Go p e below s QQ 0 0 (T7.setTop (mkF m 141 #[.val (.int (83 : Int32))] [(.ref x_INTEGER)]))
      exact goR X7 hx Bd.notSynchronized Bd.returns rfl rfl (hb hby d1_141) (by rw [← hQQ, e7]; exact ⟨by simp [own_kind], N0, rfl⟩) (by decide) (by decide)
    · skip
      refine gs (fun t => XS.tswIn (g := (mkF m 1 #[.val (.int (84 : Int32))] [(.int (84 : Int32))])) X0.here hx rfl (pc0 := 1) (pc' := 140) (o := 139) rfl (hb hby d1_1) rfl (by decide +kernel) (by decide +kernel) (by decide) (by decide)) ?_
      show Go p e below s QQ 0 0 (s₁.setTop (mkF m 140 #[.val (.int (84 : Int32))] []))
      refine gs (fun t => XS.aconstNull X0.here hx rfl (hb hby d1_140)) ?_
      show Go p e below s QQ 0 0 (s₁.setTop (mkF m 141 #[.val (.int (84 : Int32))] [.null]))
      exact goR X0 hx Bd.notSynchronized Bd.returns rfl rfl (hb hby d1_141) (by rw [← hQQ, e0]; exact ⟨by simp [own_kind], N0, rfl⟩) (by decide) (by decide)
    · skip
      refine gs (fun t => XS.tswIn (g := (mkF m 1 #[.val (.int (85 : Int32))] [(.int (85 : Int32))])) X0.here hx rfl (pc0 := 1) (pc' := 140) (o := 139) rfl (hb hby d1_1) rfl (by decide +kernel) (by decide +kernel) (by decide) (by decide)) ?_
      show Go p e below s QQ 0 0 (s₁.setTop (mkF m 140 #[.val (.int (85 : Int32))] []))
      refine gs (fun t => XS.aconstNull X0.here hx rfl (hb hby d1_140)) ?_
      show Go p e below s QQ 0 0 (s₁.setTop (mkF m 141 #[.val (.int (85 : Int32))] [.null]))
      exact goR X0 hx Bd.notSynchronized Bd.returns rfl rfl (hb hby d1_141) (by rw [← hQQ, e0]; exact ⟨by simp [own_kind], N0, rfl⟩) (by decide) (by decide)
    · skip
      refine gs (fun t => XS.tswIn (g := (mkF m 1 #[.val (.int (86 : Int32))] [(.int (86 : Int32))])) X0.here hx rfl (pc0 := 1) (pc' := 140) (o := 139) rfl (hb hby d1_1) rfl (by decide +kernel) (by decide +kernel) (by decide) (by decide)) ?_
      show Go p e below s QQ 0 0 (s₁.setTop (mkF m 140 #[.val (.int (86 : Int32))] []))
      refine gs (fun t => XS.aconstNull X0.here hx rfl (hb hby d1_140)) ?_
      show Go p e below s QQ 0 0 (s₁.setTop (mkF m 141 #[.val (.int (86 : Int32))] [.null]))
      exact goR X0 hx Bd.notSynchronized Bd.returns rfl rfl (hb hby d1_141) (by rw [← hQQ, e0]; exact ⟨by simp [own_kind], N0, rfl⟩) (by decide) (by decide)
    · skip
      refine gs (fun t => XS.tswIn (g := (mkF m 1 #[.val (.int (87 : Int32))] [(.int (87 : Int32))])) X0.here hx rfl (pc0 := 1) (pc' := 140) (o := 139) rfl (hb hby d1_1) rfl (by decide +kernel) (by decide +kernel) (by decide) (by decide)) ?_
      show Go p e below s QQ 0 0 (s₁.setTop (mkF m 140 #[.val (.int (87 : Int32))] []))
      refine gs (fun t => XS.aconstNull X0.here hx rfl (hb hby d1_140)) ?_
      show Go p e below s QQ 0 0 (s₁.setTop (mkF m 141 #[.val (.int (87 : Int32))] [.null]))
      exact goR X0 hx Bd.notSynchronized Bd.returns rfl rfl (hb hby d1_141) (by rw [← hQQ, e0]; exact ⟨by simp [own_kind], N0, rfl⟩) (by decide) (by decide)
    · skip
      refine gs (fun t => XS.tswIn (g := (mkF m 1 #[.val (.int (88 : Int32))] [(.int (88 : Int32))])) X0.here hx rfl (pc0 := 1) (pc' := 140) (o := 139) rfl (hb hby d1_1) rfl (by decide +kernel) (by decide +kernel) (by decide) (by decide)) ?_
      show Go p e below s QQ 0 0 (s₁.setTop (mkF m 140 #[.val (.int (88 : Int32))] []))
      refine gs (fun t => XS.aconstNull X0.here hx rfl (hb hby d1_140)) ?_
      show Go p e below s QQ 0 0 (s₁.setTop (mkF m 141 #[.val (.int (88 : Int32))] [.null]))
      exact goR X0 hx Bd.notSynchronized Bd.returns rfl rfl (hb hby d1_141) (by rw [← hQQ, e0]; exact ⟨by simp [own_kind], N0, rfl⟩) (by decide) (by decide)
    · skip
      refine gs (fun t => XS.tswIn (g := (mkF m 1 #[.val (.int (89 : Int32))] [(.int (89 : Int32))])) X0.here hx rfl (pc0 := 1) (pc' := 140) (o := 139) rfl (hb hby d1_1) rfl (by decide +kernel) (by decide +kernel) (by decide) (by decide)) ?_
      show Go p e below s QQ 0 0 (s₁.setTop (mkF m 140 #[.val (.int (89 : Int32))] []))
      refine gs (fun t => XS.aconstNull X0.here hx rfl (hb hby d1_140)) ?_
      show Go p e below s QQ 0 0 (s₁.setTop (mkF m 141 #[.val (.int (89 : Int32))] [.null]))
      exact goR X0 hx Bd.notSynchronized Bd.returns rfl rfl (hb hby d1_141) (by rw [← hQQ, e0]; exact ⟨by simp [own_kind], N0, rfl⟩) (by decide) (by decide)
    · skip
      refine gs (fun t => XS.tswIn (g := (mkF m 1 #[.val (.int (90 : Int32))] [(.int (90 : Int32))])) X0.here hx rfl (pc0 := 1) (pc' := 116) (o := 115) rfl (hb hby d1_1) rfl (by decide +kernel) (by decide +kernel) (by decide) (by decide)) ?_
      show Go p e below s QQ 0 0 (s₁.setTop (mkF m 116 #[.val (.int (90 : Int32))] []))
      obtain ⟨T8, X8, e8, st8⟩ := getS2 X0 hx hZ hown (host := "") (Or.inl (hw _ (List.mem_of_getElem? (i := 5) rfl))) Via.refl e0 (S_x_INTEGER.ext OLD.2) (g := (mkF m 116 #[.val (.int (90 : Int32))] [])) rfl (hb hby d1_116)
      refine gs st8 ?_
      show Go p e below s QQ 0 0 (T8.setTop (mkF m 119 #[.val (.int (90 : Int32))] [(.ref x_INTEGER)]))
      refine gs (fun t => XS.goto X8.here hx rfl (pc0 := 119) (pc' := 141) rfl (hb hby d1_119) (by decide) (by decide)) ?_
      show Go p e below s QQ 0 0 (T8.setTop (mkF m 141 #[.val (.int (90 : Int32))] [(.ref x_INTEGER)]))
      exact goR X8 hx Bd.notSynchronized Bd.returns rfl rfl (hb hby d1_141) (by rw [← hQQ, e8]; exact ⟨by simp [own_kind], N0, rfl⟩) (by decide) (by decide)
theorem d2_0 : decode method_2_code 0 = .ok (.iload_n 0, 1) := by decide +kernel
theorem d2_1 : decode method_2_code 1 = .ok (.bipush 66, 2) := by decide +kernel
theorem d2_3 : decode method_2_code 3 = .ok (.if_icmp .eq 27, 3) := by decide +kernel
theorem d2_6 : decode method_2_code 6 = .ok (.iload_n 0, 1) := by decide +kernel
theorem d2_7 : decode method_2_code 7 = .ok (.bipush 67, 2) := by decide +kernel
theorem d2_9 : decode method_2_code 9 = .ok (.if_icmp .eq 21, 3) := by decide +kernel
theorem d2_12 : decode method_2_code 12 = .ok (.iload_n 0, 1) := by decide +kernel
theorem d2_13 : decode method_2_code 13 = .ok (.bipush 73, 2) := by decide +kernel
theorem d2_15 : decode method_2_code 15 = .ok (.if_icmp .eq 15, 3) := by decide +kernel
theorem d2_18 : decode method_2_code 18 = .ok (.iload_n 0, 1) := by decide +kernel
theorem d2_19 : decode method_2_code 19 = .ok (.bipush 83, 2) := by decide +kernel
theorem d2_21 : decode method_2_code 21 = .ok (.if_icmp .eq 9, 3) := by decide +kernel
theorem d2_24 : decode method_2_code 24 = .ok (.iload_n 0, 1) := by decide +kernel
theorem d2_25 : decode method_2_code 25 = .ok (.bipush 90, 2) := by decide +kernel
theorem d2_27 : decode method_2_code 27 = .ok (.if_icmp .ne 7, 3) := by decide +kernel
theorem d2_30 : decode method_2_code 30 = .ok (.getstatic 7, 3) := by decide +kernel
theorem d2_33 : decode method_2_code 33 = .ok (.areturn, 1) := by decide +kernel
theorem d2_34 : decode method_2_code 34 = .ok (.iload_n 0, 1) := by decide +kernel
theorem d2_35 : decode method_2_code 35 = .ok (.bipush 74, 2) := by decide +kernel
theorem d2_37 : decode method_2_code 37 = .ok (.if_icmp .ne 7, 3) := by decide +kernel
theorem d2_40 : decode method_2_code 40 = .ok (.getstatic 13, 3) := by decide +kernel
theorem d2_43 : decode method_2_code 43 = .ok (.areturn, 1) := by decide +kernel
theorem d2_44 : decode method_2_code 44 = .ok (.iload_n 0, 1) := by decide +kernel
theorem d2_45 : decode method_2_code 45 = .ok (.bipush 70, 2) := by decide +kernel
theorem d2_47 : decode method_2_code 47 = .ok (.if_icmp .ne 7, 3) := by decide +kernel
theorem d2_50 : decode method_2_code 50 = .ok (.getstatic 16, 3) := by decide +kernel
theorem d2_53 : decode method_2_code 53 = .ok (.areturn, 1) := by decide +kernel
theorem d2_54 : decode method_2_code 54 = .ok (.iload_n 0, 1) := by decide +kernel
theorem d2_55 : decode method_2_code 55 = .ok (.bipush 68, 2) := by decide +kernel
theorem d2_57 : decode method_2_code 57 = .ok (.if_icmp .ne 7, 3) := by decide +kernel
theorem d2_60 : decode method_2_code 60 = .ok (.getstatic 19, 3) := by decide +kernel
theorem d2_63 : decode method_2_code 63 = .ok (.areturn, 1) := by decide +kernel
theorem d2_64 : decode method_2_code 64 = .ok (.aconst_null, 1) := by decide +kernel
theorem d2_65 : decode method_2_code 65 = .ok (.areturn, 1) := by decide +kernel
theorem pn_2 : plainName "com/example/roastery/roastery/model/ConstantKindOfPrimitiveTypePinLaw" = true := by first | (simp [plainName, overriddenIn]; done) | decide +kernel
def Qrm2 (Z : State) (p0 : Int32) (x_INTEGER : Addr) (x_LONG : Addr) (x_FLOAT : Addr) (x_DOUBLE : Addr) (h0 : Heap) (n0 : Nat) (v : Option Value) (h : Heap) (L : List Loc) : Prop := v = some (own_kind p0 x_INTEGER x_LONG x_FLOAT x_DOUBLE) ∧ Fr n0 L ∧ h = h0
set_option maxRecDepth 65536 in
set_option maxHeartbeats 40000000 in
theorem rm2 (l : Launch) (Z : State) (a0 : Array Value) (hw : ∀ d ∈ tables_1, d.before a0 Z = true) (ws : List Jvm.Cond) (p0 : Int32) (x_INTEGER : Addr) (x_LONG : Addr) (x_FLOAT : Addr) (x_DOUBLE : Addr) (h0 : Heap) (n0 : Nat) (Z0 : n0 ≤ h0.size) (OLD : Old Z n0 h0) (S_x_INTEGER : Sta Z Z.heap "com/example/roastery/roastery/model/ConstantKind" "INTEGER" "Lcom/example/roastery/roastery/model/ConstantKind;" (.ref x_INTEGER)) (S_x_LONG : Sta Z Z.heap "com/example/roastery/roastery/model/ConstantKind" "LONG" "Lcom/example/roastery/roastery/model/ConstantKind;" (.ref x_LONG)) (S_x_FLOAT : Sta Z Z.heap "com/example/roastery/roastery/model/ConstantKind" "FLOAT" "Lcom/example/roastery/roastery/model/ConstantKind;" (.ref x_FLOAT)) (S_x_DOUBLE : Sta Z Z.heap "com/example/roastery/roastery/model/ConstantKind" "DOUBLE" "Lcom/example/roastery/roastery/model/ConstantKind;" (.ref x_DOUBLE)) :
    MetFree l (⟨"com/example/roastery/roastery/model/ConstantKindOfPrimitiveTypePinLaw", "expected", "(C)Lcom/example/roastery/roastery/model/ConstantKind;"⟩ : MethodName) (head1 (Jvm.Cond.code (⟨"com/example/roastery/roastery/model/ConstantKindOfPrimitiveTypePinLaw", "expected", "(C)Lcom/example/roastery/roastery/model/ConstantKind;"⟩ : MethodName) method_2_code 1 (some (.object "com/example/roastery/roastery/model/ConstantKind")) :: ws) ({ frames := 0, cells := 0, slots := 0, locals := 0 } : Room)) (fun a U => a = #[(.int p0)] ∧ Z.Warmed39 U.vm ∧ U.heap = h0) (fun _ _ _ _ _ => True) (fun _ U o U' => ∃ v L, o = .returned v ∧ Qrm2 Z p0 x_INTEGER x_LONG x_FLOAT x_DOUBLE h0 n0 v U'.heap L ∧ FrameEnd U o U' L ({ frames := 0, cells := 0, slots := 0, locals := 0 } : Room).cells ({ frames := 0, cells := 0, slots := 0, locals := 0 } : Room).slots) := by
  refine MetFree.of_bodySF (plainFor_of_name pn_2) hisR ?_
  intro p e s m args below meth c s₁ Bd hml0 hP hK
  obtain ⟨rfl, hZ, hh⟩ := hP
  have hx := Bd.exec
  have hby := Bd.bytes
  have hml : c.maxLocals = 1 := hml0
  have hown : s.vm.findClass "com/example/roastery/roastery/model/ConstantKindOfPrimitiveTypePinLaw" = some m.cls := findClass_of_methodNamed Bd.named
  have hnm := (name_of_methodNamed Bd.named Bd.method).1
  have X0 : Stand p l e ({ frames := 0, cells := 0, slots := 0, locals := 0 } : Room) s m #[(.int p0)] below meth c s₁ [] 0 0 := Stand.of_body Bd
  have e0 : s₁.heap = h0 := by rw [← hh, Bd.state]; rfl
  have N0 := Fr.nil n0
  have ZZ := Z0
  show Go p e below s (Qrm2 Z p0 x_INTEGER x_LONG x_FLOAT x_DOUBLE h0 n0) 0 0 (s₁.setTop (entryFrame m #[(.int p0)] 1))
  generalize hQQ : (Qrm2 Z p0 x_INTEGER x_LONG x_FLOAT x_DOUBLE h0 n0) = QQ
  refine gs (fun t k => castTop (g' := (mkF m 0 #[.val (.int p0)] [])) (by first | (simp [entryFrame, mkF, argsToLocals, Value.category, maxLocals]; done) | rfl) k) ?_
  show Go p e below s QQ 0 0 (s₁.setTop (mkF m 0 #[.val (.int p0)] []))
  refine gs (fun t => XS.iloadN X0.here hx rfl (hb hby d2_0) rfl) ?_
  show Go p e below s QQ 0 0 (s₁.setTop (mkF m 1 #[.val (.int p0)] [(.int p0)]))
  refine gs (fun t => XS.bipush X0.here hx rfl (hb hby d2_1)) ?_
  show Go p e below s QQ 0 0 (s₁.setTop (mkF m 3 #[.val (.int p0)] [(.int (66 : Int32)), (.int p0)]))
  by_cases h66 : p0 = (66 : Int32)
  · skip
    refine gs (fun t => XS.icmpYes X0.here hx rfl (pc0 := 3) (pc' := 30) rfl (hb hby d2_3) rfl (teq h66).1 (by decide) (by decide)) ?_
    show Go p e below s QQ 0 0 (s₁.setTop (mkF m 30 #[.val (.int p0)] []))
    obtain ⟨T9, X9, e9, st9⟩ := getS2 X0 hx hZ hown (host := "") (Or.inl (hw _ (List.mem_of_getElem? (i := 11) rfl))) Via.refl e0 (S_x_INTEGER.ext OLD.2) (g := (mkF m 30 #[.val (.int p0)] [])) rfl (hb hby d2_30)
    refine gs st9 ?_
    show Go p e below s QQ 0 0 (T9.setTop (mkF m 33 #[.val (.int p0)] [(.ref x_INTEGER)]))
    exact goR X9 hx Bd.notSynchronized Bd.returns rfl rfl (hb hby d2_33) (by rw [← hQQ, e9]; exact ⟨by simp [own_kind, h66], N0, rfl⟩) (by decide) (by decide)
  · skip
    refine gs (fun t => XS.icmpNo X0.here hx rfl (hb hby d2_3) rfl (feq h66).1) ?_
    show Go p e below s QQ 0 0 (s₁.setTop (mkF m 6 #[.val (.int p0)] []))
    refine gs (fun t => XS.iloadN X0.here hx rfl (hb hby d2_6) rfl) ?_
    show Go p e below s QQ 0 0 (s₁.setTop (mkF m 7 #[.val (.int p0)] [(.int p0)]))
    refine gs (fun t => XS.bipush X0.here hx rfl (hb hby d2_7)) ?_
    show Go p e below s QQ 0 0 (s₁.setTop (mkF m 9 #[.val (.int p0)] [(.int (67 : Int32)), (.int p0)]))
    by_cases h67 : p0 = (67 : Int32)
    · skip
      refine gs (fun t => XS.icmpYes X0.here hx rfl (pc0 := 9) (pc' := 30) rfl (hb hby d2_9) rfl (teq h67).1 (by decide) (by decide)) ?_
      show Go p e below s QQ 0 0 (s₁.setTop (mkF m 30 #[.val (.int p0)] []))
      obtain ⟨T10, X10, e10, st10⟩ := getS2 X0 hx hZ hown (host := "") (Or.inl (hw _ (List.mem_of_getElem? (i := 11) rfl))) Via.refl e0 (S_x_INTEGER.ext OLD.2) (g := (mkF m 30 #[.val (.int p0)] [])) rfl (hb hby d2_30)
      refine gs st10 ?_
      show Go p e below s QQ 0 0 (T10.setTop (mkF m 33 #[.val (.int p0)] [(.ref x_INTEGER)]))
      exact goR X10 hx Bd.notSynchronized Bd.returns rfl rfl (hb hby d2_33) (by rw [← hQQ, e10]; exact ⟨by simp [own_kind, h66, h67], N0, rfl⟩) (by decide) (by decide)
    · skip
      refine gs (fun t => XS.icmpNo X0.here hx rfl (hb hby d2_9) rfl (feq h67).1) ?_
      show Go p e below s QQ 0 0 (s₁.setTop (mkF m 12 #[.val (.int p0)] []))
      refine gs (fun t => XS.iloadN X0.here hx rfl (hb hby d2_12) rfl) ?_
      show Go p e below s QQ 0 0 (s₁.setTop (mkF m 13 #[.val (.int p0)] [(.int p0)]))
      refine gs (fun t => XS.bipush X0.here hx rfl (hb hby d2_13)) ?_
      show Go p e below s QQ 0 0 (s₁.setTop (mkF m 15 #[.val (.int p0)] [(.int (73 : Int32)), (.int p0)]))
      by_cases h73 : p0 = (73 : Int32)
      · skip
        refine gs (fun t => XS.icmpYes X0.here hx rfl (pc0 := 15) (pc' := 30) rfl (hb hby d2_15) rfl (teq h73).1 (by decide) (by decide)) ?_
        show Go p e below s QQ 0 0 (s₁.setTop (mkF m 30 #[.val (.int p0)] []))
        obtain ⟨T11, X11, e11, st11⟩ := getS2 X0 hx hZ hown (host := "") (Or.inl (hw _ (List.mem_of_getElem? (i := 11) rfl))) Via.refl e0 (S_x_INTEGER.ext OLD.2) (g := (mkF m 30 #[.val (.int p0)] [])) rfl (hb hby d2_30)
        refine gs st11 ?_
        show Go p e below s QQ 0 0 (T11.setTop (mkF m 33 #[.val (.int p0)] [(.ref x_INTEGER)]))
        exact goR X11 hx Bd.notSynchronized Bd.returns rfl rfl (hb hby d2_33) (by rw [← hQQ, e11]; exact ⟨by simp [own_kind, h66, h67, h73], N0, rfl⟩) (by decide) (by decide)
      · skip
        refine gs (fun t => XS.icmpNo X0.here hx rfl (hb hby d2_15) rfl (feq h73).1) ?_
        show Go p e below s QQ 0 0 (s₁.setTop (mkF m 18 #[.val (.int p0)] []))
        refine gs (fun t => XS.iloadN X0.here hx rfl (hb hby d2_18) rfl) ?_
        show Go p e below s QQ 0 0 (s₁.setTop (mkF m 19 #[.val (.int p0)] [(.int p0)]))
        refine gs (fun t => XS.bipush X0.here hx rfl (hb hby d2_19)) ?_
        show Go p e below s QQ 0 0 (s₁.setTop (mkF m 21 #[.val (.int p0)] [(.int (83 : Int32)), (.int p0)]))
        by_cases h83 : p0 = (83 : Int32)
        · skip
          refine gs (fun t => XS.icmpYes X0.here hx rfl (pc0 := 21) (pc' := 30) rfl (hb hby d2_21) rfl (teq h83).1 (by decide) (by decide)) ?_
          show Go p e below s QQ 0 0 (s₁.setTop (mkF m 30 #[.val (.int p0)] []))
          obtain ⟨T12, X12, e12, st12⟩ := getS2 X0 hx hZ hown (host := "") (Or.inl (hw _ (List.mem_of_getElem? (i := 11) rfl))) Via.refl e0 (S_x_INTEGER.ext OLD.2) (g := (mkF m 30 #[.val (.int p0)] [])) rfl (hb hby d2_30)
          refine gs st12 ?_
          show Go p e below s QQ 0 0 (T12.setTop (mkF m 33 #[.val (.int p0)] [(.ref x_INTEGER)]))
          exact goR X12 hx Bd.notSynchronized Bd.returns rfl rfl (hb hby d2_33) (by rw [← hQQ, e12]; exact ⟨by simp [own_kind, h66, h67, h73, h83], N0, rfl⟩) (by decide) (by decide)
        · skip
          refine gs (fun t => XS.icmpNo X0.here hx rfl (hb hby d2_21) rfl (feq h83).1) ?_
          show Go p e below s QQ 0 0 (s₁.setTop (mkF m 24 #[.val (.int p0)] []))
          refine gs (fun t => XS.iloadN X0.here hx rfl (hb hby d2_24) rfl) ?_
          show Go p e below s QQ 0 0 (s₁.setTop (mkF m 25 #[.val (.int p0)] [(.int p0)]))
          refine gs (fun t => XS.bipush X0.here hx rfl (hb hby d2_25)) ?_
          show Go p e below s QQ 0 0 (s₁.setTop (mkF m 27 #[.val (.int p0)] [(.int (90 : Int32)), (.int p0)]))
          by_cases h90 : p0 = (90 : Int32)
          · skip
            refine gs (fun t => XS.icmpNo X0.here hx rfl (hb hby d2_27) rfl (teq h90).2) ?_
            show Go p e below s QQ 0 0 (s₁.setTop (mkF m 30 #[.val (.int p0)] []))
            obtain ⟨T13, X13, e13, st13⟩ := getS2 X0 hx hZ hown (host := "") (Or.inl (hw _ (List.mem_of_getElem? (i := 11) rfl))) Via.refl e0 (S_x_INTEGER.ext OLD.2) (g := (mkF m 30 #[.val (.int p0)] [])) rfl (hb hby d2_30)
            refine gs st13 ?_
            show Go p e below s QQ 0 0 (T13.setTop (mkF m 33 #[.val (.int p0)] [(.ref x_INTEGER)]))
            exact goR X13 hx Bd.notSynchronized Bd.returns rfl rfl (hb hby d2_33) (by rw [← hQQ, e13]; exact ⟨by simp [own_kind, h66, h67, h73, h83, h90], N0, rfl⟩) (by decide) (by decide)
          · skip
            refine gs (fun t => XS.icmpYes X0.here hx rfl (pc0 := 27) (pc' := 34) rfl (hb hby d2_27) rfl (feq h90).2 (by decide) (by decide)) ?_
            show Go p e below s QQ 0 0 (s₁.setTop (mkF m 34 #[.val (.int p0)] []))
            refine gs (fun t => XS.iloadN X0.here hx rfl (hb hby d2_34) rfl) ?_
            show Go p e below s QQ 0 0 (s₁.setTop (mkF m 35 #[.val (.int p0)] [(.int p0)]))
            refine gs (fun t => XS.bipush X0.here hx rfl (hb hby d2_35)) ?_
            show Go p e below s QQ 0 0 (s₁.setTop (mkF m 37 #[.val (.int p0)] [(.int (74 : Int32)), (.int p0)]))
            by_cases h74 : p0 = (74 : Int32)
            · skip
              refine gs (fun t => XS.icmpNo X0.here hx rfl (hb hby d2_37) rfl (teq h74).2) ?_
              show Go p e below s QQ 0 0 (s₁.setTop (mkF m 40 #[.val (.int p0)] []))
              obtain ⟨T14, X14, e14, st14⟩ := getS2 X0 hx hZ hown (host := "") (Or.inl (hw _ (List.mem_of_getElem? (i := 14) rfl))) Via.refl e0 (S_x_LONG.ext OLD.2) (g := (mkF m 40 #[.val (.int p0)] [])) rfl (hb hby d2_40)
              refine gs st14 ?_
              show Go p e below s QQ 0 0 (T14.setTop (mkF m 43 #[.val (.int p0)] [(.ref x_LONG)]))
              exact goR X14 hx Bd.notSynchronized Bd.returns rfl rfl (hb hby d2_43) (by rw [← hQQ, e14]; exact ⟨by simp [own_kind, h74], N0, rfl⟩) (by decide) (by decide)
            · skip
              refine gs (fun t => XS.icmpYes X0.here hx rfl (pc0 := 37) (pc' := 44) rfl (hb hby d2_37) rfl (feq h74).2 (by decide) (by decide)) ?_
              show Go p e below s QQ 0 0 (s₁.setTop (mkF m 44 #[.val (.int p0)] []))
              refine gs (fun t => XS.iloadN X0.here hx rfl (hb hby d2_44) rfl) ?_
              show Go p e below s QQ 0 0 (s₁.setTop (mkF m 45 #[.val (.int p0)] [(.int p0)]))
              refine gs (fun t => XS.bipush X0.here hx rfl (hb hby d2_45)) ?_
              show Go p e below s QQ 0 0 (s₁.setTop (mkF m 47 #[.val (.int p0)] [(.int (70 : Int32)), (.int p0)]))
              by_cases h70 : p0 = (70 : Int32)
              · skip
                refine gs (fun t => XS.icmpNo X0.here hx rfl (hb hby d2_47) rfl (teq h70).2) ?_
                show Go p e below s QQ 0 0 (s₁.setTop (mkF m 50 #[.val (.int p0)] []))
                obtain ⟨T15, X15, e15, st15⟩ := getS2 X0 hx hZ hown (host := "") (Or.inl (hw _ (List.mem_of_getElem? (i := 18) rfl))) Via.refl e0 (S_x_FLOAT.ext OLD.2) (g := (mkF m 50 #[.val (.int p0)] [])) rfl (hb hby d2_50)
                refine gs st15 ?_
                show Go p e below s QQ 0 0 (T15.setTop (mkF m 53 #[.val (.int p0)] [(.ref x_FLOAT)]))
                exact goR X15 hx Bd.notSynchronized Bd.returns rfl rfl (hb hby d2_53) (by rw [← hQQ, e15]; exact ⟨by simp [own_kind, h70], N0, rfl⟩) (by decide) (by decide)
              · skip
                refine gs (fun t => XS.icmpYes X0.here hx rfl (pc0 := 47) (pc' := 54) rfl (hb hby d2_47) rfl (feq h70).2 (by decide) (by decide)) ?_
                show Go p e below s QQ 0 0 (s₁.setTop (mkF m 54 #[.val (.int p0)] []))
                refine gs (fun t => XS.iloadN X0.here hx rfl (hb hby d2_54) rfl) ?_
                show Go p e below s QQ 0 0 (s₁.setTop (mkF m 55 #[.val (.int p0)] [(.int p0)]))
                refine gs (fun t => XS.bipush X0.here hx rfl (hb hby d2_55)) ?_
                show Go p e below s QQ 0 0 (s₁.setTop (mkF m 57 #[.val (.int p0)] [(.int (68 : Int32)), (.int p0)]))
                by_cases h68 : p0 = (68 : Int32)
                · skip
                  refine gs (fun t => XS.icmpNo X0.here hx rfl (hb hby d2_57) rfl (teq h68).2) ?_
                  show Go p e below s QQ 0 0 (s₁.setTop (mkF m 60 #[.val (.int p0)] []))
                  obtain ⟨T16, X16, e16, st16⟩ := getS2 X0 hx hZ hown (host := "") (Or.inl (hw _ (List.mem_of_getElem? (i := 21) rfl))) Via.refl e0 (S_x_DOUBLE.ext OLD.2) (g := (mkF m 60 #[.val (.int p0)] [])) rfl (hb hby d2_60)
                  refine gs st16 ?_
                  show Go p e below s QQ 0 0 (T16.setTop (mkF m 63 #[.val (.int p0)] [(.ref x_DOUBLE)]))
                  exact goR X16 hx Bd.notSynchronized Bd.returns rfl rfl (hb hby d2_63) (by rw [← hQQ, e16]; exact ⟨by simp [own_kind, h68], N0, rfl⟩) (by decide) (by decide)
                · skip
                  refine gs (fun t => XS.icmpYes X0.here hx rfl (pc0 := 57) (pc' := 64) rfl (hb hby d2_57) rfl (feq h68).2 (by decide) (by decide)) ?_
                  show Go p e below s QQ 0 0 (s₁.setTop (mkF m 64 #[.val (.int p0)] []))
                  refine gs (fun t => XS.aconstNull X0.here hx rfl (hb hby d2_64)) ?_
                  show Go p e below s QQ 0 0 (s₁.setTop (mkF m 65 #[.val (.int p0)] [.null]))
                  exact goR X0 hx Bd.notSynchronized Bd.returns rfl rfl (hb hby d2_65) (by rw [← hQQ, e0]; exact ⟨by simp [own_kind, h74, h70, h68, h66, h67, h73, h83, h90], N0, rfl⟩) (by decide) (by decide)
theorem pn_0 : plainName "com/example/roastery/roastery/model/ConstantKindOfPrimitiveTypePinLaw" = true := by first | (simp [plainName, overriddenIn]; done) | decide +kernel
def Qrm0 (Z : State) (p0 : Int32) (p1 : Int32) (x_INTEGER : Addr) (x_LONG : Addr) (x_FLOAT : Addr) (x_DOUBLE : Addr) (h0 : Heap) (n0 : Nat) (v : Option Value) (h : Heap) (L : List Loc) : Prop := v = some (.int 1) ∧ Fr n0 L
set_option maxRecDepth 65536 in
set_option maxHeartbeats 40000000 in
theorem rm0 (l : Launch) (Z : State) (a0 : Array Value) (hw : ∀ d ∈ tables_1, d.before a0 Z = true) (ws : List Jvm.Cond) (p0 : Int32) (p1 : Int32) (x_INTEGER : Addr) (x_LONG : Addr) (x_FLOAT : Addr) (x_DOUBLE : Addr) (h0 : Heap) (n0 : Nat) (Z0 : n0 ≤ h0.size) (OLD : Old Z n0 h0) (S_x_INTEGER : Sta Z Z.heap "com/example/roastery/roastery/model/ConstantKind" "INTEGER" "Lcom/example/roastery/roastery/model/ConstantKind;" (.ref x_INTEGER)) (S_x_LONG : Sta Z Z.heap "com/example/roastery/roastery/model/ConstantKind" "LONG" "Lcom/example/roastery/roastery/model/ConstantKind;" (.ref x_LONG)) (S_x_FLOAT : Sta Z Z.heap "com/example/roastery/roastery/model/ConstantKind" "FLOAT" "Lcom/example/roastery/roastery/model/ConstantKind;" (.ref x_FLOAT)) (S_x_DOUBLE : Sta Z Z.heap "com/example/roastery/roastery/model/ConstantKind" "DOUBLE" "Lcom/example/roastery/roastery/model/ConstantKind;" (.ref x_DOUBLE)) :
    MetFree l x (head1 (Jvm.Cond.code x code maxLocals ret :: ws) room_1) (fun a U => a = #[(.int p0), (.int p1)] ∧ Z.Warmed39 U.vm ∧ U.heap = h0) (fun _ _ _ _ _ => True) (fun _ U o U' => ∃ v L, o = .returned v ∧ Qrm0 Z p0 p1 x_INTEGER x_LONG x_FLOAT x_DOUBLE h0 n0 v U'.heap L ∧ FrameEnd U o U' L room_1.cells room_1.slots) := by
  refine MetFree.of_bodySF (plainFor_of_name pn_0) hisR ?_
  intro p e s m args below meth c s₁ Bd hml0 hP hK
  obtain ⟨rfl, hZ, hh⟩ := hP
  have hx := Bd.exec
  have hby := Bd.bytes
  have hml : c.maxLocals = 5 := hml0
  have hown : s.vm.findClass "com/example/roastery/roastery/model/ConstantKindOfPrimitiveTypePinLaw" = some m.cls := findClass_of_methodNamed Bd.named
  have hnm := (name_of_methodNamed Bd.named Bd.method).1
  have X0 : Stand p l e room_1 s m #[(.int p0), (.int p1)] below meth c s₁ [] 0 0 := Stand.of_body Bd
  have e0 : s₁.heap = h0 := by rw [← hh, Bd.state]; rfl
  have N0 := Fr.nil n0
  have ZZ := Z0
  show Go p e below s (Qrm0 Z p0 p1 x_INTEGER x_LONG x_FLOAT x_DOUBLE h0 n0) room_1.cells room_1.slots (s₁.setTop (entryFrame m #[(.int p0), (.int p1)] maxLocals))
  generalize hQQ : (Qrm0 Z p0 p1 x_INTEGER x_LONG x_FLOAT x_DOUBLE h0 n0) = QQ
  refine gs (fun t k => castTop (g' := (mkF m 0 #[.val (.int p0), .val (.int p1), .unset, .unset, .unset] [])) (by first | (simp [entryFrame, mkF, argsToLocals, Value.category, maxLocals]; done) | rfl) k) ?_
  show Go p e below s QQ room_1.cells room_1.slots (s₁.setTop (mkF m 0 #[.val (.int p0), .val (.int p1), .unset, .unset, .unset] []))
  refine gs (fun t => XS.bipush X0.here hx rfl (hb hby at_0)) ?_
  show Go p e below s QQ room_1.cells room_1.slots (s₁.setTop (mkF m 2 #[.val (.int p0), .val (.int p1), .unset, .unset, .unset] [(.int (20 : Int32))]))
  obtain ⟨T17, h17, k17, X17, e17, E17, A17, st17⟩ := newP X0 hx hZ (hw _ (List.mem_of_getElem? (i := 0) rfl)) e0 (g := (mkF m 2 #[.val (.int p0), .val (.int p1), .unset, .unset, .unset] [(.int (20 : Int32))])) rfl (hb hby at_2) rfl (by decide) (cap := 20) (by decide) (by decide) (by decide) (by decide)
  obtain ⟨b17, g17⟩ : ∃ z, z = h0.size := ⟨_, rfl⟩
  rw [← g17] at A17 st17
  have ge_b17 : n0 ≤ b17 := by rw [g17]; exact ZZ
  refine gs st17 ?_
  show Go p e below s QQ room_1.cells room_1.slots (T17.setTop (mkF m 4 #[.val (.int p0), .val (.int p1), .unset, .unset, .unset] [(.ref b17)]))
  replace OLD := OLD.ext E17
  replace ZZ := Nat.le_trans ZZ E17.1
  have V_b17 : Arf Z h17 b17 .char 20 (fun _ => .int 0) := Arf.new A17
  refine gs (fun t => XS.dup X17.here hx rfl (hb hby at_4) rfl rfl) ?_
  show Go p e below s QQ room_1.cells room_1.slots (T17.setTop (mkF m 5 #[.val (.int p0), .val (.int p1), .unset, .unset, .unset] [(.ref b17), (.ref b17)]))
  refine gs (fun t => XS.iconst X17.here hx rfl (hb hby at_5)) ?_
  show Go p e below s QQ room_1.cells room_1.slots (T17.setTop (mkF m 6 #[.val (.int p0), .val (.int p1), .unset, .unset, .unset] [(.int (0 : Int32)), (.ref b17), (.ref b17)]))
  refine gs (fun t => XS.bipush X17.here hx rfl (hb hby at_6)) ?_
  show Go p e below s QQ room_1.cells room_1.slots (T17.setTop (mkF m 8 #[.val (.int p0), .val (.int p1), .unset, .unset, .unset] [(.int (66 : Int32)), (.int (0 : Int32)), (.ref b17), (.ref b17)]))
  obtain ⟨T18, h18, X18, e18, W18, V18, st18⟩ := stCf X17 hx hZ e17 V_b17 (j := (0 : Int32)) (by decide) (g := (mkF m 8 #[.val (.int p0), .val (.int p1), .unset, .unset, .unset] [(.int (66 : Int32)), (.int (0 : Int32)), (.ref b17), (.ref b17)])) rfl rfl (hb hby at_8)
  replace N0 := Fr.snoc X18 N0 ge_b17
  refine gs st18 ?_
  show Go p e below s QQ room_1.cells room_1.slots (T18.setTop (mkF m 9 #[.val (.int p0), .val (.int p1), .unset, .unset, .unset] [(.ref b17)]))
  replace OLD := OLD.wr W18 ge_b17
  replace ZZ : n0 ≤ h18.size := by rw [W18.size]; exact ZZ
  replace V_b17 : Arf Z h18 b17 .char 20 (updv (fun _ => .int 0) 0 (.int (66 : Int32))) := V18
  refine gs (fun t => XS.dup X18.here hx rfl (hb hby at_9) rfl rfl) ?_
  show Go p e below s QQ room_1.cells room_1.slots (T18.setTop (mkF m 10 #[.val (.int p0), .val (.int p1), .unset, .unset, .unset] [(.ref b17), (.ref b17)]))
  refine gs (fun t => XS.iconst X18.here hx rfl (hb hby at_10)) ?_
  show Go p e below s QQ room_1.cells room_1.slots (T18.setTop (mkF m 11 #[.val (.int p0), .val (.int p1), .unset, .unset, .unset] [(.int (1 : Int32)), (.ref b17), (.ref b17)]))
  refine gs (fun t => XS.bipush X18.here hx rfl (hb hby at_11)) ?_
  show Go p e below s QQ room_1.cells room_1.slots (T18.setTop (mkF m 13 #[.val (.int p0), .val (.int p1), .unset, .unset, .unset] [(.int (67 : Int32)), (.int (1 : Int32)), (.ref b17), (.ref b17)]))
  obtain ⟨T19, h19, X19, e19, W19, V19, st19⟩ := stCf X18 hx hZ e18 V_b17 (j := (1 : Int32)) (by decide) (g := (mkF m 13 #[.val (.int p0), .val (.int p1), .unset, .unset, .unset] [(.int (67 : Int32)), (.int (1 : Int32)), (.ref b17), (.ref b17)])) rfl rfl (hb hby at_13)
  replace N0 := Fr.snoc X19 N0 ge_b17
  refine gs st19 ?_
  show Go p e below s QQ room_1.cells room_1.slots (T19.setTop (mkF m 14 #[.val (.int p0), .val (.int p1), .unset, .unset, .unset] [(.ref b17)]))
  replace OLD := OLD.wr W19 ge_b17
  replace ZZ : n0 ≤ h19.size := by rw [W19.size]; exact ZZ
  replace V_b17 : Arf Z h19 b17 .char 20 (updv (updv (fun _ => .int 0) 0 (.int (66 : Int32))) 1 (.int (67 : Int32))) := V19
  refine gs (fun t => XS.dup X19.here hx rfl (hb hby at_14) rfl rfl) ?_
  show Go p e below s QQ room_1.cells room_1.slots (T19.setTop (mkF m 15 #[.val (.int p0), .val (.int p1), .unset, .unset, .unset] [(.ref b17), (.ref b17)]))
  refine gs (fun t => XS.iconst X19.here hx rfl (hb hby at_15)) ?_
  show Go p e below s QQ room_1.cells room_1.slots (T19.setTop (mkF m 16 #[.val (.int p0), .val (.int p1), .unset, .unset, .unset] [(.int (2 : Int32)), (.ref b17), (.ref b17)]))
  refine gs (fun t => XS.bipush X19.here hx rfl (hb hby at_16)) ?_
  show Go p e below s QQ room_1.cells room_1.slots (T19.setTop (mkF m 18 #[.val (.int p0), .val (.int p1), .unset, .unset, .unset] [(.int (68 : Int32)), (.int (2 : Int32)), (.ref b17), (.ref b17)]))
  obtain ⟨T20, h20, X20, e20, W20, V20, st20⟩ := stCf X19 hx hZ e19 V_b17 (j := (2 : Int32)) (by decide) (g := (mkF m 18 #[.val (.int p0), .val (.int p1), .unset, .unset, .unset] [(.int (68 : Int32)), (.int (2 : Int32)), (.ref b17), (.ref b17)])) rfl rfl (hb hby at_18)
  replace N0 := Fr.snoc X20 N0 ge_b17
  refine gs st20 ?_
  show Go p e below s QQ room_1.cells room_1.slots (T20.setTop (mkF m 19 #[.val (.int p0), .val (.int p1), .unset, .unset, .unset] [(.ref b17)]))
  replace OLD := OLD.wr W20 ge_b17
  replace ZZ : n0 ≤ h20.size := by rw [W20.size]; exact ZZ
  replace V_b17 : Arf Z h20 b17 .char 20 (updv (updv (updv (fun _ => .int 0) 0 (.int (66 : Int32))) 1 (.int (67 : Int32))) 2 (.int (68 : Int32))) := V20
  refine gs (fun t => XS.dup X20.here hx rfl (hb hby at_19) rfl rfl) ?_
  show Go p e below s QQ room_1.cells room_1.slots (T20.setTop (mkF m 20 #[.val (.int p0), .val (.int p1), .unset, .unset, .unset] [(.ref b17), (.ref b17)]))
  refine gs (fun t => XS.iconst X20.here hx rfl (hb hby at_20)) ?_
  show Go p e below s QQ room_1.cells room_1.slots (T20.setTop (mkF m 21 #[.val (.int p0), .val (.int p1), .unset, .unset, .unset] [(.int (3 : Int32)), (.ref b17), (.ref b17)]))
  refine gs (fun t => XS.bipush X20.here hx rfl (hb hby at_21)) ?_
  show Go p e below s QQ room_1.cells room_1.slots (T20.setTop (mkF m 23 #[.val (.int p0), .val (.int p1), .unset, .unset, .unset] [(.int (70 : Int32)), (.int (3 : Int32)), (.ref b17), (.ref b17)]))
  obtain ⟨T21, h21, X21, e21, W21, V21, st21⟩ := stCf X20 hx hZ e20 V_b17 (j := (3 : Int32)) (by decide) (g := (mkF m 23 #[.val (.int p0), .val (.int p1), .unset, .unset, .unset] [(.int (70 : Int32)), (.int (3 : Int32)), (.ref b17), (.ref b17)])) rfl rfl (hb hby at_23)
  replace N0 := Fr.snoc X21 N0 ge_b17
  refine gs st21 ?_
  show Go p e below s QQ room_1.cells room_1.slots (T21.setTop (mkF m 24 #[.val (.int p0), .val (.int p1), .unset, .unset, .unset] [(.ref b17)]))
  replace OLD := OLD.wr W21 ge_b17
  replace ZZ : n0 ≤ h21.size := by rw [W21.size]; exact ZZ
  replace V_b17 : Arf Z h21 b17 .char 20 (updv (updv (updv (updv (fun _ => .int 0) 0 (.int (66 : Int32))) 1 (.int (67 : Int32))) 2 (.int (68 : Int32))) 3 (.int (70 : Int32))) := V21
  refine gs (fun t => XS.dup X21.here hx rfl (hb hby at_24) rfl rfl) ?_
  show Go p e below s QQ room_1.cells room_1.slots (T21.setTop (mkF m 25 #[.val (.int p0), .val (.int p1), .unset, .unset, .unset] [(.ref b17), (.ref b17)]))
  refine gs (fun t => XS.iconst X21.here hx rfl (hb hby at_25)) ?_
  show Go p e below s QQ room_1.cells room_1.slots (T21.setTop (mkF m 26 #[.val (.int p0), .val (.int p1), .unset, .unset, .unset] [(.int (4 : Int32)), (.ref b17), (.ref b17)]))
  refine gs (fun t => XS.bipush X21.here hx rfl (hb hby at_26)) ?_
  show Go p e below s QQ room_1.cells room_1.slots (T21.setTop (mkF m 28 #[.val (.int p0), .val (.int p1), .unset, .unset, .unset] [(.int (73 : Int32)), (.int (4 : Int32)), (.ref b17), (.ref b17)]))
  obtain ⟨T22, h22, X22, e22, W22, V22, st22⟩ := stCf X21 hx hZ e21 V_b17 (j := (4 : Int32)) (by decide) (g := (mkF m 28 #[.val (.int p0), .val (.int p1), .unset, .unset, .unset] [(.int (73 : Int32)), (.int (4 : Int32)), (.ref b17), (.ref b17)])) rfl rfl (hb hby at_28)
  replace N0 := Fr.snoc X22 N0 ge_b17
  refine gs st22 ?_
  show Go p e below s QQ room_1.cells room_1.slots (T22.setTop (mkF m 29 #[.val (.int p0), .val (.int p1), .unset, .unset, .unset] [(.ref b17)]))
  replace OLD := OLD.wr W22 ge_b17
  replace ZZ : n0 ≤ h22.size := by rw [W22.size]; exact ZZ
  replace V_b17 : Arf Z h22 b17 .char 20 (updv (updv (updv (updv (updv (fun _ => .int 0) 0 (.int (66 : Int32))) 1 (.int (67 : Int32))) 2 (.int (68 : Int32))) 3 (.int (70 : Int32))) 4 (.int (73 : Int32))) := V22
  refine gs (fun t => XS.dup X22.here hx rfl (hb hby at_29) rfl rfl) ?_
  show Go p e below s QQ room_1.cells room_1.slots (T22.setTop (mkF m 30 #[.val (.int p0), .val (.int p1), .unset, .unset, .unset] [(.ref b17), (.ref b17)]))
  refine gs (fun t => XS.iconst X22.here hx rfl (hb hby at_30)) ?_
  show Go p e below s QQ room_1.cells room_1.slots (T22.setTop (mkF m 31 #[.val (.int p0), .val (.int p1), .unset, .unset, .unset] [(.int (5 : Int32)), (.ref b17), (.ref b17)]))
  refine gs (fun t => XS.bipush X22.here hx rfl (hb hby at_31)) ?_
  show Go p e below s QQ room_1.cells room_1.slots (T22.setTop (mkF m 33 #[.val (.int p0), .val (.int p1), .unset, .unset, .unset] [(.int (74 : Int32)), (.int (5 : Int32)), (.ref b17), (.ref b17)]))
  obtain ⟨T23, h23, X23, e23, W23, V23, st23⟩ := stCf X22 hx hZ e22 V_b17 (j := (5 : Int32)) (by decide) (g := (mkF m 33 #[.val (.int p0), .val (.int p1), .unset, .unset, .unset] [(.int (74 : Int32)), (.int (5 : Int32)), (.ref b17), (.ref b17)])) rfl rfl (hb hby at_33)
  replace N0 := Fr.snoc X23 N0 ge_b17
  refine gs st23 ?_
  show Go p e below s QQ room_1.cells room_1.slots (T23.setTop (mkF m 34 #[.val (.int p0), .val (.int p1), .unset, .unset, .unset] [(.ref b17)]))
  replace OLD := OLD.wr W23 ge_b17
  replace ZZ : n0 ≤ h23.size := by rw [W23.size]; exact ZZ
  replace V_b17 : Arf Z h23 b17 .char 20 (updv (updv (updv (updv (updv (updv (fun _ => .int 0) 0 (.int (66 : Int32))) 1 (.int (67 : Int32))) 2 (.int (68 : Int32))) 3 (.int (70 : Int32))) 4 (.int (73 : Int32))) 5 (.int (74 : Int32))) := V23
  refine gs (fun t => XS.dup X23.here hx rfl (hb hby at_34) rfl rfl) ?_
  show Go p e below s QQ room_1.cells room_1.slots (T23.setTop (mkF m 35 #[.val (.int p0), .val (.int p1), .unset, .unset, .unset] [(.ref b17), (.ref b17)]))
  refine gs (fun t => XS.bipush X23.here hx rfl (hb hby at_35)) ?_
  show Go p e below s QQ room_1.cells room_1.slots (T23.setTop (mkF m 37 #[.val (.int p0), .val (.int p1), .unset, .unset, .unset] [(.int (6 : Int32)), (.ref b17), (.ref b17)]))
  refine gs (fun t => XS.bipush X23.here hx rfl (hb hby at_37)) ?_
  show Go p e below s QQ room_1.cells room_1.slots (T23.setTop (mkF m 39 #[.val (.int p0), .val (.int p1), .unset, .unset, .unset] [(.int (83 : Int32)), (.int (6 : Int32)), (.ref b17), (.ref b17)]))
  obtain ⟨T24, h24, X24, e24, W24, V24, st24⟩ := stCf X23 hx hZ e23 V_b17 (j := (6 : Int32)) (by decide) (g := (mkF m 39 #[.val (.int p0), .val (.int p1), .unset, .unset, .unset] [(.int (83 : Int32)), (.int (6 : Int32)), (.ref b17), (.ref b17)])) rfl rfl (hb hby at_39)
  replace N0 := Fr.snoc X24 N0 ge_b17
  refine gs st24 ?_
  show Go p e below s QQ room_1.cells room_1.slots (T24.setTop (mkF m 40 #[.val (.int p0), .val (.int p1), .unset, .unset, .unset] [(.ref b17)]))
  replace OLD := OLD.wr W24 ge_b17
  replace ZZ : n0 ≤ h24.size := by rw [W24.size]; exact ZZ
  replace V_b17 : Arf Z h24 b17 .char 20 (updv (updv (updv (updv (updv (updv (updv (fun _ => .int 0) 0 (.int (66 : Int32))) 1 (.int (67 : Int32))) 2 (.int (68 : Int32))) 3 (.int (70 : Int32))) 4 (.int (73 : Int32))) 5 (.int (74 : Int32))) 6 (.int (83 : Int32))) := V24
  refine gs (fun t => XS.dup X24.here hx rfl (hb hby at_40) rfl rfl) ?_
  show Go p e below s QQ room_1.cells room_1.slots (T24.setTop (mkF m 41 #[.val (.int p0), .val (.int p1), .unset, .unset, .unset] [(.ref b17), (.ref b17)]))
  refine gs (fun t => XS.bipush X24.here hx rfl (hb hby at_41)) ?_
  show Go p e below s QQ room_1.cells room_1.slots (T24.setTop (mkF m 43 #[.val (.int p0), .val (.int p1), .unset, .unset, .unset] [(.int (7 : Int32)), (.ref b17), (.ref b17)]))
  refine gs (fun t => XS.bipush X24.here hx rfl (hb hby at_43)) ?_
  show Go p e below s QQ room_1.cells room_1.slots (T24.setTop (mkF m 45 #[.val (.int p0), .val (.int p1), .unset, .unset, .unset] [(.int (90 : Int32)), (.int (7 : Int32)), (.ref b17), (.ref b17)]))
  obtain ⟨T25, h25, X25, e25, W25, V25, st25⟩ := stCf X24 hx hZ e24 V_b17 (j := (7 : Int32)) (by decide) (g := (mkF m 45 #[.val (.int p0), .val (.int p1), .unset, .unset, .unset] [(.int (90 : Int32)), (.int (7 : Int32)), (.ref b17), (.ref b17)])) rfl rfl (hb hby at_45)
  replace N0 := Fr.snoc X25 N0 ge_b17
  refine gs st25 ?_
  show Go p e below s QQ room_1.cells room_1.slots (T25.setTop (mkF m 46 #[.val (.int p0), .val (.int p1), .unset, .unset, .unset] [(.ref b17)]))
  replace OLD := OLD.wr W25 ge_b17
  replace ZZ : n0 ≤ h25.size := by rw [W25.size]; exact ZZ
  replace V_b17 : Arf Z h25 b17 .char 20 (updv (updv (updv (updv (updv (updv (updv (updv (fun _ => .int 0) 0 (.int (66 : Int32))) 1 (.int (67 : Int32))) 2 (.int (68 : Int32))) 3 (.int (70 : Int32))) 4 (.int (73 : Int32))) 5 (.int (74 : Int32))) 6 (.int (83 : Int32))) 7 (.int (90 : Int32))) := V25
  refine gs (fun t => XS.dup X25.here hx rfl (hb hby at_46) rfl rfl) ?_
  show Go p e below s QQ room_1.cells room_1.slots (T25.setTop (mkF m 47 #[.val (.int p0), .val (.int p1), .unset, .unset, .unset] [(.ref b17), (.ref b17)]))
  refine gs (fun t => XS.bipush X25.here hx rfl (hb hby at_47)) ?_
  show Go p e below s QQ room_1.cells room_1.slots (T25.setTop (mkF m 49 #[.val (.int p0), .val (.int p1), .unset, .unset, .unset] [(.int (8 : Int32)), (.ref b17), (.ref b17)]))
  refine gs (fun t => XS.bipush X25.here hx rfl (hb hby at_49)) ?_
  show Go p e below s QQ room_1.cells room_1.slots (T25.setTop (mkF m 51 #[.val (.int p0), .val (.int p1), .unset, .unset, .unset] [(.int (98 : Int32)), (.int (8 : Int32)), (.ref b17), (.ref b17)]))
  obtain ⟨T26, h26, X26, e26, W26, V26, st26⟩ := stCf X25 hx hZ e25 V_b17 (j := (8 : Int32)) (by decide) (g := (mkF m 51 #[.val (.int p0), .val (.int p1), .unset, .unset, .unset] [(.int (98 : Int32)), (.int (8 : Int32)), (.ref b17), (.ref b17)])) rfl rfl (hb hby at_51)
  replace N0 := Fr.snoc X26 N0 ge_b17
  refine gs st26 ?_
  show Go p e below s QQ room_1.cells room_1.slots (T26.setTop (mkF m 52 #[.val (.int p0), .val (.int p1), .unset, .unset, .unset] [(.ref b17)]))
  replace OLD := OLD.wr W26 ge_b17
  replace ZZ : n0 ≤ h26.size := by rw [W26.size]; exact ZZ
  replace V_b17 : Arf Z h26 b17 .char 20 (updv (updv (updv (updv (updv (updv (updv (updv (updv (fun _ => .int 0) 0 (.int (66 : Int32))) 1 (.int (67 : Int32))) 2 (.int (68 : Int32))) 3 (.int (70 : Int32))) 4 (.int (73 : Int32))) 5 (.int (74 : Int32))) 6 (.int (83 : Int32))) 7 (.int (90 : Int32))) 8 (.int (98 : Int32))) := V26
  refine gs (fun t => XS.dup X26.here hx rfl (hb hby at_52) rfl rfl) ?_
  show Go p e below s QQ room_1.cells room_1.slots (T26.setTop (mkF m 53 #[.val (.int p0), .val (.int p1), .unset, .unset, .unset] [(.ref b17), (.ref b17)]))
  refine gs (fun t => XS.bipush X26.here hx rfl (hb hby at_53)) ?_
  show Go p e below s QQ room_1.cells room_1.slots (T26.setTop (mkF m 55 #[.val (.int p0), .val (.int p1), .unset, .unset, .unset] [(.int (9 : Int32)), (.ref b17), (.ref b17)]))
  refine gs (fun t => XS.bipush X26.here hx rfl (hb hby at_55)) ?_
  show Go p e below s QQ room_1.cells room_1.slots (T26.setTop (mkF m 57 #[.val (.int p0), .val (.int p1), .unset, .unset, .unset] [(.int (99 : Int32)), (.int (9 : Int32)), (.ref b17), (.ref b17)]))
  obtain ⟨T27, h27, X27, e27, W27, V27, st27⟩ := stCf X26 hx hZ e26 V_b17 (j := (9 : Int32)) (by decide) (g := (mkF m 57 #[.val (.int p0), .val (.int p1), .unset, .unset, .unset] [(.int (99 : Int32)), (.int (9 : Int32)), (.ref b17), (.ref b17)])) rfl rfl (hb hby at_57)
  replace N0 := Fr.snoc X27 N0 ge_b17
  refine gs st27 ?_
  show Go p e below s QQ room_1.cells room_1.slots (T27.setTop (mkF m 58 #[.val (.int p0), .val (.int p1), .unset, .unset, .unset] [(.ref b17)]))
  replace OLD := OLD.wr W27 ge_b17
  replace ZZ : n0 ≤ h27.size := by rw [W27.size]; exact ZZ
  replace V_b17 : Arf Z h27 b17 .char 20 (updv (updv (updv (updv (updv (updv (updv (updv (updv (updv (fun _ => .int 0) 0 (.int (66 : Int32))) 1 (.int (67 : Int32))) 2 (.int (68 : Int32))) 3 (.int (70 : Int32))) 4 (.int (73 : Int32))) 5 (.int (74 : Int32))) 6 (.int (83 : Int32))) 7 (.int (90 : Int32))) 8 (.int (98 : Int32))) 9 (.int (99 : Int32))) := V27
  refine gs (fun t => XS.dup X27.here hx rfl (hb hby at_58) rfl rfl) ?_
  show Go p e below s QQ room_1.cells room_1.slots (T27.setTop (mkF m 59 #[.val (.int p0), .val (.int p1), .unset, .unset, .unset] [(.ref b17), (.ref b17)]))
  refine gs (fun t => XS.bipush X27.here hx rfl (hb hby at_59)) ?_
  show Go p e below s QQ room_1.cells room_1.slots (T27.setTop (mkF m 61 #[.val (.int p0), .val (.int p1), .unset, .unset, .unset] [(.int (10 : Int32)), (.ref b17), (.ref b17)]))
  refine gs (fun t => XS.bipush X27.here hx rfl (hb hby at_61)) ?_
  show Go p e below s QQ room_1.cells room_1.slots (T27.setTop (mkF m 63 #[.val (.int p0), .val (.int p1), .unset, .unset, .unset] [(.int (100 : Int32)), (.int (10 : Int32)), (.ref b17), (.ref b17)]))
  obtain ⟨T28, h28, X28, e28, W28, V28, st28⟩ := stCf X27 hx hZ e27 V_b17 (j := (10 : Int32)) (by decide) (g := (mkF m 63 #[.val (.int p0), .val (.int p1), .unset, .unset, .unset] [(.int (100 : Int32)), (.int (10 : Int32)), (.ref b17), (.ref b17)])) rfl rfl (hb hby at_63)
  replace N0 := Fr.snoc X28 N0 ge_b17
  refine gs st28 ?_
  show Go p e below s QQ room_1.cells room_1.slots (T28.setTop (mkF m 64 #[.val (.int p0), .val (.int p1), .unset, .unset, .unset] [(.ref b17)]))
  replace OLD := OLD.wr W28 ge_b17
  replace ZZ : n0 ≤ h28.size := by rw [W28.size]; exact ZZ
  replace V_b17 : Arf Z h28 b17 .char 20 (updv (updv (updv (updv (updv (updv (updv (updv (updv (updv (updv (fun _ => .int 0) 0 (.int (66 : Int32))) 1 (.int (67 : Int32))) 2 (.int (68 : Int32))) 3 (.int (70 : Int32))) 4 (.int (73 : Int32))) 5 (.int (74 : Int32))) 6 (.int (83 : Int32))) 7 (.int (90 : Int32))) 8 (.int (98 : Int32))) 9 (.int (99 : Int32))) 10 (.int (100 : Int32))) := V28
  refine gs (fun t => XS.dup X28.here hx rfl (hb hby at_64) rfl rfl) ?_
  show Go p e below s QQ room_1.cells room_1.slots (T28.setTop (mkF m 65 #[.val (.int p0), .val (.int p1), .unset, .unset, .unset] [(.ref b17), (.ref b17)]))
  refine gs (fun t => XS.bipush X28.here hx rfl (hb hby at_65)) ?_
  show Go p e below s QQ room_1.cells room_1.slots (T28.setTop (mkF m 67 #[.val (.int p0), .val (.int p1), .unset, .unset, .unset] [(.int (11 : Int32)), (.ref b17), (.ref b17)]))
  refine gs (fun t => XS.bipush X28.here hx rfl (hb hby at_67)) ?_
  show Go p e below s QQ room_1.cells room_1.slots (T28.setTop (mkF m 69 #[.val (.int p0), .val (.int p1), .unset, .unset, .unset] [(.int (102 : Int32)), (.int (11 : Int32)), (.ref b17), (.ref b17)]))
  obtain ⟨T29, h29, X29, e29, W29, V29, st29⟩ := stCf X28 hx hZ e28 V_b17 (j := (11 : Int32)) (by decide) (g := (mkF m 69 #[.val (.int p0), .val (.int p1), .unset, .unset, .unset] [(.int (102 : Int32)), (.int (11 : Int32)), (.ref b17), (.ref b17)])) rfl rfl (hb hby at_69)
  replace N0 := Fr.snoc X29 N0 ge_b17
  refine gs st29 ?_
  show Go p e below s QQ room_1.cells room_1.slots (T29.setTop (mkF m 70 #[.val (.int p0), .val (.int p1), .unset, .unset, .unset] [(.ref b17)]))
  replace OLD := OLD.wr W29 ge_b17
  replace ZZ : n0 ≤ h29.size := by rw [W29.size]; exact ZZ
  replace V_b17 : Arf Z h29 b17 .char 20 (updv (updv (updv (updv (updv (updv (updv (updv (updv (updv (updv (updv (fun _ => .int 0) 0 (.int (66 : Int32))) 1 (.int (67 : Int32))) 2 (.int (68 : Int32))) 3 (.int (70 : Int32))) 4 (.int (73 : Int32))) 5 (.int (74 : Int32))) 6 (.int (83 : Int32))) 7 (.int (90 : Int32))) 8 (.int (98 : Int32))) 9 (.int (99 : Int32))) 10 (.int (100 : Int32))) 11 (.int (102 : Int32))) := V29
  refine gs (fun t => XS.dup X29.here hx rfl (hb hby at_70) rfl rfl) ?_
  show Go p e below s QQ room_1.cells room_1.slots (T29.setTop (mkF m 71 #[.val (.int p0), .val (.int p1), .unset, .unset, .unset] [(.ref b17), (.ref b17)]))
  refine gs (fun t => XS.bipush X29.here hx rfl (hb hby at_71)) ?_
  show Go p e below s QQ room_1.cells room_1.slots (T29.setTop (mkF m 73 #[.val (.int p0), .val (.int p1), .unset, .unset, .unset] [(.int (12 : Int32)), (.ref b17), (.ref b17)]))
  refine gs (fun t => XS.bipush X29.here hx rfl (hb hby at_73)) ?_
  show Go p e below s QQ room_1.cells room_1.slots (T29.setTop (mkF m 75 #[.val (.int p0), .val (.int p1), .unset, .unset, .unset] [(.int (105 : Int32)), (.int (12 : Int32)), (.ref b17), (.ref b17)]))
  obtain ⟨T30, h30, X30, e30, W30, V30, st30⟩ := stCf X29 hx hZ e29 V_b17 (j := (12 : Int32)) (by decide) (g := (mkF m 75 #[.val (.int p0), .val (.int p1), .unset, .unset, .unset] [(.int (105 : Int32)), (.int (12 : Int32)), (.ref b17), (.ref b17)])) rfl rfl (hb hby at_75)
  replace N0 := Fr.snoc X30 N0 ge_b17
  refine gs st30 ?_
  show Go p e below s QQ room_1.cells room_1.slots (T30.setTop (mkF m 76 #[.val (.int p0), .val (.int p1), .unset, .unset, .unset] [(.ref b17)]))
  replace OLD := OLD.wr W30 ge_b17
  replace ZZ : n0 ≤ h30.size := by rw [W30.size]; exact ZZ
  replace V_b17 : Arf Z h30 b17 .char 20 (updv (updv (updv (updv (updv (updv (updv (updv (updv (updv (updv (updv (updv (fun _ => .int 0) 0 (.int (66 : Int32))) 1 (.int (67 : Int32))) 2 (.int (68 : Int32))) 3 (.int (70 : Int32))) 4 (.int (73 : Int32))) 5 (.int (74 : Int32))) 6 (.int (83 : Int32))) 7 (.int (90 : Int32))) 8 (.int (98 : Int32))) 9 (.int (99 : Int32))) 10 (.int (100 : Int32))) 11 (.int (102 : Int32))) 12 (.int (105 : Int32))) := V30
  refine gs (fun t => XS.dup X30.here hx rfl (hb hby at_76) rfl rfl) ?_
  show Go p e below s QQ room_1.cells room_1.slots (T30.setTop (mkF m 77 #[.val (.int p0), .val (.int p1), .unset, .unset, .unset] [(.ref b17), (.ref b17)]))
  refine gs (fun t => XS.bipush X30.here hx rfl (hb hby at_77)) ?_
  show Go p e below s QQ room_1.cells room_1.slots (T30.setTop (mkF m 79 #[.val (.int p0), .val (.int p1), .unset, .unset, .unset] [(.int (13 : Int32)), (.ref b17), (.ref b17)]))
  refine gs (fun t => XS.bipush X30.here hx rfl (hb hby at_79)) ?_
  show Go p e below s QQ room_1.cells room_1.slots (T30.setTop (mkF m 81 #[.val (.int p0), .val (.int p1), .unset, .unset, .unset] [(.int (106 : Int32)), (.int (13 : Int32)), (.ref b17), (.ref b17)]))
  obtain ⟨T31, h31, X31, e31, W31, V31, st31⟩ := stCf X30 hx hZ e30 V_b17 (j := (13 : Int32)) (by decide) (g := (mkF m 81 #[.val (.int p0), .val (.int p1), .unset, .unset, .unset] [(.int (106 : Int32)), (.int (13 : Int32)), (.ref b17), (.ref b17)])) rfl rfl (hb hby at_81)
  replace N0 := Fr.snoc X31 N0 ge_b17
  refine gs st31 ?_
  show Go p e below s QQ room_1.cells room_1.slots (T31.setTop (mkF m 82 #[.val (.int p0), .val (.int p1), .unset, .unset, .unset] [(.ref b17)]))
  replace OLD := OLD.wr W31 ge_b17
  replace ZZ : n0 ≤ h31.size := by rw [W31.size]; exact ZZ
  replace V_b17 : Arf Z h31 b17 .char 20 (updv (updv (updv (updv (updv (updv (updv (updv (updv (updv (updv (updv (updv (updv (fun _ => .int 0) 0 (.int (66 : Int32))) 1 (.int (67 : Int32))) 2 (.int (68 : Int32))) 3 (.int (70 : Int32))) 4 (.int (73 : Int32))) 5 (.int (74 : Int32))) 6 (.int (83 : Int32))) 7 (.int (90 : Int32))) 8 (.int (98 : Int32))) 9 (.int (99 : Int32))) 10 (.int (100 : Int32))) 11 (.int (102 : Int32))) 12 (.int (105 : Int32))) 13 (.int (106 : Int32))) := V31
  refine gs (fun t => XS.dup X31.here hx rfl (hb hby at_82) rfl rfl) ?_
  show Go p e below s QQ room_1.cells room_1.slots (T31.setTop (mkF m 83 #[.val (.int p0), .val (.int p1), .unset, .unset, .unset] [(.ref b17), (.ref b17)]))
  refine gs (fun t => XS.bipush X31.here hx rfl (hb hby at_83)) ?_
  show Go p e below s QQ room_1.cells room_1.slots (T31.setTop (mkF m 85 #[.val (.int p0), .val (.int p1), .unset, .unset, .unset] [(.int (14 : Int32)), (.ref b17), (.ref b17)]))
  refine gs (fun t => XS.bipush X31.here hx rfl (hb hby at_85)) ?_
  show Go p e below s QQ room_1.cells room_1.slots (T31.setTop (mkF m 87 #[.val (.int p0), .val (.int p1), .unset, .unset, .unset] [(.int (115 : Int32)), (.int (14 : Int32)), (.ref b17), (.ref b17)]))
  obtain ⟨T32, h32, X32, e32, W32, V32, st32⟩ := stCf X31 hx hZ e31 V_b17 (j := (14 : Int32)) (by decide) (g := (mkF m 87 #[.val (.int p0), .val (.int p1), .unset, .unset, .unset] [(.int (115 : Int32)), (.int (14 : Int32)), (.ref b17), (.ref b17)])) rfl rfl (hb hby at_87)
  replace N0 := Fr.snoc X32 N0 ge_b17
  refine gs st32 ?_
  show Go p e below s QQ room_1.cells room_1.slots (T32.setTop (mkF m 88 #[.val (.int p0), .val (.int p1), .unset, .unset, .unset] [(.ref b17)]))
  replace OLD := OLD.wr W32 ge_b17
  replace ZZ : n0 ≤ h32.size := by rw [W32.size]; exact ZZ
  replace V_b17 : Arf Z h32 b17 .char 20 (updv (updv (updv (updv (updv (updv (updv (updv (updv (updv (updv (updv (updv (updv (updv (fun _ => .int 0) 0 (.int (66 : Int32))) 1 (.int (67 : Int32))) 2 (.int (68 : Int32))) 3 (.int (70 : Int32))) 4 (.int (73 : Int32))) 5 (.int (74 : Int32))) 6 (.int (83 : Int32))) 7 (.int (90 : Int32))) 8 (.int (98 : Int32))) 9 (.int (99 : Int32))) 10 (.int (100 : Int32))) 11 (.int (102 : Int32))) 12 (.int (105 : Int32))) 13 (.int (106 : Int32))) 14 (.int (115 : Int32))) := V32
  refine gs (fun t => XS.dup X32.here hx rfl (hb hby at_88) rfl rfl) ?_
  show Go p e below s QQ room_1.cells room_1.slots (T32.setTop (mkF m 89 #[.val (.int p0), .val (.int p1), .unset, .unset, .unset] [(.ref b17), (.ref b17)]))
  refine gs (fun t => XS.bipush X32.here hx rfl (hb hby at_89)) ?_
  show Go p e below s QQ room_1.cells room_1.slots (T32.setTop (mkF m 91 #[.val (.int p0), .val (.int p1), .unset, .unset, .unset] [(.int (15 : Int32)), (.ref b17), (.ref b17)]))
  refine gs (fun t => XS.bipush X32.here hx rfl (hb hby at_91)) ?_
  show Go p e below s QQ room_1.cells room_1.slots (T32.setTop (mkF m 93 #[.val (.int p0), .val (.int p1), .unset, .unset, .unset] [(.int (122 : Int32)), (.int (15 : Int32)), (.ref b17), (.ref b17)]))
  obtain ⟨T33, h33, X33, e33, W33, V33, st33⟩ := stCf X32 hx hZ e32 V_b17 (j := (15 : Int32)) (by decide) (g := (mkF m 93 #[.val (.int p0), .val (.int p1), .unset, .unset, .unset] [(.int (122 : Int32)), (.int (15 : Int32)), (.ref b17), (.ref b17)])) rfl rfl (hb hby at_93)
  replace N0 := Fr.snoc X33 N0 ge_b17
  refine gs st33 ?_
  show Go p e below s QQ room_1.cells room_1.slots (T33.setTop (mkF m 94 #[.val (.int p0), .val (.int p1), .unset, .unset, .unset] [(.ref b17)]))
  replace OLD := OLD.wr W33 ge_b17
  replace ZZ : n0 ≤ h33.size := by rw [W33.size]; exact ZZ
  replace V_b17 : Arf Z h33 b17 .char 20 (updv (updv (updv (updv (updv (updv (updv (updv (updv (updv (updv (updv (updv (updv (updv (updv (fun _ => .int 0) 0 (.int (66 : Int32))) 1 (.int (67 : Int32))) 2 (.int (68 : Int32))) 3 (.int (70 : Int32))) 4 (.int (73 : Int32))) 5 (.int (74 : Int32))) 6 (.int (83 : Int32))) 7 (.int (90 : Int32))) 8 (.int (98 : Int32))) 9 (.int (99 : Int32))) 10 (.int (100 : Int32))) 11 (.int (102 : Int32))) 12 (.int (105 : Int32))) 13 (.int (106 : Int32))) 14 (.int (115 : Int32))) 15 (.int (122 : Int32))) := V33
  refine gs (fun t => XS.dup X33.here hx rfl (hb hby at_94) rfl rfl) ?_
  show Go p e below s QQ room_1.cells room_1.slots (T33.setTop (mkF m 95 #[.val (.int p0), .val (.int p1), .unset, .unset, .unset] [(.ref b17), (.ref b17)]))
  refine gs (fun t => XS.bipush X33.here hx rfl (hb hby at_95)) ?_
  show Go p e below s QQ room_1.cells room_1.slots (T33.setTop (mkF m 97 #[.val (.int p0), .val (.int p1), .unset, .unset, .unset] [(.int (16 : Int32)), (.ref b17), (.ref b17)]))
  refine gs (fun t => XS.bipush X33.here hx rfl (hb hby at_97)) ?_
  show Go p e below s QQ room_1.cells room_1.slots (T33.setTop (mkF m 99 #[.val (.int p0), .val (.int p1), .unset, .unset, .unset] [(.int (76 : Int32)), (.int (16 : Int32)), (.ref b17), (.ref b17)]))
  obtain ⟨T34, h34, X34, e34, W34, V34, st34⟩ := stCf X33 hx hZ e33 V_b17 (j := (16 : Int32)) (by decide) (g := (mkF m 99 #[.val (.int p0), .val (.int p1), .unset, .unset, .unset] [(.int (76 : Int32)), (.int (16 : Int32)), (.ref b17), (.ref b17)])) rfl rfl (hb hby at_99)
  replace N0 := Fr.snoc X34 N0 ge_b17
  refine gs st34 ?_
  show Go p e below s QQ room_1.cells room_1.slots (T34.setTop (mkF m 100 #[.val (.int p0), .val (.int p1), .unset, .unset, .unset] [(.ref b17)]))
  replace OLD := OLD.wr W34 ge_b17
  replace ZZ : n0 ≤ h34.size := by rw [W34.size]; exact ZZ
  replace V_b17 : Arf Z h34 b17 .char 20 (updv (updv (updv (updv (updv (updv (updv (updv (updv (updv (updv (updv (updv (updv (updv (updv (updv (fun _ => .int 0) 0 (.int (66 : Int32))) 1 (.int (67 : Int32))) 2 (.int (68 : Int32))) 3 (.int (70 : Int32))) 4 (.int (73 : Int32))) 5 (.int (74 : Int32))) 6 (.int (83 : Int32))) 7 (.int (90 : Int32))) 8 (.int (98 : Int32))) 9 (.int (99 : Int32))) 10 (.int (100 : Int32))) 11 (.int (102 : Int32))) 12 (.int (105 : Int32))) 13 (.int (106 : Int32))) 14 (.int (115 : Int32))) 15 (.int (122 : Int32))) 16 (.int (76 : Int32))) := V34
  refine gs (fun t => XS.dup X34.here hx rfl (hb hby at_100) rfl rfl) ?_
  show Go p e below s QQ room_1.cells room_1.slots (T34.setTop (mkF m 101 #[.val (.int p0), .val (.int p1), .unset, .unset, .unset] [(.ref b17), (.ref b17)]))
  refine gs (fun t => XS.bipush X34.here hx rfl (hb hby at_101)) ?_
  show Go p e below s QQ room_1.cells room_1.slots (T34.setTop (mkF m 103 #[.val (.int p0), .val (.int p1), .unset, .unset, .unset] [(.int (17 : Int32)), (.ref b17), (.ref b17)]))
  refine gs (fun t => XS.bipush X34.here hx rfl (hb hby at_103)) ?_
  show Go p e below s QQ room_1.cells room_1.slots (T34.setTop (mkF m 105 #[.val (.int p0), .val (.int p1), .unset, .unset, .unset] [(.int (86 : Int32)), (.int (17 : Int32)), (.ref b17), (.ref b17)]))
  obtain ⟨T35, h35, X35, e35, W35, V35, st35⟩ := stCf X34 hx hZ e34 V_b17 (j := (17 : Int32)) (by decide) (g := (mkF m 105 #[.val (.int p0), .val (.int p1), .unset, .unset, .unset] [(.int (86 : Int32)), (.int (17 : Int32)), (.ref b17), (.ref b17)])) rfl rfl (hb hby at_105)
  replace N0 := Fr.snoc X35 N0 ge_b17
  refine gs st35 ?_
  show Go p e below s QQ room_1.cells room_1.slots (T35.setTop (mkF m 106 #[.val (.int p0), .val (.int p1), .unset, .unset, .unset] [(.ref b17)]))
  replace OLD := OLD.wr W35 ge_b17
  replace ZZ : n0 ≤ h35.size := by rw [W35.size]; exact ZZ
  replace V_b17 : Arf Z h35 b17 .char 20 (updv (updv (updv (updv (updv (updv (updv (updv (updv (updv (updv (updv (updv (updv (updv (updv (updv (updv (fun _ => .int 0) 0 (.int (66 : Int32))) 1 (.int (67 : Int32))) 2 (.int (68 : Int32))) 3 (.int (70 : Int32))) 4 (.int (73 : Int32))) 5 (.int (74 : Int32))) 6 (.int (83 : Int32))) 7 (.int (90 : Int32))) 8 (.int (98 : Int32))) 9 (.int (99 : Int32))) 10 (.int (100 : Int32))) 11 (.int (102 : Int32))) 12 (.int (105 : Int32))) 13 (.int (106 : Int32))) 14 (.int (115 : Int32))) 15 (.int (122 : Int32))) 16 (.int (76 : Int32))) 17 (.int (86 : Int32))) := V35
  refine gs (fun t => XS.dup X35.here hx rfl (hb hby at_106) rfl rfl) ?_
  show Go p e below s QQ room_1.cells room_1.slots (T35.setTop (mkF m 107 #[.val (.int p0), .val (.int p1), .unset, .unset, .unset] [(.ref b17), (.ref b17)]))
  refine gs (fun t => XS.bipush X35.here hx rfl (hb hby at_107)) ?_
  show Go p e below s QQ room_1.cells room_1.slots (T35.setTop (mkF m 109 #[.val (.int p0), .val (.int p1), .unset, .unset, .unset] [(.int (18 : Int32)), (.ref b17), (.ref b17)]))
  refine gs (fun t => XS.bipush X35.here hx rfl (hb hby at_109)) ?_
  show Go p e below s QQ room_1.cells room_1.slots (T35.setTop (mkF m 111 #[.val (.int p0), .val (.int p1), .unset, .unset, .unset] [(.int (91 : Int32)), (.int (18 : Int32)), (.ref b17), (.ref b17)]))
  obtain ⟨T36, h36, X36, e36, W36, V36, st36⟩ := stCf X35 hx hZ e35 V_b17 (j := (18 : Int32)) (by decide) (g := (mkF m 111 #[.val (.int p0), .val (.int p1), .unset, .unset, .unset] [(.int (91 : Int32)), (.int (18 : Int32)), (.ref b17), (.ref b17)])) rfl rfl (hb hby at_111)
  replace N0 := Fr.snoc X36 N0 ge_b17
  refine gs st36 ?_
  show Go p e below s QQ room_1.cells room_1.slots (T36.setTop (mkF m 112 #[.val (.int p0), .val (.int p1), .unset, .unset, .unset] [(.ref b17)]))
  replace OLD := OLD.wr W36 ge_b17
  replace ZZ : n0 ≤ h36.size := by rw [W36.size]; exact ZZ
  replace V_b17 : Arf Z h36 b17 .char 20 (updv (updv (updv (updv (updv (updv (updv (updv (updv (updv (updv (updv (updv (updv (updv (updv (updv (updv (updv (fun _ => .int 0) 0 (.int (66 : Int32))) 1 (.int (67 : Int32))) 2 (.int (68 : Int32))) 3 (.int (70 : Int32))) 4 (.int (73 : Int32))) 5 (.int (74 : Int32))) 6 (.int (83 : Int32))) 7 (.int (90 : Int32))) 8 (.int (98 : Int32))) 9 (.int (99 : Int32))) 10 (.int (100 : Int32))) 11 (.int (102 : Int32))) 12 (.int (105 : Int32))) 13 (.int (106 : Int32))) 14 (.int (115 : Int32))) 15 (.int (122 : Int32))) 16 (.int (76 : Int32))) 17 (.int (86 : Int32))) 18 (.int (91 : Int32))) := V36
  refine gs (fun t => XS.dup X36.here hx rfl (hb hby at_112) rfl rfl) ?_
  show Go p e below s QQ room_1.cells room_1.slots (T36.setTop (mkF m 113 #[.val (.int p0), .val (.int p1), .unset, .unset, .unset] [(.ref b17), (.ref b17)]))
  refine gs (fun t => XS.bipush X36.here hx rfl (hb hby at_113)) ?_
  show Go p e below s QQ room_1.cells room_1.slots (T36.setTop (mkF m 115 #[.val (.int p0), .val (.int p1), .unset, .unset, .unset] [(.int (19 : Int32)), (.ref b17), (.ref b17)]))
  refine gs (fun t => XS.bipush X36.here hx rfl (hb hby at_115)) ?_
  show Go p e below s QQ room_1.cells room_1.slots (T36.setTop (mkF m 117 #[.val (.int p0), .val (.int p1), .unset, .unset, .unset] [(.int (65 : Int32)), (.int (19 : Int32)), (.ref b17), (.ref b17)]))
  obtain ⟨T37, h37, X37, e37, W37, V37, st37⟩ := stCf X36 hx hZ e36 V_b17 (j := (19 : Int32)) (by decide) (g := (mkF m 117 #[.val (.int p0), .val (.int p1), .unset, .unset, .unset] [(.int (65 : Int32)), (.int (19 : Int32)), (.ref b17), (.ref b17)])) rfl rfl (hb hby at_117)
  replace N0 := Fr.snoc X37 N0 ge_b17
  refine gs st37 ?_
  show Go p e below s QQ room_1.cells room_1.slots (T37.setTop (mkF m 118 #[.val (.int p0), .val (.int p1), .unset, .unset, .unset] [(.ref b17)]))
  replace OLD := OLD.wr W37 ge_b17
  replace ZZ : n0 ≤ h37.size := by rw [W37.size]; exact ZZ
  replace V_b17 : Arf Z h37 b17 .char 20 (updv (updv (updv (updv (updv (updv (updv (updv (updv (updv (updv (updv (updv (updv (updv (updv (updv (updv (updv (updv (fun _ => .int 0) 0 (.int (66 : Int32))) 1 (.int (67 : Int32))) 2 (.int (68 : Int32))) 3 (.int (70 : Int32))) 4 (.int (73 : Int32))) 5 (.int (74 : Int32))) 6 (.int (83 : Int32))) 7 (.int (90 : Int32))) 8 (.int (98 : Int32))) 9 (.int (99 : Int32))) 10 (.int (100 : Int32))) 11 (.int (102 : Int32))) 12 (.int (105 : Int32))) 13 (.int (106 : Int32))) 14 (.int (115 : Int32))) 15 (.int (122 : Int32))) 16 (.int (76 : Int32))) 17 (.int (86 : Int32))) 18 (.int (91 : Int32))) 19 (.int (65 : Int32))) := V37
  replace V_b17 : Arf Z h37 b17 .char 20 (fun i => .int (own_tab i)) := V_b17.congr (fun i hi => by rcases own_20 hi with rfl | rfl | rfl | rfl | rfl | rfl | rfl | rfl | rfl | rfl | rfl | rfl | rfl | rfl | rfl | rfl | rfl | rfl | rfl | rfl <;> rfl)
  refine gs (fun t => XS.astoreN X37.here hx rfl (hb hby at_118) rfl rfl (l' := #[.val (.int p0), .val (.int p1), .val (.ref b17), .unset, .unset]) rfl) ?_
  show Go p e below s QQ room_1.cells room_1.slots (T37.setTop (mkF m 119 #[.val (.int p0), .val (.int p1), .val (.ref b17), .unset, .unset] []))
  refine gs (fun t => XS.iloadN X37.here hx rfl (hb hby at_119) rfl) ?_
  show Go p e below s QQ room_1.cells room_1.slots (T37.setTop (mkF m 120 #[.val (.int p0), .val (.int p1), .val (.ref b17), .unset, .unset] [(.int p1)]))
  refine gs (fun t => XS.iconst X37.here hx rfl (hb hby at_120)) ?_
  show Go p e below s QQ room_1.cells room_1.slots (T37.setTop (mkF m 121 #[.val (.int p0), .val (.int p1), .val (.ref b17), .unset, .unset] [(.int (1 : Int32)), (.int p1)]))
  refine gs (fun t => XS.iand X37.here hx rfl (hb hby at_121) rfl) ?_
  show Go p e below s QQ room_1.cells room_1.slots (T37.setTop (mkF m 122 #[.val (.int p0), .val (.int p1), .val (.ref b17), .unset, .unset] [(.int (p1 &&& (1 : Int32)))]))
  have key : ∀ (cc : Int32), Go p e below s QQ room_1.cells room_1.slots (T37.setTop (mkF m 143 #[.val (.int p0), .val (.int p1), .val (.ref b17), .val (.int cc), .unset] [])) := by
    intro cc
    refine gs (fun t => XS.iloadN X37.here hx rfl (hb hby at_143) rfl) ?_
    show Go p e below s QQ room_1.cells room_1.slots (T37.setTop (mkF m 144 #[.val (.int p0), .val (.int p1), .val (.ref b17), .val (.int cc), .unset] [(.int cc)]))
    obtain ⟨_, _, ⟨T39, L39, k39, n39⟩, -, X39, ⟨Lc39, hQ39, l39, y39, z39⟩, st39⟩ := Jvm.LawKit.callS X37 hx (y := (⟨"com/example/roastery/roastery/model/ConstantKind", "ofPrimitiveType", "(C)Lcom/example/roastery/roastery/model/ConstantKind;"⟩ : MethodName)) hown (mvT hZ (hw _ (List.mem_of_getElem? (i := 1) rfl))) (mvT hZ (hw _ (List.mem_of_getElem? (i := 2) rfl))) (mvT hZ (hw _ (List.mem_of_getElem? (i := 3) rfl))) (mvT hZ (hw _ (List.mem_of_getElem? (i := 4) rfl))) (by decide) (backOf (W := 0) (rm1 l Z a0 hw [] cc x_INTEGER x_LONG x_FLOAT x_DOUBLE h37 n0 ZZ OLD S_x_INTEGER S_x_LONG S_x_FLOAT S_x_DOUBLE) hZ (hw _ (List.mem_of_getElem? (i := 4) rfl)) (hw _ (List.mem_of_getElem? (i := 3) rfl)) (by decide) (by decide)) (g := (mkF m 144 #[.val (.int p0), .val (.int p1), .val (.ref b17), .val (.int cc), .unset] [(.int cc)])) rfl (by rw [hml]; rfl) (argsL := [(.int cc)]) (rest := []) (lenOf pd_0 rfl) rfl (by show 2 * 0 + _ ≤ _; exact Nat.le_of_eq rfl) (hb hby at_144) (fun _ _ => ⟨rfl, e37, (by decide : 1 + 0 ≤ _), (by decide : 20 + 0 ≤ _)⟩)
    dsimp only [Pt.U, Pt.locs, Pt.cells, Pt.slots] at X39 l39 y39 z39 st39 hQ39
    subst l39 y39 z39
    obtain ⟨rfl, N39q, e39⟩ := hQ39
    replace N0 := Fr.app N0 N39q
    refine gs st39 ?_
    show Go p e below s QQ room_1.cells room_1.slots (T39.setTop (mkF m 147 #[.val (.int p0), .val (.int p1), .val (.ref b17), .val (.int cc), .unset] [(own_kind cc x_INTEGER x_LONG x_FLOAT x_DOUBLE)]))
    refine gs (fun t => XS.astore X39.here hx rfl (hb hby at_147) rfl (own_ref cc _ _ _ _) (l' := #[.val (.int p0), .val (.int p1), .val (.ref b17), .val (.int cc), .val (own_kind cc x_INTEGER x_LONG x_FLOAT x_DOUBLE)]) (XS.store1 rfl (Or.inl rfl) (refCat (own_ref cc _ _ _ _)))) ?_
    show Go p e below s QQ room_1.cells room_1.slots (T39.setTop (mkF m 149 #[.val (.int p0), .val (.int p1), .val (.ref b17), .val (.int cc), .val (own_kind cc x_INTEGER x_LONG x_FLOAT x_DOUBLE)] []))
    refine gs (fun t => XS.aload X39.here hx rfl (hb hby at_149) rfl (own_ref cc _ _ _ _)) ?_
    show Go p e below s QQ room_1.cells room_1.slots (T39.setTop (mkF m 151 #[.val (.int p0), .val (.int p1), .val (.ref b17), .val (.int cc), .val (own_kind cc x_INTEGER x_LONG x_FLOAT x_DOUBLE)] [(own_kind cc x_INTEGER x_LONG x_FLOAT x_DOUBLE)]))
    refine gs (fun t => XS.iloadN X39.here hx rfl (hb hby at_151) rfl) ?_
    show Go p e below s QQ room_1.cells room_1.slots (T39.setTop (mkF m 152 #[.val (.int p0), .val (.int p1), .val (.ref b17), .val (.int cc), .val (own_kind cc x_INTEGER x_LONG x_FLOAT x_DOUBLE)] [(.int cc), (own_kind cc x_INTEGER x_LONG x_FLOAT x_DOUBLE)]))
    obtain ⟨_, _, ⟨T40, L40, k40, n40⟩, -, X40, ⟨Lc40, hQ40, l40, y40, z40⟩, st40⟩ := Jvm.LawKit.callS X39 hx (y := (⟨"com/example/roastery/roastery/model/ConstantKindOfPrimitiveTypePinLaw", "expected", "(C)Lcom/example/roastery/roastery/model/ConstantKind;"⟩ : MethodName)) hown (mvT hZ (hw _ (List.mem_of_getElem? (i := 7) rfl))) (mvT hZ (hw _ (List.mem_of_getElem? (i := 8) rfl))) (mvT hZ (hw _ (List.mem_of_getElem? (i := 9) rfl))) (mvT hZ (hw _ (List.mem_of_getElem? (i := 10) rfl))) (by decide) (backOf (W := 1) (rm2 l Z a0 hw [] cc x_INTEGER x_LONG x_FLOAT x_DOUBLE h37 n0 ZZ OLD S_x_INTEGER S_x_LONG S_x_FLOAT S_x_DOUBLE) hZ (hw _ (List.mem_of_getElem? (i := 10) rfl)) (hw _ (List.mem_of_getElem? (i := 9) rfl)) (by decide) (by decide)) (g := (mkF m 152 #[.val (.int p0), .val (.int p1), .val (.ref b17), .val (.int cc), .val (own_kind cc x_INTEGER x_LONG x_FLOAT x_DOUBLE)] [(.int cc), (own_kind cc x_INTEGER x_LONG x_FLOAT x_DOUBLE)])) rfl (by rw [hml]; rfl) (argsL := [(.int cc)]) (rest := [(own_kind cc x_INTEGER x_LONG x_FLOAT x_DOUBLE)]) (lenOf pd_0 rfl) rfl (by show 2 * 0 + _ ≤ _; simp [refCat (own_ref cc _ _ _ _)]) (hb hby at_152) (fun _ _ => ⟨rfl, e39, (by decide : 1 + 0 ≤ _), (by decide : 20 + 0 ≤ _)⟩)
    dsimp only [Pt.U, Pt.locs, Pt.cells, Pt.slots] at X40 l40 y40 z40 st40 hQ40
    subst l40 y40 z40
    obtain ⟨rfl, N40q, e40⟩ := hQ40
    replace N0 := Fr.app N0 N40q
    refine gs st40 ?_
    show Go p e below s QQ room_1.cells room_1.slots (T40.setTop (mkF m 155 #[.val (.int p0), .val (.int p1), .val (.ref b17), .val (.int cc), .val (own_kind cc x_INTEGER x_LONG x_FLOAT x_DOUBLE)] [(own_kind cc x_INTEGER x_LONG x_FLOAT x_DOUBLE), (own_kind cc x_INTEGER x_LONG x_FLOAT x_DOUBLE)]))
    refine gs (fun t => Jvm.RoadKit.acmp (g := (mkF m 155 #[.val (.int p0), .val (.int p1), .val (.ref b17), .val (.int cc), .val (own_kind cc x_INTEGER x_LONG x_FLOAT x_DOUBLE)] [(own_kind cc x_INTEGER x_LONG x_FLOAT x_DOUBLE), (own_kind cc x_INTEGER x_LONG x_FLOAT x_DOUBLE)])) X40 hx rfl (own_ref cc _ _ _ _) (own_ref cc _ _ _ _) (pc0 := 155) (pc' := 158) (same := true) rfl (hb hby at_155) rfl (decide_eq_true rfl) (by decide) (by decide)) ?_
    show Go p e below s QQ room_1.cells room_1.slots (T40.setTop (mkF m 158 #[.val (.int p0), .val (.int p1), .val (.ref b17), .val (.int cc), .val (own_kind cc x_INTEGER x_LONG x_FLOAT x_DOUBLE)] []))
    refine gs (fun t => XS.iconst X40.here hx rfl (hb hby at_158)) ?_
    show Go p e below s QQ room_1.cells room_1.slots (T40.setTop (mkF m 159 #[.val (.int p0), .val (.int p1), .val (.ref b17), .val (.int cc), .val (own_kind cc x_INTEGER x_LONG x_FLOAT x_DOUBLE)] [(.int (1 : Int32))]))
    refine gs (fun t => XS.goto X40.here hx rfl (pc0 := 159) (pc' := 163) rfl (hb hby at_159) (by decide) (by decide)) ?_
    show Go p e below s QQ room_1.cells room_1.slots (T40.setTop (mkF m 163 #[.val (.int p0), .val (.int p1), .val (.ref b17), .val (.int cc), .val (own_kind cc x_INTEGER x_LONG x_FLOAT x_DOUBLE)] [(.int (1 : Int32))]))
    exact goB X40 hx Bd.notSynchronized Bd.returns (by simp) (w := (1 : Int32)) (by first | rfl | decide) (hb hby at_163) (by rw [← hQQ, e40]; exact ⟨rfl, N0⟩) (by decide) (by decide)
  by_cases hbit : (p1 &&& (1 : Int32)) = (0 : Int32)
  · skip
    refine gs (fun t => XS.ifYes X37.here hx rfl (pc0 := 122) (pc' := 137) rfl (hb hby at_122) rfl ((if0 _ _).trans (teq hbit).1) (by decide) (by decide)) ?_
    show Go p e below s QQ room_1.cells room_1.slots (T37.setTop (mkF m 137 #[.val (.int p0), .val (.int p1), .val (.ref b17), .unset, .unset] []))
    refine gs (fun t => XS.iloadN X37.here hx rfl (hb hby at_137) rfl) ?_
    show Go p e below s QQ room_1.cells room_1.slots (T37.setTop (mkF m 138 #[.val (.int p0), .val (.int p1), .val (.ref b17), .unset, .unset] [(.int p0)]))
    refine gs (fun t => X37.ldcInt hx hown (mvT hZ (hw _ (List.mem_of_getElem? (i := 15) rfl))) (g := (mkF m 138 #[.val (.int p0), .val (.int p1), .val (.ref b17), .unset, .unset] [(.int p0)])) rfl (hb hby at_138) t) ?_
    show Go p e below s QQ room_1.cells room_1.slots (T37.setTop (mkF m 140 #[.val (.int p0), .val (.int p1), .val (.ref b17), .unset, .unset] [(.int (65535 : Int32)), (.int p0)]))
    refine gs (fun t => XS.iand X37.here hx rfl (hb hby at_140) rfl) ?_
    show Go p e below s QQ room_1.cells room_1.slots (T37.setTop (mkF m 141 #[.val (.int p0), .val (.int p1), .val (.ref b17), .unset, .unset] [(.int (p0 &&& (65535 : Int32)))]))
    refine gs (fun t => XS.i2c X37.here hx rfl (hb hby at_141) rfl) ?_
    show Go p e below s QQ room_1.cells room_1.slots (T37.setTop (mkF m 142 #[.val (.int p0), .val (.int p1), .val (.ref b17), .unset, .unset] [(.int ((p0 &&& (65535 : Int32)).toUInt32.toUInt16.toUInt32.toInt32))]))
    refine gs (fun t => XS.istoreN X37.here hx rfl (hb hby at_142) rfl (l' := #[.val (.int p0), .val (.int p1), .val (.ref b17), .val (.int ((p0 &&& (65535 : Int32)).toUInt32.toUInt16.toUInt32.toInt32)), .unset]) rfl) ?_
    show Go p e below s QQ room_1.cells room_1.slots (T37.setTop (mkF m 143 #[.val (.int p0), .val (.int p1), .val (.ref b17), .val (.int ((p0 &&& (65535 : Int32)).toUInt32.toUInt16.toUInt32.toInt32)), .unset] []))
    exact key _
  · skip
    refine gs (fun t => XS.ifNo X37.here hx rfl (hb hby at_122) rfl ((if0 _ _).trans (feq hbit).1)) ?_
    show Go p e below s QQ room_1.cells room_1.slots (T37.setTop (mkF m 125 #[.val (.int p0), .val (.int p1), .val (.ref b17), .unset, .unset] []))
    refine gs (fun t => XS.aloadN X37.here hx rfl (hb hby at_125) rfl rfl) ?_
    show Go p e below s QQ room_1.cells room_1.slots (T37.setTop (mkF m 126 #[.val (.int p0), .val (.int p1), .val (.ref b17), .unset, .unset] [(.ref b17)]))
    refine gs (fun t => XS.iloadN X37.here hx rfl (hb hby at_126) rfl) ?_
    show Go p e below s QQ room_1.cells room_1.slots (T37.setTop (mkF m 127 #[.val (.int p0), .val (.int p1), .val (.ref b17), .unset, .unset] [(.int p1), (.ref b17)]))
    refine gs (fun t => XS.iconst X37.here hx rfl (hb hby at_127)) ?_
    show Go p e below s QQ room_1.cells room_1.slots (T37.setTop (mkF m 128 #[.val (.int p0), .val (.int p1), .val (.ref b17), .unset, .unset] [(.int (1 : Int32)), (.int p1), (.ref b17)]))
    refine gs (fun t => XS.iushr X37.here hx rfl (hb hby at_128) rfl) ?_
    show Go p e below s QQ room_1.cells room_1.slots (T37.setTop (mkF m 129 #[.val (.int p0), .val (.int p1), .val (.ref b17), .unset, .unset] [(.int ((p1.toUInt32 >>> ((1 : Int32) &&& 31).toUInt32).toInt32)), (.ref b17)]))
    refine gs (fun t => XS.aloadN X37.here hx rfl (hb hby at_129) rfl rfl) ?_
    show Go p e below s QQ room_1.cells room_1.slots (T37.setTop (mkF m 130 #[.val (.int p0), .val (.int p1), .val (.ref b17), .unset, .unset] [(.ref b17), (.int ((p1.toUInt32 >>> ((1 : Int32) &&& 31).toUInt32).toInt32)), (.ref b17)]))
    refine gs (fun t => lenf X37 hx hZ e37 V_b17 (z := (20 : Int32)) rfl (g := (mkF m 130 #[.val (.int p0), .val (.int p1), .val (.ref b17), .unset, .unset] [(.ref b17), (.int ((p1.toUInt32 >>> ((1 : Int32) &&& 31).toUInt32).toInt32)), (.ref b17)])) rfl rfl (hb hby at_130) t) ?_
    show Go p e below s QQ room_1.cells room_1.slots (T37.setTop (mkF m 131 #[.val (.int p0), .val (.int p1), .val (.ref b17), .unset, .unset] [(.int (20 : Int32)), (.int ((p1.toUInt32 >>> ((1 : Int32) &&& 31).toUInt32).toInt32)), (.ref b17)]))
    refine gs (fun t => iremM X37 hx (g := (mkF m 131 #[.val (.int p0), .val (.int p1), .val (.ref b17), .unset, .unset] [(.int (20 : Int32)), (.int ((p1.toUInt32 >>> ((1 : Int32) &&& 31).toUInt32).toInt32)), (.ref b17)])) rfl (hb hby at_131) rfl (by decide)) ?_
    show Go p e below s QQ room_1.cells room_1.slots (T37.setTop (mkF m 132 #[.val (.int p0), .val (.int p1), .val (.ref b17), .unset, .unset] [(.int (((p1.toUInt32 >>> ((1 : Int32) &&& 31).toUInt32).toInt32) % (20 : Int32))), (.ref b17)]))
    generalize hj : (((p1.toUInt32 >>> ((1 : Int32) &&& 31).toUInt32).toInt32) % (20 : Int32)) = j
    show Go p e below s QQ room_1.cells room_1.slots (T37.setTop (mkF m 132 #[.val (.int p0), .val (.int p1), .val (.ref b17), .unset, .unset] [(.int j), (.ref b17)]))
    have hj2 := own_j p1 hj
    refine gs (fun t => ldCf X37 hx hZ e37 V_b17 (j := j) (v := (.int (own_tab j.toNatClampNeg))) hj2 rfl (g := (mkF m 132 #[.val (.int p0), .val (.int p1), .val (.ref b17), .unset, .unset] [(.int j), (.ref b17)])) rfl rfl (hb hby at_132) t) ?_
    show Go p e below s QQ room_1.cells room_1.slots (T37.setTop (mkF m 133 #[.val (.int p0), .val (.int p1), .val (.ref b17), .unset, .unset] [(.int (own_tab j.toNatClampNeg))]))
    refine gs (fun t => XS.istoreN X37.here hx rfl (hb hby at_133) rfl (l' := #[.val (.int p0), .val (.int p1), .val (.ref b17), .val (.int (own_tab j.toNatClampNeg)), .unset]) rfl) ?_
    show Go p e below s QQ room_1.cells room_1.slots (T37.setTop (mkF m 134 #[.val (.int p0), .val (.int p1), .val (.ref b17), .val (.int (own_tab j.toNatClampNeg)), .unset] []))
    refine gs (fun t => XS.goto X37.here hx rfl (pc0 := 134) (pc' := 143) rfl (hb hby at_134) (by decide) (by decide)) ?_
    show Go p e below s QQ room_1.cells room_1.slots (T37.setTop (mkF m 143 #[.val (.int p0), .val (.int p1), .val (.ref b17), .val (.int (own_tab j.toNatClampNeg)), .unset] []))
    exact key _
set_option maxRecDepth 65536 in
set_option maxHeartbeats 40000000 in
theorem comes_1 {Post : Tables → Env → Array Value → State → Outcome → State → Prop} (hpost : ∀ tb e args s v u, (limb_1_1.after args s (.returned v) u = true ∧ limb_1_2.after args s (.returned v) u = true ∧ True) → FrameEnd s (.returned v) u (Jvm.fieldLocs frame_1_writes args s ++ Jvm.arrayLocs frame_1_arrays args s ++ Jvm.staticLocs frame_1_statics s) 16 128 → Post tb e args s (.returned v) u) :
    ArmFor flags0 classFile x code maxLocals ret World_1 tables_1 room_1 Calls_1 rest_1 Pre_1 Post := by
  intro l hfl _ _ p e ha hc hk s m args below hf hA hF happ hP
  obtain ⟨hcalls, hrest, hpre⟩ := hP
  obtain ⟨-, -, -, hnamed, -, -, -, hat⟩ := (Spec.applies_iff hf).mp happ
  obtain ⟨hg, hn⟩ := and_e (Cond.before_iff.mp (show (Jvm.Cond.and given_1 narrow_1).before args s = true from hpre))
  obtain ⟨gc, hg0⟩ := and_e hg
  obtain ⟨w0, w1, rfl⟩ : ∃ w0 w1 : Value, args = #[w0, w1] := by
    have hs : args.size = 2 := by simpa [Cond.value, given_1] using gc
    obtain ⟨L⟩ := args
    match L, hs with
    | [w0, w1], _ => exact ⟨w0, w1, rfl⟩
  obtain ⟨ga0, hg1⟩ := and_e hg0
  obtain ⟨i0, ei0⟩ := is_v ga0
  obtain rfl : w0 = (.int i0) := Option.some.inj ei0
  obtain ⟨i1, ei1⟩ := is_v hg1
  obtain rfl : w1 = (.int i1) := Option.some.inj ei1
  have hw := fun d (hd : d ∈ tables_1) => atoms_spec (ws := Jvm.Cond.code x code maxLocals ret :: tables_1) hat d (List.mem_cons_of_mem _ hd)
  have hfit : Fit s := fun {y c} hc i hi => by
    obtain ⟨ha, rfl⟩ := Array.getElem?_eq_some_iff.mp hc
    have q := List.all_eq_true.mp ((Array.all_eq_true_iff_forall_mem.mp hF) _ (Array.getElem_mem ha)) i (List.mem_range.mpr hi)
    simpa [Array.getElem?_eq_getElem hi] using q
  obtain ⟨na1, nb1⟩ := and_e hn
  obtain ⟨na2, nb2⟩ := and_e nb1
  obtain ⟨na3, nb3⟩ := and_e nb2
  obtain ⟨x_INTEGER, ev_x_INTEGER⟩ := exa_v na1
  have S_x_INTEGER := Sta.start ev_x_INTEGER (Or.inr ⟨(hw _ (List.mem_of_getElem? (i := 3) rfl)), (hw _ (List.mem_of_getElem? (i := 6) rfl))⟩)
  have E_x_INTEGER := Exa.start ev_x_INTEGER na1
  obtain ⟨x_LONG, ev_x_LONG⟩ := exa_v na2
  have S_x_LONG := Sta.start ev_x_LONG (Or.inr ⟨(hw _ (List.mem_of_getElem? (i := 3) rfl)), (hw _ (List.mem_of_getElem? (i := 13) rfl))⟩)
  have E_x_LONG := Exa.start ev_x_LONG na2
  obtain ⟨x_FLOAT, ev_x_FLOAT⟩ := exa_v na3
  have S_x_FLOAT := Sta.start ev_x_FLOAT (Or.inr ⟨(hw _ (List.mem_of_getElem? (i := 3) rfl)), (hw _ (List.mem_of_getElem? (i := 17) rfl))⟩)
  have E_x_FLOAT := Exa.start ev_x_FLOAT na3
  obtain ⟨x_DOUBLE, ev_x_DOUBLE⟩ := exa_v nb3
  have S_x_DOUBLE := Sta.start ev_x_DOUBLE (Or.inr ⟨(hw _ (List.mem_of_getElem? (i := 3) rfl)), (hw _ (List.mem_of_getElem? (i := 20) rfl))⟩)
  have E_x_DOUBLE := Exa.start ev_x_DOUBLE nb3
  obtain ⟨n, o, h1, h2, h3, _, L, rfl, ⟨rfl, N⟩, hq⟩ := rm0 l s _ hw tables_1 i0 i1 x_INTEGER x_LONG x_FLOAT x_DOUBLE s.heap s.heap.size (Nat.le_refl _) (Old.start s) S_x_INTEGER S_x_LONG S_x_FLOAT S_x_DOUBLE p e ha hc hk s m _ below hf ((Spec.applies_iff_loose hf).mp happ).1 ⟨rfl, State.Warmed39.refl s, rfl⟩ trivial
  refine ⟨n, _, h1, h2, h3, hpost _ _ _ _ _ _ ⟨Cond.after_iff.mpr rfl, Cond.after_iff.mpr (eq_i res_at (Term.int_eval (1)) rfl), trivial⟩ ⟨hq.1, hq.2.1, (hq.2.2.sift fun y hy => Or.inr (N y hy)).mono (by decide) (by decide)⟩⟩
theorem main_1_1 : Claimed_1_1 := comes_1 fun _ _ _ _ _ _ h hF => ⟨h.1, hF⟩
theorem main_1_2 : Claimed_1_2 := comes_1 fun _ _ _ _ _ _ h hF => ⟨h.2.1, hF⟩
end Jvm.Pilot.@@N@@
namespace Jvm.Pilot.@@N@@
open Jvm Jvm.ClassFile Sem Op Lib Jvm.Free Jvm.Stand Jvm.Pilot.@@N@@.Jvm.D
/-! MADE BY PROGRAM (witnessworld.py) out of the Statement's table words and the real class files: 14 classes; the members and pool entries that the words name. The judged class is class 1, her method 2. -/
namespace start1
open Jvm.ClassFile
def u (s : String) : CpInfo := .utf8 (stringToUtf16 s)
/-- a pool by its gaps: so many unusable entries, then the entry; so many at the end -/
def gap : Nat → List CpInfo → List CpInfo
  | 0, r => r
  | n + 1, r => .unusable :: gap n r
def poolList (es : List (Nat × CpInfo)) (last : Nat) : List CpInfo := es.foldr (fun e r => gap e.1 (e.2 :: r)) (gap last [])
def pool (es : List (Nat × CpInfo)) (last : Nat) : Array CpInfo := ⟨poolList es last⟩
def fileOf (pool : Array CpInfo) (this : Nat) (attrs : Array Attribute := #[]) (ms : Array MethodInfo := #[]) (fl : Nat := 33) (sup : Nat := 0) (ifs : Array Nat := #[]) (fds : Array FieldInfo := #[]) : ClassFile where
  minorVersion := 0
  majorVersion := 65
  constantPool := pool
  accessFlags := fl
  thisClass := this
  superClass := sup
  interfaces := ifs
  fields := fds
  methods := ms
  attributes := attrs
def plain (name : String) (sup : Option ClassId) : Class where
  name := name
  kind := .ordinary
  loader := none
  accessFlags := 33
  super := sup
  interfaces := #[]
  cf := none
  fields := #[]
  methods := #[]
  instanceTypes := #[]
  staticTypes := #[]
  resolved := #[]
  callSites := []
  init := .initialized
  statics := none
  mirror := none

def pool0 : Array CpInfo := pool [(5, u "<init>"), (0, u "()V"), (1, .class_ 10), (1, u "java/lang/Object")] 113

def k0m0 : Method := { name := "<init>", desc := "()V", sig := { parameters := [], returnType := none }, accessFlags := 1, code := none }
/-- java/lang/Object -/
def k0 : Class := { plain "java/lang/Object" none with
  accessFlags := 33
  interfaces := #[]
  cf := some (fileOf pool0 8 #[] #[{ accessFlags := 1, nameIndex := 5, descriptorIndex := 6, attributes := #[] }] 33 0 #[] #[])
  fields := #[]
  methods := #[k0m0]
  instanceTypes := #[]
  staticTypes := #[]
  resolved := Array.replicate 124 none
  statics := none }

def pool1 : Array CpInfo := pool [(2, .class_ 4), (1, u "java/lang/Object"), (0, u "<init>"), (0, u "()V"), (0, .fieldref 8 9), (0, .class_ 10), (0, .nameAndType 11 12), (0, u "com/example/roastery/roastery/model/ConstantKind"), (0, u "INTEGER"), (0, u "Lcom/example/roastery/roastery/model/ConstantKind;"), (0, .fieldref 8 14), (0, .nameAndType 15 12), (0, u "LONG"), (0, .fieldref 8 17), (0, .nameAndType 18 12), (0, u "FLOAT"), (0, .fieldref 8 20), (0, .nameAndType 21 12), (0, u "DOUBLE"), (0, .integer 65535), (0, .methodref 8 24), (0, .nameAndType 25 26), (0, u "ofPrimitiveType"), (0, u "(C)Lcom/example/roastery/roastery/model/ConstantKind;"), (0, .methodref 28 29), (0, .class_ 30), (0, .nameAndType 31 26), (0, u "com/example/roastery/roastery/model/ConstantKindOfPrimitiveTypePinLaw"), (0, u "expected"), (3, u "law"), (0, u "(II)Z")] 4

def k1m0 : Method := { name := "<init>", desc := "()V", sig := { parameters := [], returnType := none }, accessFlags := 1, code := none }
def k1c1 : Code := { maxStack := 2, maxLocals := 1, code := method_2_code, exceptionTable := #[], attributes := #[] }
def k1m1 : Method := { name := "expected", desc := "(C)Lcom/example/roastery/roastery/model/ConstantKind;", sig := { parameters := [.char], returnType := some (.object "com/example/roastery/roastery/model/ConstantKind") }, accessFlags := 10, code := some k1c1 }
def k1c2 : Code := { maxStack := 4, maxLocals := 5, code := code, exceptionTable := #[], attributes := #[] }
def k1m2 : Method := { name := "law", desc := "(II)Z", sig := { parameters := [.int, .int], returnType := some .boolean }, accessFlags := 9, code := some k1c2 }
/-- com/example/roastery/roastery/model/ConstantKindOfPrimitiveTypePinLaw -/
def k1 : Class := { plain "com/example/roastery/roastery/model/ConstantKindOfPrimitiveTypePinLaw" (some 0) with
  accessFlags := 49
  interfaces := #[]
  cf := some (fileOf pool1 28 #[] #[{ accessFlags := 1, nameIndex := 5, descriptorIndex := 6, attributes := #[] }, { accessFlags := 10, nameIndex := 31, descriptorIndex := 26, attributes := #[] }, { accessFlags := 9, nameIndex := 35, descriptorIndex := 36, attributes := #[] }] 49 2 #[] #[])
  fields := #[]
  methods := #[k1m0, k1m1, k1m2]
  instanceTypes := #[]
  staticTypes := #[]
  resolved := Array.replicate 41 none
  statics := none }

def pool2 : Array CpInfo := pool [(1, .class_ 2), (0, u "java/lang/constant/Constable"), (0, .class_ 4), (0, u "java/lang/Object")] 6

/-- java/lang/constant/Constable -/
def k2 : Class := { plain "java/lang/constant/Constable" (some 0) with
  accessFlags := 1537
  interfaces := #[]
  cf := some (fileOf pool2 1 #[] #[] 1537 3 #[] #[])
  fields := #[]
  methods := #[]
  instanceTypes := #[]
  staticTypes := #[]
  resolved := Array.replicate 11 none
  statics := none }

def pool3 : Array CpInfo := pool [(1, .class_ 2), (0, u "java/lang/Comparable"), (0, .class_ 4), (0, u "java/lang/Object")] 7

/-- java/lang/Comparable -/
def k3 : Class := { plain "java/lang/Comparable" (some 0) with
  accessFlags := 1537
  interfaces := #[]
  cf := some (fileOf pool3 1 #[] #[] 1537 3 #[] #[])
  fields := #[]
  methods := #[]
  instanceTypes := #[]
  staticTypes := #[]
  resolved := Array.replicate 12 none
  statics := none }

def pool4 : Array CpInfo := pool [(1, .class_ 2), (0, u "java/io/Serializable"), (0, .class_ 4), (0, u "java/lang/Object")] 2

/-- java/io/Serializable -/
def k4 : Class := { plain "java/io/Serializable" (some 0) with
  accessFlags := 1537
  interfaces := #[]
  cf := some (fileOf pool4 1 #[] #[] 1537 3 #[] #[])
  fields := #[]
  methods := #[]
  instanceTypes := #[]
  staticTypes := #[]
  resolved := Array.replicate 7 none
  statics := none }

def pool5 : Array CpInfo := pool [(2, .class_ 4), (1, u "java/lang/Enum"), (0, u "name"), (0, u "Ljava/lang/String;"), (2, u "ordinal"), (0, u "I"), (1, .class_ 14), (1, u "java/lang/Object"), (4, u "hash"), (86, .class_ 108), (1, u "java/lang/Enum$EnumDesc"), (2, .class_ 112), (0, u "java/lang/constant/Constable"), (0, .class_ 114), (0, u "java/lang/Comparable"), (0, .class_ 116), (0, u "java/io/Serializable")] 87

/-- java/lang/Enum -/
def k5 : Class := { plain "java/lang/Enum" (some 0) with
  accessFlags := 1057
  interfaces := #[2, 3, 4]
  cf := some (fileOf pool5 2 #[.nestMembers #[106]] #[] 1057 12 #[111, 113, 115] #[{ accessFlags := 18, nameIndex := 5, descriptorIndex := 6, attributes := #[] }, { accessFlags := 18, nameIndex := 9, descriptorIndex := 10, attributes := #[] }, { accessFlags := 2, nameIndex := 19, descriptorIndex := 10, attributes := #[] }])
  fields := #[{ name := "name", type := (.object "java/lang/String"), accessFlags := 18, slot := 0, constantValue := 0 }, { name := "ordinal", type := .int, accessFlags := 18, slot := 1, constantValue := 0 }, { name := "hash", type := .int, accessFlags := 2, slot := 2, constantValue := 0 }]
  methods := #[]
  instanceTypes := #[(.object "java/lang/String"), .int, .int]
  staticTypes := #[]
  resolved := Array.replicate 204 none
  statics := none }

def pool6 : Array CpInfo := pool [(1, .class_ 2), (0, u "com/example/roastery/roastery/model/ConstantKind"), (2, u "UTF8"), (0, u "Lcom/example/roastery/roastery/model/ConstantKind;"), (0, .fieldref 1 8), (0, .nameAndType 9 6), (0, u "INTEGER"), (0, .fieldref 1 11), (0, .nameAndType 12 6), (0, u "FLOAT"), (0, .fieldref 1 14), (0, .nameAndType 15 6), (0, u "LONG"), (0, .fieldref 1 17), (0, .nameAndType 18 6), (0, u "DOUBLE"), (2, u "CLASS"), (2, u "STRING"), (2, u "FIELDREF"), (2, u "METHODREF"), (2, u "INTERFACE_METHODREF"), (2, u "NAME_AND_TYPE"), (2, u "METHOD_HANDLE"), (2, u "METHOD_TYPE"), (2, u "DYNAMIC"), (2, u "INVOKE_DYNAMIC"), (2, u "MODULE"), (2, u "PACKAGE"), (2, u "$VALUES"), (0, u "[Lcom/example/roastery/roastery/model/ConstantKind;"), (6, .class_ 67), (1, u "java/lang/Enum"), (8, u "tag"), (0, u "I"), (2, u "jvmsName"), (0, u "Ljava/lang/String;"), (6, u "BY_TAG"), (72, u "ofPrimitiveType"), (0, u "(C)Lcom/example/roastery/roastery/model/ConstantKind;")] 7

def k6c0 : Code := { maxStack := 1, maxLocals := 1, code := prog_86_method_8_code, exceptionTable := #[], attributes := #[] }
def k6m0 : Method := { name := "ofPrimitiveType", desc := "(C)Lcom/example/roastery/roastery/model/ConstantKind;", sig := { parameters := [.char], returnType := some (.object "com/example/roastery/roastery/model/ConstantKind") }, accessFlags := 9, code := some k6c0 }
/-- com/example/roastery/roastery/model/ConstantKind -/
def k6 : Class := { plain "com/example/roastery/roastery/model/ConstantKind" (some 5) with
  accessFlags := 16433
  interfaces := #[]
  cf := some (fileOf pool6 1 #[] #[{ accessFlags := 9, nameIndex := 161, descriptorIndex := 162, attributes := #[] }] 16433 65 #[] #[{ accessFlags := 16409, nameIndex := 5, descriptorIndex := 6, attributes := #[] }, { accessFlags := 16409, nameIndex := 9, descriptorIndex := 6, attributes := #[] }, { accessFlags := 16409, nameIndex := 12, descriptorIndex := 6, attributes := #[] }, { accessFlags := 16409, nameIndex := 15, descriptorIndex := 6, attributes := #[] }, { accessFlags := 16409, nameIndex := 18, descriptorIndex := 6, attributes := #[] }, { accessFlags := 16409, nameIndex := 21, descriptorIndex := 6, attributes := #[] }, { accessFlags := 16409, nameIndex := 24, descriptorIndex := 6, attributes := #[] }, { accessFlags := 16409, nameIndex := 27, descriptorIndex := 6, attributes := #[] }, { accessFlags := 16409, nameIndex := 30, descriptorIndex := 6, attributes := #[] }, { accessFlags := 16409, nameIndex := 33, descriptorIndex := 6, attributes := #[] }, { accessFlags := 16409, nameIndex := 36, descriptorIndex := 6, attributes := #[] }, { accessFlags := 16409, nameIndex := 39, descriptorIndex := 6, attributes := #[] }, { accessFlags := 16409, nameIndex := 42, descriptorIndex := 6, attributes := #[] }, { accessFlags := 16409, nameIndex := 45, descriptorIndex := 6, attributes := #[] }, { accessFlags := 16409, nameIndex := 48, descriptorIndex := 6, attributes := #[] }, { accessFlags := 16409, nameIndex := 51, descriptorIndex := 6, attributes := #[] }, { accessFlags := 16409, nameIndex := 54, descriptorIndex := 6, attributes := #[] }, { accessFlags := 26, nameIndex := 88, descriptorIndex := 58, attributes := #[] }, { accessFlags := 18, nameIndex := 76, descriptorIndex := 77, attributes := #[] }, { accessFlags := 18, nameIndex := 80, descriptorIndex := 81, attributes := #[] }, { accessFlags := 4122, nameIndex := 57, descriptorIndex := 58, attributes := #[] }])
  fields := #[{ name := "UTF8", type := (.object "com/example/roastery/roastery/model/ConstantKind"), accessFlags := 16409, slot := 0, constantValue := 0 }, { name := "INTEGER", type := (.object "com/example/roastery/roastery/model/ConstantKind"), accessFlags := 16409, slot := 1, constantValue := 0 }, { name := "FLOAT", type := (.object "com/example/roastery/roastery/model/ConstantKind"), accessFlags := 16409, slot := 2, constantValue := 0 }, { name := "LONG", type := (.object "com/example/roastery/roastery/model/ConstantKind"), accessFlags := 16409, slot := 3, constantValue := 0 }, { name := "DOUBLE", type := (.object "com/example/roastery/roastery/model/ConstantKind"), accessFlags := 16409, slot := 4, constantValue := 0 }, { name := "CLASS", type := (.object "com/example/roastery/roastery/model/ConstantKind"), accessFlags := 16409, slot := 5, constantValue := 0 }, { name := "STRING", type := (.object "com/example/roastery/roastery/model/ConstantKind"), accessFlags := 16409, slot := 6, constantValue := 0 }, { name := "FIELDREF", type := (.object "com/example/roastery/roastery/model/ConstantKind"), accessFlags := 16409, slot := 7, constantValue := 0 }, { name := "METHODREF", type := (.object "com/example/roastery/roastery/model/ConstantKind"), accessFlags := 16409, slot := 8, constantValue := 0 }, { name := "INTERFACE_METHODREF", type := (.object "com/example/roastery/roastery/model/ConstantKind"), accessFlags := 16409, slot := 9, constantValue := 0 }, { name := "NAME_AND_TYPE", type := (.object "com/example/roastery/roastery/model/ConstantKind"), accessFlags := 16409, slot := 10, constantValue := 0 }, { name := "METHOD_HANDLE", type := (.object "com/example/roastery/roastery/model/ConstantKind"), accessFlags := 16409, slot := 11, constantValue := 0 }, { name := "METHOD_TYPE", type := (.object "com/example/roastery/roastery/model/ConstantKind"), accessFlags := 16409, slot := 12, constantValue := 0 }, { name := "DYNAMIC", type := (.object "com/example/roastery/roastery/model/ConstantKind"), accessFlags := 16409, slot := 13, constantValue := 0 }, { name := "INVOKE_DYNAMIC", type := (.object "com/example/roastery/roastery/model/ConstantKind"), accessFlags := 16409, slot := 14, constantValue := 0 }, { name := "MODULE", type := (.object "com/example/roastery/roastery/model/ConstantKind"), accessFlags := 16409, slot := 15, constantValue := 0 }, { name := "PACKAGE", type := (.object "com/example/roastery/roastery/model/ConstantKind"), accessFlags := 16409, slot := 16, constantValue := 0 }, { name := "BY_TAG", type := (.array (.object "com/example/roastery/roastery/model/ConstantKind")), accessFlags := 26, slot := 17, constantValue := 0 }, { name := "tag", type := .int, accessFlags := 18, slot := 3, constantValue := 0 }, { name := "jvmsName", type := (.object "java/lang/String"), accessFlags := 18, slot := 4, constantValue := 0 }, { name := "$VALUES", type := (.array (.object "com/example/roastery/roastery/model/ConstantKind")), accessFlags := 4122, slot := 18, constantValue := 0 }]
  methods := #[k6m0]
  instanceTypes := #[(.object "java/lang/String"), .int, .int, .int, (.object "java/lang/String")]
  staticTypes := #[(.object "com/example/roastery/roastery/model/ConstantKind"), (.object "com/example/roastery/roastery/model/ConstantKind"), (.object "com/example/roastery/roastery/model/ConstantKind"), (.object "com/example/roastery/roastery/model/ConstantKind"), (.object "com/example/roastery/roastery/model/ConstantKind"), (.object "com/example/roastery/roastery/model/ConstantKind"), (.object "com/example/roastery/roastery/model/ConstantKind"), (.object "com/example/roastery/roastery/model/ConstantKind"), (.object "com/example/roastery/roastery/model/ConstantKind"), (.object "com/example/roastery/roastery/model/ConstantKind"), (.object "com/example/roastery/roastery/model/ConstantKind"), (.object "com/example/roastery/roastery/model/ConstantKind"), (.object "com/example/roastery/roastery/model/ConstantKind"), (.object "com/example/roastery/roastery/model/ConstantKind"), (.object "com/example/roastery/roastery/model/ConstantKind"), (.object "com/example/roastery/roastery/model/ConstantKind"), (.object "com/example/roastery/roastery/model/ConstantKind"), (.array (.object "com/example/roastery/roastery/model/ConstantKind")), (.array (.object "com/example/roastery/roastery/model/ConstantKind"))]
  resolved := Array.replicate 170 none
  statics := some 0 }

def pool7 : Array CpInfo := pool [(1, u "java/lang/Cloneable"), (0, .class_ 1), (0, u "java/lang/Object"), (0, .class_ 3)] 3

/-- java/lang/Cloneable -/
def k7 : Class := { plain "java/lang/Cloneable" (some 0) with
  accessFlags := 1537
  interfaces := #[]
  cf := some (fileOf pool7 2 #[] #[] 1537 4 #[] #[])
  fields := #[]
  methods := #[]
  instanceTypes := #[]
  staticTypes := #[]
  resolved := Array.replicate 8 none
  statics := none }

/-- the primitive byte -/
def k8 : Class := { plain "byte" none with kind := .primitive 'B', accessFlags := 0x411 }
/-- [B -/
def k9 : Class := { plain "[B" (some 0) with kind := .array 8 .byte, interfaces := #[7, 4], accessFlags := 1041 }

/-- the primitive char -/
def k10 : Class := { plain "char" none with kind := .primitive 'C', accessFlags := 0x411 }
/-- [C -/
def k11 : Class := { plain "[C" (some 0) with kind := .array 10 .char, interfaces := #[7, 4], accessFlags := 1041 }

/-- the primitive int -/
def k12 : Class := { plain "int" none with kind := .primitive 'I', accessFlags := 0x411 }
/-- [I -/
def k13 : Class := { plain "[I" (some 0) with kind := .array 12 .int, interfaces := #[7, 4], accessFlags := 1041 }

def heap : Heap := #[{ cls := 6, slots := #[.null, .ref 1, .ref 3, .ref 2, .ref 4, .null, .null, .null, .null, .null, .null, .null, .null, .null, .null, .null, .null, .null, .null], vm := .statics 6 },
  { cls := 6, slots := #[.null, .int 0, .int 0, .int 0, .null], vm := .none },
  { cls := 6, slots := #[.null, .int 1, .int 0, .int 0, .null], vm := .none },
  { cls := 6, slots := #[.null, .int 2, .int 0, .int 0, .null], vm := .none },
  { cls := 6, slots := #[.null, .int 3, .int 0, .int 0, .null], vm := .none }]
def classes : Array Class := #[k0, k1, k2, k3, k4, k5, k6, k7, k8, k9, k10, k11, k12, k13]
def interned : List (Array UInt16 × Addr) := []
def slotsUsed : Nat := 39
def theMethod : MethodId := ⟨1, 2⟩
def args0 : Array Value := #[.int 1, .int 1]
def aboutOver (below : List Frame) : State where
  vm := { classes := classes, interned := interned.toArray }
  heap := heap
  slotsUsed := slotsUsed
  threads := #[{ frames := .invoking theMethod args0 :: below }]
def below0 : List Frame := [.native { method := ⟨0, 0⟩, args := #[] }]
def about1 : State := aboutOver below0
def p0 : Program := .bare "" "" ""
def e0 : Env := launch0.env 0 0 0
theorem w_frames : about1.frames = Frame.invoking theMethod args0 :: below0 := rfl
set_option maxRecDepth 65536 in
theorem w_args : argsFit about1.vm theMethod args0 = true := by decide +kernel
set_option maxRecDepth 65536 in
theorem w_heap : heapFits about1 = true := by decide +kernel
set_option maxRecDepth 65536 in
theorem w_runnable : about1.curStatus? = some .runnable := by decide +kernel
set_option maxRecDepth 65536 in
theorem w_alone : about1.alone = true := by decide +kernel
set_option maxRecDepth 65536 in
theorem w_named : about1.methodNamed? x = some theMethod := by decide +kernel
set_option maxRecDepth 65536 in
theorem w_hears : about1.hears theMethod below0 = true := by decide +kernel
set_option maxRecDepth 65536 in
theorem w_ripe : about1.ripe theMethod args0 below0 = true := by decide +kernel
theorem w_running : about1.status = .running := rfl
set_option maxRecDepth 65536 in
theorem w_room : about1.hasRoom e0.platform room_1 = true :=
  launch0.hasRoom_least _ room_1 (by decide +kernel) (by decide +kernel) (by decide +kernel) (by decide +kernel) (by decide +kernel) (by decide +kernel)
theorem allAtoms_all (ts : List Jvm.Cond) (a : Array Jvm.Value) (st : Jvm.State) : (allAtoms ts).before a st = ts.all (fun c => c.before a st) := by
  induction ts with
  | nil => rfl
  | cons c t ih =>
    show (Jvm.Cond.and c (allAtoms t)).before a st = _
    rw [Jvm.Cond.before_and, ih, List.all_cons]
def words1 : List Jvm.Cond := Jvm.Cond.code x code maxLocals ret :: tables_1
/-- a 'code' word, met by the world's own term for the bytes: nothing is compared byte by byte -/
theorem code_word {y : MethodName} {bytes : ByteArray} {mx : Nat} {rt : Option FieldType} {a : Array Value} {s : State} {m : MethodId} {meth : Method} {c : Code} (h1 : s.methodNamed? y = some m) (h2 : s.vm.method? m = some meth) (h3 : meth.code = some c) (h4 : c.code = bytes)
    (h5 : (c.maxLocals == mx && c.exceptionTable.isEmpty && decide (c.maxStack ≤ mostOperands) && decide (meth.sig.returnType = rt) && !meth.locks && decide (parseMethodDescriptor y.desc = some meth.sig)) = true) : (Jvm.Cond.code y bytes mx rt).before a s = true := by
  simp only [Bool.and_eq_true, beq_iff_eq, Bool.not_eq_true', decide_eq_true_eq] at h5
  obtain ⟨⟨⟨⟨⟨g1, g2⟩, g3⟩, g4⟩, g5⟩, g6⟩ := h5
  simp [Cond.before, Cond.holds, Cond.value, h1, h2, h3, h4, g1, g2, g3, g4, g5, g6]
def isCode : Jvm.Cond → Bool
  | .code _ _ _ _ => true
  | _ => false
theorem all_split {L : List Jvm.Cond} {P : Jvm.Cond → Bool} (h1 : L.all (fun c => isCode c || P c) = true) (h2 : ∀ c ∈ L.filter isCode, P c = true) : L.all P = true := by
  refine List.all_eq_true.mpr fun c hc => ?_
  have h := List.all_eq_true.mp h1 c hc
  rcases Bool.eq_false_or_eq_true (isCode c) with hi | hi
  · exact h2 c (List.mem_filter.mpr ⟨hc, hi⟩)
  · simpa [hi] using h
set_option maxRecDepth 65536 in
theorem w_c0 : (Jvm.Cond.code x code maxLocals ret).before args0 about1 = true := code_word (m := ⟨1, 2⟩) (meth := k1m2) (c := k1c2) (by decide +kernel) rfl rfl rfl (by decide +kernel)
set_option maxRecDepth 65536 in
theorem w_c1 : (Jvm.Cond.code ({ cls := "com/example/roastery/roastery/model/ConstantKind", name := "ofPrimitiveType", desc := "(C)Lcom/example/roastery/roastery/model/ConstantKind;" } : Jvm.MethodName) prog_86_method_8_code (1 : Nat) (Option.some (Jvm.ClassFile.FieldType.object "com/example/roastery/roastery/model/ConstantKind"))).before args0 about1 = true := code_word (m := ⟨6, 0⟩) (meth := k6m0) (c := k6c0) (by decide +kernel) rfl rfl rfl (by decide +kernel)
set_option maxRecDepth 65536 in
theorem w_c2 : (Jvm.Cond.code ({ cls := "com/example/roastery/roastery/model/ConstantKindOfPrimitiveTypePinLaw", name := "expected", desc := "(C)Lcom/example/roastery/roastery/model/ConstantKind;" } : Jvm.MethodName) method_2_code (1 : Nat) (Option.some (Jvm.ClassFile.FieldType.object "com/example/roastery/roastery/model/ConstantKind"))).before args0 about1 = true := code_word (m := ⟨1, 1⟩) (meth := k1m1) (c := k1c1) (by decide +kernel) rfl rfl rfl (by decide +kernel)
def codes1 : List Jvm.Cond := [Jvm.Cond.code x code maxLocals ret, Jvm.Cond.code ({ cls := "com/example/roastery/roastery/model/ConstantKind", name := "ofPrimitiveType", desc := "(C)Lcom/example/roastery/roastery/model/ConstantKind;" } : Jvm.MethodName) prog_86_method_8_code (1 : Nat) (Option.some (Jvm.ClassFile.FieldType.object "com/example/roastery/roastery/model/ConstantKind")), Jvm.Cond.code ({ cls := "com/example/roastery/roastery/model/ConstantKindOfPrimitiveTypePinLaw", name := "expected", desc := "(C)Lcom/example/roastery/roastery/model/ConstantKind;" } : Jvm.MethodName) method_2_code (1 : Nat) (Option.some (Jvm.ClassFile.FieldType.object "com/example/roastery/roastery/model/ConstantKind"))]
set_option maxRecDepth 65536 in
theorem codes_eq : words1.filter isCode = codes1 := rfl
theorem w_codes : ∀ c ∈ words1.filter isCode, c.before args0 about1 = true := by
  rw [codes_eq]
  intro c hc
  simp only [codes1, List.mem_cons, List.not_mem_nil, or_false] at hc
  rcases hc with rfl | rfl | rfl
  · exact w_c0
  · exact w_c1
  · exact w_c2
set_option maxRecDepth 65536 in
theorem w_t1 : words1.all (fun c => isCode c || c.before args0 about1) = true := by decide +kernel
theorem w_tables : (allAtoms (Jvm.Cond.code x code maxLocals ret :: tables_1)).before args0 about1 = true := by
  rw [allAtoms_all]
  show words1.all (fun c => c.before args0 about1) = true
  refine all_split ?_ w_codes
  rw [w_t1]
set_option maxRecDepth 65536 in
theorem w_case : (Jvm.Cond.and given_1 narrow_1).before args0 about1 = true := by decide +kernel
theorem w_applies : (headSpec (Jvm.Cond.code x code maxLocals ret :: tables_1) room_1).applies x e0.platform about1 = true :=
  (Spec.applies_iff w_frames).mpr ⟨w_running, w_runnable, w_alone, w_named, w_hears, w_ripe, w_room, w_tables⟩
theorem atStart : AtStart classFile x code maxLocals ret World_1 tables_1 room_1 Calls_1 rest_1 Pre_1 launch0 p0 e0 about1 theMethod args0 below0 :=
  ⟨lists_1, trivial, launch0.admits_env _ _ _, launch0.least_env, fairChoices_fair.cas, fairChoices_fair.clock, w_frames, w_args, w_heap, w_applies, trivial, trivial, w_case⟩
end start1
theorem witness_1 : WitnessClaimed_1 := ⟨start1.p0, start1.e0, start1.about1, start1.theMethod, start1.args0, start1.below0, start1.atStart⟩
end Jvm.Pilot.@@N@@
