import JvmDerived
import JvmDerived.Pilot.@@N@@Statement
import JvmDerived.Pilot.@@N@@Code
set_option linter.unusedVariables false
set_option linter.unusedSimpArgs false
namespace Jvm.RoadKit
open Sem ClassFile Op Lib Jvm.Stand Jvm.Free Jvm.LawKit
section Own
variable {p : Program} {l : Launch} {e : Env} {R : Room} {s : State} {m : MethodId} {args : Array Value} {below : List Frame} {meth : Method} {c : Code} {T : State} {locs : List Loc} {cells slots : Nat} {Z : State} {h h' : Heap} {a b : Addr} {ty : FieldType} {ws : List Addr}
/-- from the state S the run comes to an end that Q allows -/
def Go (p : Program) (e : Env) (below : List Frame) (s : State) (Q : Option Value → Heap → List Loc → Prop) (K N : Nat) (S : State) : Prop :=
  ∃ (t : State) (o : Outcome), Steps p.tables e below S t ∧ t.status = .running ∧ Ended t below o ∧ ∃ v L, o = .returned v ∧ Q v t.heap L ∧ FrameEnd s o t L K N
variable {Q : Option Value → Heap → List Loc → Prop} {K N : Nat} {S S' : State}
theorem gs (h : ∀ t, Steps p.tables e below S' t → Steps p.tables e below S t) (k : Go p e below s Q K N S') : Go p e below s Q K N S := by
  obtain ⟨t, o, a, b⟩ := k
  exact ⟨t, o, h t a, b⟩
theorem gt (h : Steps p.tables e below S S') (k : Go p e below s Q K N S') : Go p e below s Q K N S := gs (fun _ => h.trans) k
theorem goEnd (X : Stand p l e R s m args below meth c T locs cells slots) {v : Option Value} (hlocks : meth.locks = false) (hv : meth.sig.returnType = none → v = none)
    (hs : ∀ fs, (∀ (f : JFrame) (acts : List Action), f.method = m → f.locked = none → f.entered = [] → (doReturn e (T.setTop f) acts v).1 = T.setFrames fs) → Steps p.tables e below S (T.setFrames fs))
    (hQ : Q v T.heap locs) (hk : cells ≤ K) (hn : slots ≤ N) : Go p e below s Q K N S := by
  obtain ⟨fs, hr, hrun, hended, hW, hsame⟩ := X.leave (v := v) hv hlocks
  exact ⟨_, _, hs fs hr, hrun, hended, v, locs, rfl, hQ, ⟨_, rfl⟩, hW, hsame.mono hk hn⟩
theorem goV (X : Stand p l e R s m args below meth c T locs cells slots) (hx : p.tables.exec = Jvm.exec) (hlocks : meth.locks = false) (hret : meth.sig.returnType = none) {pc : Nat} {Ls : Array Slot} (hd : decode c.code pc = .ok (.return_, 1)) (hQ : Q none T.heap locs) (hk : cells ≤ K) (hn : slots ≤ N) :
    Go p e below s Q K N (T.setTop (mkF m pc Ls [])) := goEnd X hlocks (fun _ => rfl) (fun _ hr => X.returnOut hx hret hd hr) hQ hk hn
theorem goW (X : Stand p l e R s m args below meth c T locs cells slots) (hx : p.tables.exec = Jvm.exec) (hlocks : meth.locks = false) {t : FieldType} (hret : meth.sig.returnType = some t) {pc : Nat} {Ls : Array Slot} {w : Value} {i : Instr} {rest : List Value} (hn0 : narrow t w = w)
    (hi : (i = .ireturn ∧ (t = .int ∨ t = .boolean ∨ t = .byte ∨ t = .char ∨ t = .short) ∧ ∃ z, w = .int z) ∨ (i = .lreturn ∧ t = .long ∧ ∃ z, w = .long z) ∨ (i = .dreturn ∧ t = .double ∧ ∃ z, w = .double z) ∨ (i = .freturn ∧ t = .float ∧ ∃ z, w = .float z) ∨ (i = .areturn ∧ t.isReference = true ∧ w.isRef = true))
    (hd : decode c.code pc = .ok (i, 1)) (hQ : Q (some w) T.heap locs) (hk : cells ≤ K) (hn : slots ≤ N) : Go p e below s Q K N (T.setTop (mkF m pc Ls (w :: rest))) :=
  goEnd X hlocks (fun q => by rw [hret] at q; cases q) (fun _ hr => retOut X hx hret hn0 hi hd hr) hQ hk hn
theorem goI (X : Stand p l e R s m args below meth c T locs cells slots) (hx : p.tables.exec = Jvm.exec) (hlocks : meth.locks = false) (hret : meth.sig.returnType = some .int) {pc : Nat} {Ls : Array Slot} {w : Int32} {rest : List Value} (hd : decode c.code pc = .ok (.ireturn, 1)) (hQ : Q (some (.int w)) T.heap locs) (hk : cells ≤ K) (hn : slots ≤ N) :
    Go p e below s Q K N (T.setTop (mkF m pc Ls (.int w :: rest))) := goW X hx hlocks hret rfl (Or.inl ⟨rfl, Or.inl rfl, w, rfl⟩) hd hQ hk hn
theorem goJ (X : Stand p l e R s m args below meth c T locs cells slots) (hx : p.tables.exec = Jvm.exec) (hlocks : meth.locks = false) (hret : meth.sig.returnType = some .long) {pc : Nat} {Ls : Array Slot} {w : Int64} {rest : List Value} (hd : decode c.code pc = .ok (.lreturn, 1)) (hQ : Q (some (.long w)) T.heap locs) (hk : cells ≤ K) (hn : slots ≤ N) :
    Go p e below s Q K N (T.setTop (mkF m pc Ls (.long w :: rest))) := goW X hx hlocks hret rfl (Or.inr (Or.inl ⟨rfl, rfl, w, rfl⟩)) hd hQ hk hn
theorem goR (X : Stand p l e R s m args below meth c T locs cells slots) (hx : p.tables.exec = Jvm.exec) (hlocks : meth.locks = false) {t : FieldType} (hret : meth.sig.returnType = some t) (ht : t.isReference = true) {pc : Nat} {Ls : Array Slot} {w : Value} (hw : w.isRef = true) {rest : List Value} (hd : decode c.code pc = .ok (.areturn, 1)) (hQ : Q (some w) T.heap locs) (hk : cells ≤ K) (hn : slots ≤ N) :
    Go p e below s Q K N (T.setTop (mkF m pc Ls (w :: rest))) :=
  goW X hx hlocks hret (by cases t <;> simp [FieldType.isReference] at ht <;> rfl) (Or.inr (Or.inr (Or.inr (Or.inr ⟨rfl, ht, hw⟩)))) hd hQ hk hn
theorem goB (X : Stand p l e R s m args below meth c T locs cells slots) (hx : p.tables.exec = Jvm.exec) (hlocks : meth.locks = false) {t : FieldType} (hret : meth.sig.returnType = some t) (ht : t = .boolean ∨ t = .byte ∨ t = .char ∨ t = .short) {pc : Nat} {Ls : Array Slot} {z w : Int32} {rest : List Value} (hz : nar t z = w) (hd : decode c.code pc = .ok (.ireturn, 1)) (hQ : Q (some (.int w)) T.heap locs) (hk : cells ≤ K) (hn : slots ≤ N) :
    Go p e below s Q K N (T.setTop (mkF m pc Ls (.int z :: rest))) := by
  subst hz
  exact goEnd X hlocks (fun q => by rw [hret] at q; cases q) (fun _ hr => retN X hx hret ht hd hr) hQ hk hn
/-- an array of n places; the place i holds f i -/
def Arf (Z : State) (h : Heap) (a : Addr) (ty : FieldType) (n : Nat) (f : Nat → Value) : Prop := ∃ c : Cell, Arr Z h a c ty ∧ c.slots.size = n ∧ n < 2 ^ 31 ∧ ∀ i, i < n → c.slots[i]? = some (f i)
def updv (f : Nat → Value) (j : Nat) (v : Value) : Nat → Value := fun i => if i = j then v else f i
variable {n : Nat} {f g : Nat → Value} {sl : Nat} {v : Value}
theorem Arf.lt (F : Arf Z h a ty n f) : a < h.size := by obtain ⟨c, A, -⟩ := F; exact A.lt
theorem Arf.ext (F : Arf Z h a ty n f) (E : Ext h h') : Arf Z h' a ty n f := by obtain ⟨c, A, r⟩ := F; exact ⟨c, A.ext E, r⟩
theorem Arf.other (F : Arf Z h b ty n f) (W : Wr h h' a sl v) (q : b ≠ a) : Arf Z h' b ty n f := by obtain ⟨c, A, r⟩ := F; exact ⟨c, A.other W q, r⟩
theorem Arf.keep (F : Arf Z h a ty n f) (K : Keep h h' ws) (q : a ∉ ws) : Arf Z h' a ty n f := by obtain ⟨c, A, r⟩ := F; exact ⟨c, ⟨K.2.1 a c A.1 q, A.2⟩, r⟩
theorem Arf.congr (F : Arf Z h a ty n f) (q : ∀ i, i < n → f i = g i) : Arf Z h a ty n g := by
  obtain ⟨c, A, r1, r2, r3⟩ := F
  exact ⟨c, A, r1, r2, fun i hi => by rw [← q i hi]; exact r3 i hi⟩
theorem clampLt (z : Int32) : z.toNatClampNeg < 2 ^ 31 := by
  have h1 := z.toInt_lt
  have h2 : z.toNatClampNeg = z.toInt.toNat := rfl
  omega
theorem clampOf {j : Int32} (h0 : 0 ≤ j.toInt) : (j.toNatClampNeg : Int) = j.toInt := by
  have h2 : j.toNatClampNeg = j.toInt.toNat := rfl
  omega
theorem Arf.new {k : ClassId} {z : Int32} (A : Arr Z h a (newA k ty z) ty) : Arf Z h a ty z.toNatClampNeg (fun _ => defaultValue ty) := by
  refine ⟨_, A, sz_new _ _ _, clampLt z, fun i hi => ?_⟩
  simp [newA, hi]
theorem Arf.set (F : Arf Z h a ty n f) {j : Nat} (W : Wr h h' a j v) (hj : j < n) : Arf Z h' a ty n (updv f j v) := by
  obtain ⟨c, A, r1, r2, r3⟩ := F
  refine ⟨_, A.same W, by rw [sz_set]; exact r1, r2, fun i hi => ?_⟩
  by_cases q : i = j
  · subst q
    simp [Cell.setSlot, updv, r1, hi]
  · have q' : ¬ j = i := fun x => q x.symm
    simp [Cell.setSlot, updv, q, Array.getElem?_setIfInBounds_ne q', r3 i hi]
theorem inI {cl : Cell} (S : cl.slots.size = n) {j : Int32} (hj : 0 ≤ j.toInt ∧ j.toInt < n) : ¬ (j < 0 ∨ cl.slots.size ≤ j.toNatClampNeg) := by
  have q := clampOf hj.1
  rintro (h1 | h1)
  · rw [Int32.lt_iff_toInt_lt] at h1
    have : (0 : Int32).toInt = 0 := rfl
    omega
  · omega
theorem stIf (X : Stand p l e R s m args below meth c T locs cells slots) (hx : p.tables.exec = Jvm.exec) (hZ : Z.Warmed39 s.vm) (eT : T.heap = h) (F : Arf Z h a .int n f) {j x : Int32} (hj : 0 ≤ j.toInt ∧ j.toInt < n) {g : JFrame} (hg : g.method = m) {rest : List Value} (hs : g.stack = .int x :: .int j :: .ref a :: rest) (hd : decode c.code g.pc = .ok (.iastore, 1)) :
    ∃ T' h', Stand p l e R s m args below meth c T' (locs ++ [⟨a, j.toNatClampNeg⟩]) cells slots ∧ T'.heap = h' ∧ Wr h h' a j.toNatClampNeg (.int x) ∧ Arf Z h' a .int n (updv f j.toNatClampNeg (.int x)) ∧ ∀ target, Steps p.tables e below (T'.setTop { g with pc := g.pc + 1, stack := rest }) target → Steps p.tables e below (T.setTop g) target := by
  obtain ⟨cl, A, r1, r2, r3⟩ := id F
  obtain ⟨T', h', X', e', W, st⟩ := stI X hx hZ eT A (j := j) (x := x) (inI r1 hj) hg hs hd
  have q := clampOf hj.1
  exact ⟨T', h', X', e', W, F.set W (by omega), st⟩
theorem stJf (X : Stand p l e R s m args below meth c T locs cells slots) (hx : p.tables.exec = Jvm.exec) (hZ : Z.Warmed39 s.vm) (eT : T.heap = h) (F : Arf Z h a .long n f) {j : Int32} {x : Int64} (hj : 0 ≤ j.toInt ∧ j.toInt < n) {g : JFrame} (hg : g.method = m) {rest : List Value} (hs : g.stack = .long x :: .int j :: .ref a :: rest) (hd : decode c.code g.pc = .ok (.lastore, 1)) :
    ∃ T' h', Stand p l e R s m args below meth c T' (locs ++ [⟨a, j.toNatClampNeg⟩]) cells slots ∧ T'.heap = h' ∧ Wr h h' a j.toNatClampNeg (.long x) ∧ Arf Z h' a .long n (updv f j.toNatClampNeg (.long x)) ∧ ∀ target, Steps p.tables e below (T'.setTop { g with pc := g.pc + 1, stack := rest }) target → Steps p.tables e below (T.setTop g) target := by
  obtain ⟨cl, A, r1, r2, r3⟩ := id F
  obtain ⟨T', h', X', e', W, st⟩ := stJ X hx hZ eT A (j := j) (x := x) (inI r1 hj) hg hs hd
  have q := clampOf hj.1
  exact ⟨T', h', X', e', W, F.set W (by omega), st⟩
theorem stBf (X : Stand p l e R s m args below meth c T locs cells slots) (hx : p.tables.exec = Jvm.exec) (hZ : Z.Warmed39 s.vm) (eT : T.heap = h) (F : Arf Z h a .byte n f) {j x : Int32} (hj : 0 ≤ j.toInt ∧ j.toInt < n) {g : JFrame} (hg : g.method = m) {rest : List Value} (hs : g.stack = .int x :: .int j :: .ref a :: rest) (hd : decode c.code g.pc = .ok (.bastore, 1)) :
    ∃ T' h', Stand p l e R s m args below meth c T' (locs ++ [⟨a, j.toNatClampNeg⟩]) cells slots ∧ T'.heap = h' ∧ Wr h h' a j.toNatClampNeg (.int (nar .byte x)) ∧ Arf Z h' a .byte n (updv f j.toNatClampNeg (.int (nar .byte x))) ∧ ∀ target, Steps p.tables e below (T'.setTop { g with pc := g.pc + 1, stack := rest }) target → Steps p.tables e below (T.setTop g) target := by
  obtain ⟨cl, A, r1, r2, r3⟩ := id F
  obtain ⟨T', h', X', e', W, st⟩ := stB X hx hZ eT A (j := j) (x := x) (inI r1 hj) hg hs hd
  have q := clampOf hj.1
  exact ⟨T', h', X', e', W, F.set W (by omega), st⟩
theorem stZf (X : Stand p l e R s m args below meth c T locs cells slots) (hx : p.tables.exec = Jvm.exec) (hZ : Z.Warmed39 s.vm) (eT : T.heap = h) (F : Arf Z h a .boolean n f) {j x : Int32} (hj : 0 ≤ j.toInt ∧ j.toInt < n) {g : JFrame} (hg : g.method = m) {rest : List Value} (hs : g.stack = .int x :: .int j :: .ref a :: rest) (hd : decode c.code g.pc = .ok (.bastore, 1)) :
    ∃ T' h', Stand p l e R s m args below meth c T' (locs ++ [⟨a, j.toNatClampNeg⟩]) cells slots ∧ T'.heap = h' ∧ Wr h h' a j.toNatClampNeg (.int (nar .boolean x)) ∧ Arf Z h' a .boolean n (updv f j.toNatClampNeg (.int (nar .boolean x))) ∧ ∀ target, Steps p.tables e below (T'.setTop { g with pc := g.pc + 1, stack := rest }) target → Steps p.tables e below (T.setTop g) target := by
  obtain ⟨cl, A, r1, r2, r3⟩ := id F
  obtain ⟨T', h', X', e', W, st⟩ := stZ X hx hZ eT A (j := j) (x := x) (inI r1 hj) hg hs hd
  have q := clampOf hj.1
  exact ⟨T', h', X', e', W, F.set W (by omega), st⟩
theorem stCf (X : Stand p l e R s m args below meth c T locs cells slots) (hx : p.tables.exec = Jvm.exec) (hZ : Z.Warmed39 s.vm) (eT : T.heap = h) (F : Arf Z h a .char n f) {j x : Int32} (hj : 0 ≤ j.toInt ∧ j.toInt < n) {g : JFrame} (hg : g.method = m) {rest : List Value} (hs : g.stack = .int x :: .int j :: .ref a :: rest) (hd : decode c.code g.pc = .ok (.castore, 1)) :
    ∃ T' h', Stand p l e R s m args below meth c T' (locs ++ [⟨a, j.toNatClampNeg⟩]) cells slots ∧ T'.heap = h' ∧ Wr h h' a j.toNatClampNeg (.int (nar .char x)) ∧ Arf Z h' a .char n (updv f j.toNatClampNeg (.int (nar .char x))) ∧ ∀ target, Steps p.tables e below (T'.setTop { g with pc := g.pc + 1, stack := rest }) target → Steps p.tables e below (T.setTop g) target := by
  obtain ⟨cl, A, r1, r2, r3⟩ := id F
  obtain ⟨T', h', X', e', W, st⟩ := stC X hx hZ eT A (j := j) (x := x) (inI r1 hj) hg hs hd
  have q := clampOf hj.1
  exact ⟨T', h', X', e', W, F.set W (by omega), st⟩
theorem stRf (X : Stand p l e R s m args below meth c T locs cells slots) (hx : p.tables.exec = Jvm.exec) (hZ : Z.Warmed39 s.vm) (eT : T.heap = h) (F : Arf Z h a ty n f) (hty : ty.isReference = true) {j : Int32} {v : Value} (hv : Sto Z h a v) (hj : 0 ≤ j.toInt ∧ j.toInt < n) {g : JFrame} (hg : g.method = m) {rest : List Value} (hs : g.stack = v :: .int j :: .ref a :: rest) (hd : decode c.code g.pc = .ok (.aastore, 1)) :
    ∃ T' h', Stand p l e R s m args below meth c T' (locs ++ [⟨a, j.toNatClampNeg⟩]) cells slots ∧ T'.heap = h' ∧ Wr h h' a j.toNatClampNeg v ∧ Arf Z h' a ty n (updv f j.toNatClampNeg v) ∧ ∀ target, Steps p.tables e below (T'.setTop { g with pc := g.pc + 1, stack := rest }) target → Steps p.tables e below (T.setTop g) target := by
  obtain ⟨cl, A, r1, r2, r3⟩ := id F
  obtain ⟨T', h', X', e', W, st⟩ := stR X hx hZ eT A (j := j) (v := v) (inI r1 hj) hty hv hg hs hd
  have q := clampOf hj.1
  exact ⟨T', h', X', e', W, F.set W (by omega), st⟩
theorem ldIf (X : Stand p l e R s m args below meth c T locs cells slots) (hx : p.tables.exec = Jvm.exec) (hZ : Z.Warmed39 s.vm) (eT : T.heap = h) (F : Arf Z h a .int n f) {j : Int32} {v : Value} (hj : 0 ≤ j.toInt ∧ j.toInt < n) (hv : f j.toNatClampNeg = v) {g : JFrame} (hg : g.method = m) {rest : List Value} (hs : g.stack = .int j :: .ref a :: rest) (hd : decode c.code g.pc = .ok (.iaload, 1)) :
    ∀ target, Steps p.tables e below (T.setTop { g with pc := g.pc + 1, stack := v :: rest }) target → Steps p.tables e below (T.setTop g) target := by
  obtain ⟨cl, A, r1, r2, r3⟩ := F
  have q := clampOf hj.1
  exact fun t => X.iaload hx (by rw [eT]; exact A.1) (State.isArrayOf_alike hZ.alike A.2.1) A.2.2 (inI r1 hj) (by rw [← hv]; exact r3 _ (by omega)) hg hs hd t
theorem ldJf (X : Stand p l e R s m args below meth c T locs cells slots) (hx : p.tables.exec = Jvm.exec) (hZ : Z.Warmed39 s.vm) (eT : T.heap = h) (F : Arf Z h a .long n f) {j : Int32} {v : Value} (hj : 0 ≤ j.toInt ∧ j.toInt < n) (hv : f j.toNatClampNeg = v) {g : JFrame} (hg : g.method = m) {rest : List Value} (hs : g.stack = .int j :: .ref a :: rest) (hd : decode c.code g.pc = .ok (.laload, 1)) :
    ∀ target, Steps p.tables e below (T.setTop { g with pc := g.pc + 1, stack := v :: rest }) target → Steps p.tables e below (T.setTop g) target := by
  obtain ⟨cl, A, r1, r2, r3⟩ := F
  have q := clampOf hj.1
  exact fun t => X.laload hx (by rw [eT]; exact A.1) (State.isArrayOf_alike hZ.alike A.2.1) A.2.2 (inI r1 hj) (by rw [← hv]; exact r3 _ (by omega)) hg hs hd t
theorem ldCf (X : Stand p l e R s m args below meth c T locs cells slots) (hx : p.tables.exec = Jvm.exec) (hZ : Z.Warmed39 s.vm) (eT : T.heap = h) (F : Arf Z h a .char n f) {j : Int32} {v : Value} (hj : 0 ≤ j.toInt ∧ j.toInt < n) (hv : f j.toNatClampNeg = v) {g : JFrame} (hg : g.method = m) {rest : List Value} (hs : g.stack = .int j :: .ref a :: rest) (hd : decode c.code g.pc = .ok (.caload, 1)) :
    ∀ target, Steps p.tables e below (T.setTop { g with pc := g.pc + 1, stack := v :: rest }) target → Steps p.tables e below (T.setTop g) target := by
  obtain ⟨cl, A, r1, r2, r3⟩ := F
  have q := clampOf hj.1
  exact fun t => X.caload hx (by rw [eT]; exact A.1) (State.isArrayOf_alike hZ.alike A.2.1) A.2.2 (inI r1 hj) (by rw [← hv]; exact r3 _ (by omega)) hg hs hd t
theorem ldBf (X : Stand p l e R s m args below meth c T locs cells slots) (hx : p.tables.exec = Jvm.exec) (hZ : Z.Warmed39 s.vm) (eT : T.heap = h) (F : Arf Z h a .byte n f) {j : Int32} {v : Value} (hj : 0 ≤ j.toInt ∧ j.toInt < n) (hv : f j.toNatClampNeg = v) {g : JFrame} (hg : g.method = m) {rest : List Value} (hs : g.stack = .int j :: .ref a :: rest) (hd : decode c.code g.pc = .ok (.baload, 1)) :
    ∀ target, Steps p.tables e below (T.setTop { g with pc := g.pc + 1, stack := v :: rest }) target → Steps p.tables e below (T.setTop g) target := by
  obtain ⟨cl, A, r1, r2, r3⟩ := F
  have q := clampOf hj.1
  exact fun t => X.baloadBytes hx (by rw [eT]; exact A.1) (State.isArrayOf_alike hZ.alike A.2.1) A.2.2 (inI r1 hj) (by rw [← hv]; exact r3 _ (by omega)) hg hs hd t
theorem ldZf (X : Stand p l e R s m args below meth c T locs cells slots) (hx : p.tables.exec = Jvm.exec) (hZ : Z.Warmed39 s.vm) (eT : T.heap = h) (F : Arf Z h a .boolean n f) {j : Int32} {v : Value} (hj : 0 ≤ j.toInt ∧ j.toInt < n) (hv : f j.toNatClampNeg = v) {g : JFrame} (hg : g.method = m) {rest : List Value} (hs : g.stack = .int j :: .ref a :: rest) (hd : decode c.code g.pc = .ok (.baload, 1)) :
    ∀ target, Steps p.tables e below (T.setTop { g with pc := g.pc + 1, stack := v :: rest }) target → Steps p.tables e below (T.setTop g) target := by
  obtain ⟨cl, A, r1, r2, r3⟩ := F
  have q := clampOf hj.1
  exact fun t => X.baloadBooleans hx (by rw [eT]; exact A.1) (State.isArrayOf_alike hZ.alike A.2.1) A.2.2 (inI r1 hj) (by rw [← hv]; exact r3 _ (by omega)) hg hs hd t
theorem ldRf (X : Stand p l e R s m args below meth c T locs cells slots) (hx : p.tables.exec = Jvm.exec) (hZ : Z.Warmed39 s.vm) (eT : T.heap = h) (F : Arf Z h a ty n f) (hty : ty.isReference = true) {j : Int32} {v : Value} (hj : 0 ≤ j.toInt ∧ j.toInt < n) (hv : f j.toNatClampNeg = v) {g : JFrame} (hg : g.method = m) {rest : List Value} (hs : g.stack = .int j :: .ref a :: rest) (hd : decode c.code g.pc = .ok (.aaload, 1)) :
    ∀ target, Steps p.tables e below (T.setTop { g with pc := g.pc + 1, stack := v :: rest }) target → Steps p.tables e below (T.setTop g) target := by
  obtain ⟨cl, A, r1, r2, r3⟩ := F
  have q := clampOf hj.1
  exact fun t => X.aaload hx (by rw [eT]; exact A.1) (State.isArrayOf_alike hZ.alike A.2.1) hty A.2.2 (inI r1 hj) (by rw [← hv]; exact r3 _ (by omega)) hg hs hd t
theorem lenf (X : Stand p l e R s m args below meth c T locs cells slots) (hx : p.tables.exec = Jvm.exec) (hZ : Z.Warmed39 s.vm) (eT : T.heap = h) (F : Arf Z h a ty n f) {z : Int32} (hz : n.toInt32 = z) {g : JFrame} (hg : g.method = m) {rest : List Value} (hs : g.stack = .ref a :: rest) (hd : decode c.code g.pc = .ok (.arraylength, 1)) :
    ∀ target, Steps p.tables e below (T.setTop { g with pc := g.pc + 1, stack := .int z :: rest }) target → Steps p.tables e below (T.setTop g) target := by
  obtain ⟨cl, A, r1, r2, r3⟩ := F
  subst hz r1
  exact fun t => X.arraylength hx (by rw [eT]; exact A.1) (State.isArrayOf_alike hZ.alike A.2.1) hg hs hd t
theorem toClamp {z : Int32} (q : 0 ≤ z.toInt) : z.toNatClampNeg.toInt32 = z := (back32 (fun h => by rw [Int32.lt_iff_toInt_lt] at h; have : (0 : Int32).toInt = 0 := rfl; omega)).1
/-- an array that takes every object of the class C -/
def Tak (Z : State) (h : Heap) (a : Addr) (C : String) : Prop := ∃ (cell : Cell) (k kc : Class) (comp : ClassId) (t : FieldType), h[a]? = some cell ∧ Z.vm.classes[cell.cls]? = some k ∧ k.kind = .array comp t ∧ Z.vm.classes[comp]? = some kc ∧ Z.vm.findClass C = some comp
variable {C : String}
theorem Tak.ext (F : Tak Z h a C) (E : Ext h h') : Tak Z h' a C := by obtain ⟨cell, k, kc, comp, t, h1, r⟩ := F; exact ⟨cell, k, kc, comp, t, E.2 _ _ h1, r⟩
theorem Tak.wr (F : Tak Z h a C) (W : Wr h h' b sl v) : Tak Z h' a C := by
  obtain ⟨cell, k, kc, comp, t, h1, h2, r⟩ := F
  obtain ⟨c', e1, e2, -⟩ := wr_at W h1
  exact ⟨c', k, kc, comp, t, e1, by rw [e2]; exact h2, r⟩
theorem Tak.keep (F : Tak Z h a C) (K : Keep h h' ws) : Tak Z h' a C := by
  obtain ⟨cell, k, kc, comp, t, h1, h2, r⟩ := F
  obtain ⟨c', e1, e2, -⟩ := K.2.2 _ _ h1
  exact ⟨c', k, kc, comp, t, e1, by rw [e2]; exact h2, r⟩
theorem Tak.sto (F : Tak Z h a C) {y : Addr} (I : Ins Z h y C true) : Sto Z h a (.ref y) := by
  obtain ⟨cell, k, kc, comp, t, h1, h2, h3, h4, h5⟩ := F
  obtain ⟨cv, cT, g1, g2, g3⟩ := I
  cases h5.symm.trans g2
  simp only [Bool.and_eq_true, Bool.not_eq_true'] at g3
  have hv : ∃ kv, Z.vm.classes[cv.cls]? = some kv := by
    cases q : Z.vm.classes[cv.cls]? with
    | some kv => exact ⟨kv, rfl⟩
    | none =>
      by_cases e : cv.cls = comp
      · rw [e, h4] at q; cases q
      · have := g3.2
        simp [Vm.assignable, Vm.assignableAux, e, q] at this
  obtain ⟨kv, hkv⟩ := hv
  exact Or.inr ⟨cell, cv, k, kv, kc, comp, t, y, h1, h2, h3, h4, rfl, g1, g3.1, hkv, g3.2⟩
theorem Tak.of {cA : ClassId} {n : Int32} (A : Arr Z h a (newA cA ty n) ty) (O : Ovr Z cA C) : Tak Z h a C := by
  obtain ⟨k, comp, o1, o2, o3⟩ := O
  obtain ⟨kc, q, -⟩ := Vm.findClass_spec o3
  exact ⟨_, k, kc, comp, _, A.1, o1, o2, q, o3⟩
theorem Tak.ofA {cA : ClassId} {n : Int32} {ty' : FieldType} (A : Arr Z h a (newA cA ty n) ty) (O : OvrA Z cA ty' C) : Tak Z h a C := by
  obtain ⟨k, comp, o1, o2, o3⟩ := O
  obtain ⟨kc, q, -⟩ := Vm.findClass_spec o3
  exact ⟨_, k, kc, comp, _, A.1, o1, o2, q, o3⟩
theorem own_eqI {t : Term} {k : Int32} {args : Array Value} {first s : State} {o : Option Outcome} {idx : List Nat} (h : (Cond.eq t (.int k)).value args first o s idx = some true) : t.eval args first o idx s = some (.int k) := by
  simp only [Cond.value, Term.eval] at h
  cases ht : t.eval args first o idx s with
  | none => simp [ht] at h
  | some x => cases x <;> simp [ht] at h ⊢ <;> exact h
end Own
end Jvm.RoadKit
namespace Jvm.Pilot.@@N@@
open Jvm Jvm.ClassFile Sem Op Lib Jvm.Free Jvm.Stand Jvm.LawKit Jvm.RoadKit Bundle Jvm.Pilot.@@N@@.Jvm.D
theorem pd_0 : parseMethodDescriptor "(I)I" = some ⟨[.int], some .int⟩ := by decide +kernel
theorem pd_1 : parseMethodDescriptor "(II)I" = some ⟨[.int, .int], some .int⟩ := by decide +kernel
theorem pd_2 : parseMethodDescriptor "([IIIII)V" = some ⟨[(.array .int), .int, .int, .int, .int], none⟩ := by decide +kernel
theorem pd_3 : parseMethodDescriptor "(I)V" = some ⟨[.int], none⟩ := by decide +kernel
theorem pd_4 : parseMethodDescriptor "(Lcom/example/seshat/seshat/DisjointSets;[II)V" = some ⟨[(.object "com/example/seshat/seshat/DisjointSets"), (.array .int), .int], none⟩ := by decide +kernel
theorem pd_5 : parseMethodDescriptor "(Lcom/example/seshat/seshat/DisjointSets;[II)Z" = some ⟨[(.object "com/example/seshat/seshat/DisjointSets"), (.array .int), .int], some .boolean⟩ := by decide +kernel
abbrev OS := Fin 2 × Fin 3 × Fin 4 × Fin 5
def own_g (s : OS) (i : Nat) : Nat := match i with | 0 => 0 | 1 => s.1.val | 2 => s.2.1.val | 3 => s.2.2.1.val | _ => s.2.2.2.val
def own_st (s : OS) (j v : Nat) : OS := match j with
  | 0 => s
  | 1 => (⟨v % 2, Nat.mod_lt _ (by decide)⟩, s.2)
  | 2 => (s.1, ⟨v % 3, Nat.mod_lt _ (by decide)⟩, s.2.2)
  | 3 => (s.1, s.2.1, ⟨v % 4, Nat.mod_lt _ (by decide)⟩, s.2.2.2)
  | _ => (s.1, s.2.1, s.2.2.1, ⟨v % 5, Nat.mod_lt _ (by decide)⟩)
def own_rt (s : OS) (i : Nat) : Nat := own_g s (own_g s (own_g s (own_g s i)))
theorem own_a1' : ∀ (a : Fin 2) (b : Fin 3) (c : Fin 4) (d : Fin 5) (i : Fin 5), own_g ((a, b, c, d) : OS) i.val ≤ i.val := by decide +kernel
theorem own_a1 : ∀ (s : OS) (i : Fin 5), own_g s i.val ≤ i.val := fun s => own_a1' s.1 s.2.1 s.2.2.1 s.2.2.2
theorem own_a2' : ∀ (a : Fin 2) (b : Fin 3) (c : Fin 4) (d : Fin 5) (i j v : Fin 5), v.val ≤ j.val → own_g (own_st ((a, b, c, d) : OS) j.val v.val) i.val = if i.val = j.val then v.val else own_g ((a, b, c, d) : OS) i.val := by decide +kernel
theorem own_a2 : ∀ (s : OS) (i j v : Fin 5), v.val ≤ j.val → own_g (own_st s j.val v.val) i.val = if i.val = j.val then v.val else own_g s i.val := fun s => own_a2' s.1 s.2.1 s.2.2.1 s.2.2.2
theorem own_a3' : ∀ (a : Fin 2) (b : Fin 3) (c : Fin 4) (d : Fin 5) (x i : Fin 5), ¬ own_g ((a, b, c, d) : OS) x.val = x.val → own_rt (own_st ((a, b, c, d) : OS) x.val (own_g ((a, b, c, d) : OS) (own_g ((a, b, c, d) : OS) x.val))) i.val = own_rt ((a, b, c, d) : OS) i.val ∧ own_g ((a, b, c, d) : OS) (own_g ((a, b, c, d) : OS) x.val) < x.val ∧ own_rt ((a, b, c, d) : OS) (own_g ((a, b, c, d) : OS) (own_g ((a, b, c, d) : OS) x.val)) = own_rt ((a, b, c, d) : OS) x.val := by decide +kernel
theorem own_a3 : ∀ (s : OS) (x i : Fin 5), ¬ own_g s x.val = x.val → own_rt (own_st s x.val (own_g s (own_g s x.val))) i.val = own_rt s i.val ∧ own_g s (own_g s x.val) < x.val ∧ own_rt s (own_g s (own_g s x.val)) = own_rt s x.val := fun s => own_a3' s.1 s.2.1 s.2.2.1 s.2.2.2
theorem own_a4' : ∀ (a : Fin 2) (b : Fin 3) (c : Fin 4) (d : Fin 5) (x : Fin 5), own_g ((a, b, c, d) : OS) x.val = x.val → own_rt ((a, b, c, d) : OS) x.val = x.val := by decide +kernel
theorem own_a4 : ∀ (s : OS) (x : Fin 5), own_g s x.val = x.val → own_rt s x.val = x.val := fun s => own_a4' s.1 s.2.1 s.2.2.1 s.2.2.2
theorem own_a5' : ∀ (a : Fin 2) (b : Fin 3) (c : Fin 4) (d : Fin 5) (x y i : Fin 5), own_rt (own_st ((a, b, c, d) : OS) (max (own_rt ((a, b, c, d) : OS) x.val) (own_rt ((a, b, c, d) : OS) y.val)) (min (own_rt ((a, b, c, d) : OS) x.val) (own_rt ((a, b, c, d) : OS) y.val))) i.val = if own_rt ((a, b, c, d) : OS) i.val = own_rt ((a, b, c, d) : OS) x.val ∨ own_rt ((a, b, c, d) : OS) i.val = own_rt ((a, b, c, d) : OS) y.val then min (own_rt ((a, b, c, d) : OS) x.val) (own_rt ((a, b, c, d) : OS) y.val) else own_rt ((a, b, c, d) : OS) i.val := by decide +kernel
theorem own_a5 : ∀ (s : OS) (x y i : Fin 5), own_rt (own_st s (max (own_rt s x.val) (own_rt s y.val)) (min (own_rt s x.val) (own_rt s y.val))) i.val = if own_rt s i.val = own_rt s x.val ∨ own_rt s i.val = own_rt s y.val then min (own_rt s x.val) (own_rt s y.val) else own_rt s i.val := fun s => own_a5' s.1 s.2.1 s.2.2.1 s.2.2.2
theorem own_rt5' : ∀ (a : Fin 2) (b : Fin 3) (c : Fin 4) (d : Fin 5) (i : Fin 5), own_rt ((a, b, c, d) : OS) i.val < 5 := by decide +kernel
theorem own_rt5 : ∀ (s : OS) (i : Fin 5), own_rt s i.val < 5 := fun s => own_rt5' s.1 s.2.1 s.2.2.1 s.2.2.2
def oI (n : Nat) : Int32 := n.toInt32
theorem oI_t {n : Nat} (h : n < 5) : (oI n).toInt = n := len_toInt (by omega)
theorem oI_c {n : Nat} (h : n < 5) : (oI n).toNatClampNeg = n := by
  show (oI n).toInt.toNat = n
  rw [oI_t h]; rfl
theorem oI_i {a b : Nat} (ha : a < 5) (hb : b < 5) (h : oI a = oI b) : a = b := by
  have := congrArg Int32.toInt h
  rw [oI_t ha, oI_t hb] at this
  omega
theorem oI_in {n : Nat} (h : n < 5) : 0 ≤ (oI n).toInt ∧ (oI n).toInt < (5 : Nat) := by rw [oI_t h]; omega
theorem oI_lt {a b : Nat} (ha : a < 5) (hb : b < 5) : oI a < oI b ↔ a < b := by rw [Int32.lt_iff_toInt_lt, oI_t ha, oI_t hb]; omega
theorem oI_min {a b : Nat} (ha : a < 5) (hb : b < 5) : (if oI b < oI a then oI b else oI a) = oI (min a b) := by
  by_cases h : b < a
  · rw [if_pos ((oI_lt hb ha).mpr h), Nat.min_eq_right (by omega)]
  · rw [if_neg (fun q => h ((oI_lt hb ha).mp q)), Nat.min_eq_left (by omega)]
theorem oI_max {a b : Nat} (ha : a < 5) (hb : b < 5) : (if oI a < oI b then oI b else oI a) = oI (max a b) := by
  by_cases h : a < b
  · rw [if_pos ((oI_lt ha hb).mpr h), Nat.max_eq_right (by omega)]
  · rw [if_neg (fun q => h ((oI_lt ha hb).mp q)), Nat.max_eq_left (by omega)]
def own_pf (s : OS) : Nat → Value := fun i => .int (oI (own_g s i))
def own_nf (f : Nat → Nat) : Nat → Value := fun i => .int (oI (f i))
theorem own_g5 (s : OS) {i : Nat} (h : i < 5) : own_g s i < 5 := Nat.lt_of_le_of_lt (own_a1 s ⟨i, h⟩) h
theorem own_r5 (s : OS) {i : Nat} (h : i < 5) : own_rt s i < 5 := own_rt5 s ⟨i, h⟩
theorem own_pfat (s : OS) {x : Nat} (h : x < 5) : own_pf s (oI x).toNatClampNeg = .int (oI (own_g s x)) := by rw [oI_c h]; rfl
theorem own_nfat (f : Nat → Nat) {x : Nat} (h : x < 5) : own_nf f (oI x).toNatClampNeg = .int (oI (f x)) := by rw [oI_c h]; rfl
theorem own_upd (s : OS) {x v : Nat} (hx : x < 5) (hv : v ≤ x) : ∀ i, i < 5 → updv (own_pf s) (oI x).toNatClampNeg (.int (oI v)) i = own_pf (own_st s x v) i := fun i hi => by
  have q := own_a2 s ⟨i, hi⟩ ⟨x, hx⟩ ⟨v, by omega⟩ hv
  simp only at q
  rw [oI_c hx]
  simp only [updv, own_pf, q]
  by_cases e : i = x
  · rw [if_pos e, if_pos e]
  · rw [if_neg e, if_neg e]
theorem own_5 {j : Nat} (h : j < 5) : j = 0 ∨ j = 1 ∨ j = 2 ∨ j = 3 ∨ j = 4 := by omega
theorem own_idx (x : Int32) : ∃ n : Nat, n < 5 ∧ (x &&& (2147483647 : Int32)) % (5 : Int32) = oI n := by
  have e1 := c_mask x 2147483647 31 (by decide) (by decide)
  have e2 := c_irem (x &&& 2147483647) 5 5 rfl
  generalize (x &&& (2147483647 : Int32)) % (5 : Int32) = j at *
  refine ⟨j.toInt.toNat, by omega, ?_⟩
  rw [← Int32.toInt_inj, oI_t (by omega)]
  omega
theorem own_r (r k : Nat) (hr : r < 5) (hk : k < 5) {z : Int32} (hz : z.toInt = k) : (oI r + z) % (5 : Int32) = oI ((r + k) % 5) := by
  have e1 := c_iadd (oI r) z
  have e2 := c_irem (oI r + z) 5 5 rfl
  rw [oI_t hr, hz] at e1
  have r1 := rng32 (oI r + z)
  rw [← Int32.toInt_inj, oI_t (Nat.mod_lt _ (by decide))]
  omega
def own_lab (s : OS) (lx ly m k : Nat) : Nat → Nat := fun j => if j < k ∧ (own_rt s j = lx ∨ own_rt s j = ly) then m else own_rt s j
def own_rel (f : Nat → Nat) (i lx ly m : Nat) : Nat → Nat := fun j => if j = i ∧ (f i = lx ∨ f i = ly) then m else f j
theorem own_lab1 (s : OS) (lx ly m k j : Nat) : own_rel (own_lab s lx ly m k) k lx ly m j = own_lab s lx ly m (k + 1) j := by
  have e0 : own_lab s lx ly m k k = own_rt s k := by unfold own_lab; rw [if_neg (fun q => by omega)]
  unfold own_rel
  rw [e0]
  unfold own_lab
  by_cases h1 : j = k
  · subst h1
    by_cases h2 : own_rt s j = lx ∨ own_rt s j = ly
    · rw [if_pos ⟨rfl, h2⟩, if_pos ⟨by omega, h2⟩]
    · rw [if_neg (fun q => h2 q.2), if_neg (fun q => h2 q.2), if_neg (fun q => h2 q.2)]
  · rw [if_neg (fun q => h1 q.1)]
    by_cases h3 : j < k ∧ (own_rt s j = lx ∨ own_rt s j = ly)
    · rw [if_pos h3, if_pos ⟨by omega, h3.2⟩]
    · rw [if_neg h3, if_neg (fun q => h3 ⟨by omega, q.2⟩)]
theorem own_jn {s0 s2 s3 : OS} {x y i : Nat} (h2 : ∀ i, i < 5 → own_rt s2 i = own_rt s0 i) (h3 : ∀ i, i < 5 → own_rt s3 i = own_rt s2 i) (hx : x < 5) (hy : y < 5) (hi : i < 5) :
    own_rt (own_st s3 (max (own_rt s0 x) (own_rt s0 y)) (min (own_rt s0 x) (own_rt s0 y))) i = if own_rt s0 i = own_rt s0 x ∨ own_rt s0 i = own_rt s0 y then min (own_rt s0 x) (own_rt s0 y) else own_rt s0 i := by
  have q := own_a5 s3 ⟨x, hx⟩ ⟨y, hy⟩ ⟨i, hi⟩
  simp only [h3 x hx, h3 y hy, h3 i hi, h2 x hx, h2 y hy, h2 i hi] at q
  exact q
theorem own_relu {lf : Nat → Nat} {i lx ly m : Nat} (hi : i < 5) (h : lf i = lx ∨ lf i = ly) : ∀ j, j < 5 → updv (own_nf lf) (oI i).toNatClampNeg (.int (oI m)) j = own_nf (own_rel lf i lx ly m) j := fun j hj => by
  rw [oI_c hi]
  simp only [updv, own_nf, own_rel]
  by_cases e : j = i
  · rw [if_pos e, if_pos ⟨e, h⟩]
  · rw [if_neg e, if_neg (fun q => e q.1)]
theorem own_reln {lf : Nat → Nat} {i lx ly m : Nat} (h1 : ¬ lf i = lx) (h2 : ¬ lf i = ly) : ∀ j, j < 5 → own_nf lf j = own_nf (own_rel lf i lx ly m) j := fun j hj => by
  simp only [own_nf, own_rel]
  rw [if_neg (fun q => q.2.elim h1 h2)]
theorem d7_0 : decode jdk_29_method_69_code 0 = .ok (.iload_n 0, 1) := by decide +kernel
theorem d7_1 : decode jdk_29_method_69_code 1 = .ok (.iload_n 1, 1) := by decide +kernel
theorem d7_2 : decode jdk_29_method_69_code 2 = .ok (.if_icmp .gt 7, 3) := by decide +kernel
theorem d7_5 : decode jdk_29_method_69_code 5 = .ok (.iload_n 0, 1) := by decide +kernel
theorem d7_6 : decode jdk_29_method_69_code 6 = .ok (.goto 4, 3) := by decide +kernel
theorem d7_9 : decode jdk_29_method_69_code 9 = .ok (.iload_n 1, 1) := by decide +kernel
theorem d7_10 : decode jdk_29_method_69_code 10 = .ok (.ireturn, 1) := by decide +kernel
def Qrm7 (Z : State) (p0 : Int32) (p1 : Int32) (h0 : Heap) (n0 : Nat) (v : Option Value) (h : Heap) (L : List Loc) : Prop := v = some (.int (if p1 < p0 then p1 else p0)) ∧ Fr n0 L ∧ h = h0
set_option maxRecDepth 65536 in
set_option maxHeartbeats 40000000 in
theorem rm7 (l : Launch) (Z : State) (a0 : Array Value) (hw : ∀ d ∈ tables_1, d.before a0 Z = true) (ws : List Jvm.Cond) (p0 : Int32) (p1 : Int32) (h0 : Heap) (n0 : Nat) (Z0 : n0 ≤ h0.size) :
    MetFree l (⟨"java/lang/Math", "min", "(II)I"⟩ : MethodName) (head1 (Jvm.Cond.code (⟨"java/lang/Math", "min", "(II)I"⟩ : MethodName) jdk_29_method_69_code 2 (some .int) :: ws) ({ frames := 0, cells := 0, slots := 0, locals := 0 } : Room)) (fun a U => a = #[(.int p0), (.int p1)] ∧ Z.Warmed39 U.vm ∧ U.heap = h0) (fun _ _ _ _ _ => True) (fun _ U o U' => ∃ v L, o = .returned v ∧ Qrm7 Z p0 p1 h0 n0 v U'.heap L ∧ FrameEnd U o U' L ({ frames := 0, cells := 0, slots := 0, locals := 0 } : Room).cells ({ frames := 0, cells := 0, slots := 0, locals := 0 } : Room).slots) := by
  refine MetFree.of_bodySF (Jvm.Free.JP.mathPlain rfl (by decide +kernel)) hisR ?_
  intro p e s m args below meth c s₁ Bd hml0 hP hK
  obtain ⟨rfl, hZ, hh⟩ := hP
  have hx := Bd.exec
  have hby := Bd.bytes
  have hml : c.maxLocals = 2 := hml0
  have hown : s.vm.findClass "java/lang/Math" = some m.cls := findClass_of_methodNamed Bd.named
  have hnm := (name_of_methodNamed Bd.named Bd.method).1
  have X0 : Stand p l e ({ frames := 0, cells := 0, slots := 0, locals := 0 } : Room) s m #[(.int p0), (.int p1)] below meth c s₁ [] 0 0 := Stand.of_body Bd
  have e0 : s₁.heap = h0 := by rw [← hh, Bd.state]; rfl
  have N0 := Fr.nil n0
  have ZZ := Z0
  show Go p e below s (Qrm7 Z p0 p1 h0 n0) 0 0 (s₁.setTop (entryFrame m #[(.int p0), (.int p1)] 2))
  generalize hQQ : (Qrm7 Z p0 p1 h0 n0) = QQ
  refine gs (fun t k => castTop (g' := (mkF m 0 #[.val (.int p0), .val (.int p1)] [])) (by first | (simp [entryFrame, mkF, argsToLocals, Value.category, maxLocals]; done) | rfl) k) ?_
  show Go p e below s QQ 0 0 (s₁.setTop (mkF m 0 #[.val (.int p0), .val (.int p1)] []))
  refine gs (fun t => XS.iloadN X0.here hx rfl (hb hby d7_0) rfl) ?_
  show Go p e below s QQ 0 0 (s₁.setTop (mkF m 1 #[.val (.int p0), .val (.int p1)] [(.int p0)]))
  refine gs (fun t => XS.iloadN X0.here hx rfl (hb hby d7_1) rfl) ?_
  show Go p e below s QQ 0 0 (s₁.setTop (mkF m 2 #[.val (.int p0), .val (.int p1)] [(.int p1), (.int p0)]))
  by_cases hc : p1 < p0
  · skip
    refine gs (fun t => XS.icmpYes X0.here hx rfl (pc0 := 2) (pc' := 9) rfl (hb hby d7_2) rfl (tlt hc).2.2.1 (by decide) (by decide)) ?_
    show Go p e below s QQ 0 0 (s₁.setTop (mkF m 9 #[.val (.int p0), .val (.int p1)] []))
    refine gs (fun t => XS.iloadN X0.here hx rfl (hb hby d7_9) rfl) ?_
    show Go p e below s QQ 0 0 (s₁.setTop (mkF m 10 #[.val (.int p0), .val (.int p1)] [(.int p1)]))
    exact goI X0 hx Bd.notSynchronized Bd.returns (hb hby d7_10) (by rw [← hQQ, e0]; exact ⟨by simp [hc], N0, rfl⟩) (by decide) (by decide)
  · skip
    refine gs (fun t => XS.icmpNo X0.here hx rfl (hb hby d7_2) rfl (flt hc).2.2.1) ?_
    show Go p e below s QQ 0 0 (s₁.setTop (mkF m 5 #[.val (.int p0), .val (.int p1)] []))
    refine gs (fun t => XS.iloadN X0.here hx rfl (hb hby d7_5) rfl) ?_
    show Go p e below s QQ 0 0 (s₁.setTop (mkF m 6 #[.val (.int p0), .val (.int p1)] [(.int p0)]))
    refine gs (fun t => XS.goto X0.here hx rfl (pc0 := 6) (pc' := 10) rfl (hb hby d7_6) (by decide) (by decide)) ?_
    show Go p e below s QQ 0 0 (s₁.setTop (mkF m 10 #[.val (.int p0), .val (.int p1)] [(.int p0)]))
    exact goI X0 hx Bd.notSynchronized Bd.returns (hb hby d7_10) (by rw [← hQQ, e0]; exact ⟨by simp [hc], N0, rfl⟩) (by decide) (by decide)
theorem d8_0 : decode jdk_29_method_65_code 0 = .ok (.iload_n 0, 1) := by decide +kernel
theorem d8_1 : decode jdk_29_method_65_code 1 = .ok (.iload_n 1, 1) := by decide +kernel
theorem d8_2 : decode jdk_29_method_65_code 2 = .ok (.if_icmp .lt 7, 3) := by decide +kernel
theorem d8_5 : decode jdk_29_method_65_code 5 = .ok (.iload_n 0, 1) := by decide +kernel
theorem d8_6 : decode jdk_29_method_65_code 6 = .ok (.goto 4, 3) := by decide +kernel
theorem d8_9 : decode jdk_29_method_65_code 9 = .ok (.iload_n 1, 1) := by decide +kernel
theorem d8_10 : decode jdk_29_method_65_code 10 = .ok (.ireturn, 1) := by decide +kernel
def Qrm8 (Z : State) (p0 : Int32) (p1 : Int32) (h0 : Heap) (n0 : Nat) (v : Option Value) (h : Heap) (L : List Loc) : Prop := v = some (.int (if p0 < p1 then p1 else p0)) ∧ Fr n0 L ∧ h = h0
set_option maxRecDepth 65536 in
set_option maxHeartbeats 40000000 in
theorem rm8 (l : Launch) (Z : State) (a0 : Array Value) (hw : ∀ d ∈ tables_1, d.before a0 Z = true) (ws : List Jvm.Cond) (p0 : Int32) (p1 : Int32) (h0 : Heap) (n0 : Nat) (Z0 : n0 ≤ h0.size) :
    MetFree l (⟨"java/lang/Math", "max", "(II)I"⟩ : MethodName) (head1 (Jvm.Cond.code (⟨"java/lang/Math", "max", "(II)I"⟩ : MethodName) jdk_29_method_65_code 2 (some .int) :: ws) ({ frames := 0, cells := 0, slots := 0, locals := 0 } : Room)) (fun a U => a = #[(.int p0), (.int p1)] ∧ Z.Warmed39 U.vm ∧ U.heap = h0) (fun _ _ _ _ _ => True) (fun _ U o U' => ∃ v L, o = .returned v ∧ Qrm8 Z p0 p1 h0 n0 v U'.heap L ∧ FrameEnd U o U' L ({ frames := 0, cells := 0, slots := 0, locals := 0 } : Room).cells ({ frames := 0, cells := 0, slots := 0, locals := 0 } : Room).slots) := by
  refine MetFree.of_bodySF (Jvm.Free.JP.mathPlain rfl (by decide +kernel)) hisR ?_
  intro p e s m args below meth c s₁ Bd hml0 hP hK
  obtain ⟨rfl, hZ, hh⟩ := hP
  have hx := Bd.exec
  have hby := Bd.bytes
  have hml : c.maxLocals = 2 := hml0
  have hown : s.vm.findClass "java/lang/Math" = some m.cls := findClass_of_methodNamed Bd.named
  have hnm := (name_of_methodNamed Bd.named Bd.method).1
  have X0 : Stand p l e ({ frames := 0, cells := 0, slots := 0, locals := 0 } : Room) s m #[(.int p0), (.int p1)] below meth c s₁ [] 0 0 := Stand.of_body Bd
  have e0 : s₁.heap = h0 := by rw [← hh, Bd.state]; rfl
  have N0 := Fr.nil n0
  have ZZ := Z0
  show Go p e below s (Qrm8 Z p0 p1 h0 n0) 0 0 (s₁.setTop (entryFrame m #[(.int p0), (.int p1)] 2))
  generalize hQQ : (Qrm8 Z p0 p1 h0 n0) = QQ
  refine gs (fun t k => castTop (g' := (mkF m 0 #[.val (.int p0), .val (.int p1)] [])) (by first | (simp [entryFrame, mkF, argsToLocals, Value.category, maxLocals]; done) | rfl) k) ?_
  show Go p e below s QQ 0 0 (s₁.setTop (mkF m 0 #[.val (.int p0), .val (.int p1)] []))
  refine gs (fun t => XS.iloadN X0.here hx rfl (hb hby d8_0) rfl) ?_
  show Go p e below s QQ 0 0 (s₁.setTop (mkF m 1 #[.val (.int p0), .val (.int p1)] [(.int p0)]))
  refine gs (fun t => XS.iloadN X0.here hx rfl (hb hby d8_1) rfl) ?_
  show Go p e below s QQ 0 0 (s₁.setTop (mkF m 2 #[.val (.int p0), .val (.int p1)] [(.int p1), (.int p0)]))
  by_cases hc : p0 < p1
  · skip
    refine gs (fun t => XS.icmpYes X0.here hx rfl (pc0 := 2) (pc' := 9) rfl (hb hby d8_2) rfl (tlt hc).1 (by decide) (by decide)) ?_
    show Go p e below s QQ 0 0 (s₁.setTop (mkF m 9 #[.val (.int p0), .val (.int p1)] []))
    refine gs (fun t => XS.iloadN X0.here hx rfl (hb hby d8_9) rfl) ?_
    show Go p e below s QQ 0 0 (s₁.setTop (mkF m 10 #[.val (.int p0), .val (.int p1)] [(.int p1)]))
    exact goI X0 hx Bd.notSynchronized Bd.returns (hb hby d8_10) (by rw [← hQQ, e0]; exact ⟨by simp [hc], N0, rfl⟩) (by decide) (by decide)
  · skip
    refine gs (fun t => XS.icmpNo X0.here hx rfl (hb hby d8_2) rfl (flt hc).1) ?_
    show Go p e below s QQ 0 0 (s₁.setTop (mkF m 5 #[.val (.int p0), .val (.int p1)] []))
    refine gs (fun t => XS.iloadN X0.here hx rfl (hb hby d8_5) rfl) ?_
    show Go p e below s QQ 0 0 (s₁.setTop (mkF m 6 #[.val (.int p0), .val (.int p1)] [(.int p0)]))
    refine gs (fun t => XS.goto X0.here hx rfl (pc0 := 6) (pc' := 10) rfl (hb hby d8_6) (by decide) (by decide)) ?_
    show Go p e below s QQ 0 0 (s₁.setTop (mkF m 10 #[.val (.int p0), .val (.int p1)] [(.int p0)]))
    exact goI X0 hx Bd.notSynchronized Bd.returns (hb hby d8_10) (by rw [← hQQ, e0]; exact ⟨by simp [hc], N0, rfl⟩) (by decide) (by decide)
theorem d6_0 : decode prog_5_method_2_code 0 = .ok (.iload_n 1, 1) := by decide +kernel
theorem d6_1 : decode prog_5_method_2_code 1 = .ok (.istore_n 2, 1) := by decide +kernel
theorem d6_2 : decode prog_5_method_2_code 2 = .ok (.aload_n 0, 1) := by decide +kernel
theorem d6_3 : decode prog_5_method_2_code 3 = .ok (.getfield 7, 3) := by decide +kernel
theorem d6_6 : decode prog_5_method_2_code 6 = .ok (.iload_n 2, 1) := by decide +kernel
theorem d6_7 : decode prog_5_method_2_code 7 = .ok (.iaload, 1) := by decide +kernel
theorem d6_8 : decode prog_5_method_2_code 8 = .ok (.iload_n 2, 1) := by decide +kernel
theorem d6_9 : decode prog_5_method_2_code 9 = .ok (.if_icmp .eq 30, 3) := by decide +kernel
theorem d6_12 : decode prog_5_method_2_code 12 = .ok (.aload_n 0, 1) := by decide +kernel
theorem d6_13 : decode prog_5_method_2_code 13 = .ok (.getfield 7, 3) := by decide +kernel
theorem d6_16 : decode prog_5_method_2_code 16 = .ok (.iload_n 2, 1) := by decide +kernel
theorem d6_17 : decode prog_5_method_2_code 17 = .ok (.aload_n 0, 1) := by decide +kernel
theorem d6_18 : decode prog_5_method_2_code 18 = .ok (.getfield 7, 3) := by decide +kernel
theorem d6_21 : decode prog_5_method_2_code 21 = .ok (.aload_n 0, 1) := by decide +kernel
theorem d6_22 : decode prog_5_method_2_code 22 = .ok (.getfield 7, 3) := by decide +kernel
theorem d6_25 : decode prog_5_method_2_code 25 = .ok (.iload_n 2, 1) := by decide +kernel
theorem d6_26 : decode prog_5_method_2_code 26 = .ok (.iaload, 1) := by decide +kernel
theorem d6_27 : decode prog_5_method_2_code 27 = .ok (.iaload, 1) := by decide +kernel
theorem d6_28 : decode prog_5_method_2_code 28 = .ok (.iastore, 1) := by decide +kernel
theorem d6_29 : decode prog_5_method_2_code 29 = .ok (.aload_n 0, 1) := by decide +kernel
theorem d6_30 : decode prog_5_method_2_code 30 = .ok (.getfield 7, 3) := by decide +kernel
theorem d6_33 : decode prog_5_method_2_code 33 = .ok (.iload_n 2, 1) := by decide +kernel
theorem d6_34 : decode prog_5_method_2_code 34 = .ok (.iaload, 1) := by decide +kernel
theorem d6_35 : decode prog_5_method_2_code 35 = .ok (.istore_n 2, 1) := by decide +kernel
theorem d6_36 : decode prog_5_method_2_code 36 = .ok (.goto (-34), 3) := by decide +kernel
theorem d6_39 : decode prog_5_method_2_code 39 = .ok (.iload_n 2, 1) := by decide +kernel
theorem d6_40 : decode prog_5_method_2_code 40 = .ok (.ireturn, 1) := by decide +kernel
theorem pn_6 : plainName "com/example/seshat/seshat/DisjointSets" = true := by first | (simp [plainName, overriddenIn]; done) | decide +kernel
def Qrm6 (Z : State) (r0 : Addr) (x : Nat) (pa : Addr) (s0 : OS) (h0 : Heap) (n0 : Nat) (v : Option Value) (h : Heap) (L : List Loc) : Prop := v = some (.int (oI (own_rt s0 x))) ∧ Fr n0 L ∧ Keep h0 h [pa] ∧ ∃ s1 : OS, (∀ i, i < 5 → own_rt s1 i = own_rt s0 i) ∧ Arf Z h pa .int 5 (own_pf s1)
set_option maxRecDepth 65536 in
set_option maxHeartbeats 40000000 in
theorem rm6 (l : Launch) (Z : State) (a0 : Array Value) (hw : ∀ d ∈ tables_1, d.before a0 Z = true) (ws : List Jvm.Cond) (r0 : Addr) (x : Nat) (pa : Addr) (s0 : OS) (h0 : Heap) (n0 : Nat) (Z0 : n0 ≤ h0.size) (F_parents_r0 : Fld Z h0 r0 "com/example/seshat/seshat/DisjointSets" "parents" "[I" (.ref pa)) (V_pa : Arf Z h0 pa .int 5 (own_pf s0)) (ge_pa : n0 ≤ pa) (ne_r0_pa : r0 ≠ pa) (hx5 : x < 5) :
    MetFree l (⟨"com/example/seshat/seshat/DisjointSets", "root", "(I)I"⟩ : MethodName) (head1 (Jvm.Cond.code (⟨"com/example/seshat/seshat/DisjointSets", "root", "(I)I"⟩ : MethodName) prog_5_method_2_code 3 (some .int) :: ws) ({ frames := 0, cells := 0, slots := 0, locals := 0 } : Room)) (fun a U => a = #[(.ref r0), (.int (oI x))] ∧ Z.Warmed39 U.vm ∧ U.heap = h0) (fun _ _ _ _ _ => True) (fun _ U o U' => ∃ v L, o = .returned v ∧ Qrm6 Z r0 x pa s0 h0 n0 v U'.heap L ∧ FrameEnd U o U' L ({ frames := 0, cells := 0, slots := 0, locals := 0 } : Room).cells ({ frames := 0, cells := 0, slots := 0, locals := 0 } : Room).slots) := by
  refine MetFree.of_bodySF (plainFor_of_name pn_6) hisR ?_
  intro p e s m args below meth c s₁ Bd hml0 hP hK
  obtain ⟨rfl, hZ, hh⟩ := hP
  have hx := Bd.exec
  have hby := Bd.bytes
  have hml : c.maxLocals = 3 := hml0
  have hown : s.vm.findClass "com/example/seshat/seshat/DisjointSets" = some m.cls := findClass_of_methodNamed Bd.named
  have hnm := (name_of_methodNamed Bd.named Bd.method).1
  have X0 : Stand p l e ({ frames := 0, cells := 0, slots := 0, locals := 0 } : Room) s m #[(.ref r0), (.int (oI x))] below meth c s₁ [] 0 0 := Stand.of_body Bd
  have e0 : s₁.heap = h0 := by rw [← hh, Bd.state]; rfl
  have N0 := Fr.nil n0
  have ZZ := Z0
  have KK : Keep h0 h0 [pa] := Keep.refl h0 _
  show Go p e below s (Qrm6 Z r0 x pa s0 h0 n0) 0 0 (s₁.setTop (entryFrame m #[(.ref r0), (.int (oI x))] 3))
  generalize hQQ : (Qrm6 Z r0 x pa s0 h0 n0) = QQ
  refine gs (fun t k => castTop (g' := (mkF m 0 #[.val (.ref r0), .val (.int (oI x)), .unset] [])) (by first | (simp [entryFrame, mkF, argsToLocals, Value.category, maxLocals]; done) | rfl) k) ?_
  show Go p e below s QQ 0 0 (s₁.setTop (mkF m 0 #[.val (.ref r0), .val (.int (oI x)), .unset] []))
  refine gs (fun t => XS.iloadN X0.here hx rfl (hb hby d6_0) rfl) ?_
  show Go p e below s QQ 0 0 (s₁.setTop (mkF m 1 #[.val (.ref r0), .val (.int (oI x)), .unset] [(.int (oI x))]))
  refine gs (fun t => XS.istoreN X0.here hx rfl (hb hby d6_1) rfl (l' := #[.val (.ref r0), .val (.int (oI x)), .val (.int (oI x))]) rfl) ?_
  show Go p e below s QQ 0 0 (s₁.setTop (mkF m 2 #[.val (.ref r0), .val (.int (oI x)), .val (.int (oI x))] []))
  have loop : ∀ (k : Nat) (s1 : OS) (x1 : Nat) (T1 : State) (h1 : Heap) (lc1 : List Loc) (X1 : Stand p l e ({ frames := 0, cells := 0, slots := 0, locals := 0 } : Room) s m #[(.ref r0), (.int (oI x))] below meth c T1 lc1 0 0) (N1 : Fr n0 lc1) (e1 : T1.heap = h1) (ZZ : n0 ≤ h1.size) (KK : Keep h0 h1 [pa]) (F_parents_r0 : Fld Z h1 r0 "com/example/seshat/seshat/DisjointSets" "parents" "[I" (.ref pa)) (V_pa : Arf Z h1 pa .int 5 (own_pf s1)) (hx1 : x1 < 5) (hk : x1 < k) (hrt : ∀ i, i < 5 → own_rt s1 i = own_rt s0 i) (hrx : own_rt s1 x1 = own_rt s0 x), Go p e below s QQ 0 0 (T1.setTop (mkF m 2 #[.val (.ref r0), .val (.int (oI x)), .val (.int (oI x1))] [])) := by
    intro k
    induction k with
    | zero =>
      intro s1 x1 T1 h1 lc1 X1 N1 e1 ZZ KK F_parents_r0 V_pa hx1 hk hrt hrx
      exact absurd hk (Nat.not_lt_zero _)
    | succ k ih =>
      intro s1 x1 T1 h1 lc1 X1 N1 e1 ZZ KK F_parents_r0 V_pa hx1 hk hrt hrx
      refine gs (fun t => XS.aloadN X1.here hx rfl (hb hby d6_2) rfl rfl) ?_
      show Go p e below s QQ 0 0 (T1.setTop (mkF m 3 #[.val (.ref r0), .val (.int (oI x)), .val (.int (oI x1))] [(.ref r0)]))
      obtain ⟨T2, X2, e2, st2⟩ := getF X1 hx hZ hown (host := "") (Or.inl (hw _ (List.mem_of_getElem? (i := 10) rfl))) Via.refl e1 F_parents_r0 (g := (mkF m 3 #[.val (.ref r0), .val (.int (oI x)), .val (.int (oI x1))] [(.ref r0)])) rfl rfl (hb hby d6_3)
      refine gs st2 ?_
      show Go p e below s QQ 0 0 (T2.setTop (mkF m 6 #[.val (.ref r0), .val (.int (oI x)), .val (.int (oI x1))] [(.ref pa)]))
      refine gs (fun t => XS.iloadN X2.here hx rfl (hb hby d6_6) rfl) ?_
      show Go p e below s QQ 0 0 (T2.setTop (mkF m 7 #[.val (.ref r0), .val (.int (oI x)), .val (.int (oI x1))] [(.int (oI x1)), (.ref pa)]))
      have hg1 := own_g5 s1 hx1
      refine gs (fun t => ldIf X2 hx hZ e2 V_pa (j := (oI x1)) (v := (.int (oI (own_g s1 x1)))) (oI_in hx1) (own_pfat s1 hx1) (g := (mkF m 7 #[.val (.ref r0), .val (.int (oI x)), .val (.int (oI x1))] [(.int (oI x1)), (.ref pa)])) rfl rfl (hb hby d6_7) t) ?_
      show Go p e below s QQ 0 0 (T2.setTop (mkF m 8 #[.val (.ref r0), .val (.int (oI x)), .val (.int (oI x1))] [(.int (oI (own_g s1 x1)))]))
      refine gs (fun t => XS.iloadN X2.here hx rfl (hb hby d6_8) rfl) ?_
      show Go p e below s QQ 0 0 (T2.setTop (mkF m 9 #[.val (.ref r0), .val (.int (oI x)), .val (.int (oI x1))] [(.int (oI x1)), (.int (oI (own_g s1 x1)))]))
      by_cases hc : (oI (own_g s1 x1)) = (oI x1)
      · skip
        refine gs (fun t => XS.icmpYes X2.here hx rfl (pc0 := 9) (pc' := 39) rfl (hb hby d6_9) rfl (teq hc).1 (by decide) (by decide)) ?_
        show Go p e below s QQ 0 0 (T2.setTop (mkF m 39 #[.val (.ref r0), .val (.int (oI x)), .val (.int (oI x1))] []))
        have q1 := oI_i hg1 hx1 hc
        have q2 := own_a4 s1 ⟨x1, hx1⟩ q1
        refine gs (fun t => XS.iloadN X2.here hx rfl (hb hby d6_39) rfl) ?_
        show Go p e below s QQ 0 0 (T2.setTop (mkF m 40 #[.val (.ref r0), .val (.int (oI x)), .val (.int (oI x1))] [(.int (oI x1))]))
        rw [show (oI x1) = (oI (own_rt s0 x)) from by rw [← hrx]; exact congrArg oI q2.symm]
        show Go p e below s QQ 0 0 (T2.setTop (mkF m 40 #[.val (.ref r0), .val (.int (oI x)), .val (.int (oI (own_rt s0 x)))] [(.int (oI (own_rt s0 x)))]))
        exact goI X2 hx Bd.notSynchronized Bd.returns (hb hby d6_40) (by rw [← hQQ, e2]; exact ⟨rfl, N1, KK, s1, hrt, V_pa⟩) (by decide) (by decide)
      · skip
        refine gs (fun t => XS.icmpNo X2.here hx rfl (hb hby d6_9) rfl (feq hc).1) ?_
        show Go p e below s QQ 0 0 (T2.setTop (mkF m 12 #[.val (.ref r0), .val (.int (oI x)), .val (.int (oI x1))] []))
        have q1 : ¬ own_g s1 x1 = x1 := fun q => hc (congrArg oI q)
        have q2 := fun i (hi : i < 5) => own_a3 s1 ⟨x1, hx1⟩ ⟨i, hi⟩ q1
        have hg2 := own_g5 s1 hg1
        obtain ⟨-, q3, q4⟩ := q2 0 (by decide)
        simp only at q3 q4
        refine gs (fun t => XS.aloadN X2.here hx rfl (hb hby d6_12) rfl rfl) ?_
        show Go p e below s QQ 0 0 (T2.setTop (mkF m 13 #[.val (.ref r0), .val (.int (oI x)), .val (.int (oI x1))] [(.ref r0)]))
        obtain ⟨T3, X3, e3, st3⟩ := getF X2 hx hZ hown (host := "") (Or.inl (hw _ (List.mem_of_getElem? (i := 10) rfl))) Via.refl e2 F_parents_r0 (g := (mkF m 13 #[.val (.ref r0), .val (.int (oI x)), .val (.int (oI x1))] [(.ref r0)])) rfl rfl (hb hby d6_13)
        refine gs st3 ?_
        show Go p e below s QQ 0 0 (T3.setTop (mkF m 16 #[.val (.ref r0), .val (.int (oI x)), .val (.int (oI x1))] [(.ref pa)]))
        refine gs (fun t => XS.iloadN X3.here hx rfl (hb hby d6_16) rfl) ?_
        show Go p e below s QQ 0 0 (T3.setTop (mkF m 17 #[.val (.ref r0), .val (.int (oI x)), .val (.int (oI x1))] [(.int (oI x1)), (.ref pa)]))
        refine gs (fun t => XS.aloadN X3.here hx rfl (hb hby d6_17) rfl rfl) ?_
        show Go p e below s QQ 0 0 (T3.setTop (mkF m 18 #[.val (.ref r0), .val (.int (oI x)), .val (.int (oI x1))] [(.ref r0), (.int (oI x1)), (.ref pa)]))
        obtain ⟨T4, X4, e4, st4⟩ := getF X3 hx hZ hown (host := "") (Or.inl (hw _ (List.mem_of_getElem? (i := 10) rfl))) Via.refl e3 F_parents_r0 (g := (mkF m 18 #[.val (.ref r0), .val (.int (oI x)), .val (.int (oI x1))] [(.ref r0), (.int (oI x1)), (.ref pa)])) rfl rfl (hb hby d6_18)
        refine gs st4 ?_
        show Go p e below s QQ 0 0 (T4.setTop (mkF m 21 #[.val (.ref r0), .val (.int (oI x)), .val (.int (oI x1))] [(.ref pa), (.int (oI x1)), (.ref pa)]))
        refine gs (fun t => XS.aloadN X4.here hx rfl (hb hby d6_21) rfl rfl) ?_
        show Go p e below s QQ 0 0 (T4.setTop (mkF m 22 #[.val (.ref r0), .val (.int (oI x)), .val (.int (oI x1))] [(.ref r0), (.ref pa), (.int (oI x1)), (.ref pa)]))
        obtain ⟨T5, X5, e5, st5⟩ := getF X4 hx hZ hown (host := "") (Or.inl (hw _ (List.mem_of_getElem? (i := 10) rfl))) Via.refl e4 F_parents_r0 (g := (mkF m 22 #[.val (.ref r0), .val (.int (oI x)), .val (.int (oI x1))] [(.ref r0), (.ref pa), (.int (oI x1)), (.ref pa)])) rfl rfl (hb hby d6_22)
        refine gs st5 ?_
        show Go p e below s QQ 0 0 (T5.setTop (mkF m 25 #[.val (.ref r0), .val (.int (oI x)), .val (.int (oI x1))] [(.ref pa), (.ref pa), (.int (oI x1)), (.ref pa)]))
        refine gs (fun t => XS.iloadN X5.here hx rfl (hb hby d6_25) rfl) ?_
        show Go p e below s QQ 0 0 (T5.setTop (mkF m 26 #[.val (.ref r0), .val (.int (oI x)), .val (.int (oI x1))] [(.int (oI x1)), (.ref pa), (.ref pa), (.int (oI x1)), (.ref pa)]))
        refine gs (fun t => ldIf X5 hx hZ e5 V_pa (j := (oI x1)) (v := (.int (oI (own_g s1 x1)))) (oI_in hx1) (own_pfat s1 hx1) (g := (mkF m 26 #[.val (.ref r0), .val (.int (oI x)), .val (.int (oI x1))] [(.int (oI x1)), (.ref pa), (.ref pa), (.int (oI x1)), (.ref pa)])) rfl rfl (hb hby d6_26) t) ?_
        show Go p e below s QQ 0 0 (T5.setTop (mkF m 27 #[.val (.ref r0), .val (.int (oI x)), .val (.int (oI x1))] [(.int (oI (own_g s1 x1))), (.ref pa), (.int (oI x1)), (.ref pa)]))
        refine gs (fun t => ldIf X5 hx hZ e5 V_pa (j := (oI (own_g s1 x1))) (v := (.int (oI (own_g s1 (own_g s1 x1))))) (oI_in hg1) (own_pfat s1 hg1) (g := (mkF m 27 #[.val (.ref r0), .val (.int (oI x)), .val (.int (oI x1))] [(.int (oI (own_g s1 x1))), (.ref pa), (.int (oI x1)), (.ref pa)])) rfl rfl (hb hby d6_27) t) ?_
        show Go p e below s QQ 0 0 (T5.setTop (mkF m 28 #[.val (.ref r0), .val (.int (oI x)), .val (.int (oI x1))] [(.int (oI (own_g s1 (own_g s1 x1)))), (.int (oI x1)), (.ref pa)]))
        obtain ⟨T6, h6, X6, e6, W6, V6, st6⟩ := stIf X5 hx hZ e5 V_pa (j := (oI x1)) (oI_in hx1) (g := (mkF m 28 #[.val (.ref r0), .val (.int (oI x)), .val (.int (oI x1))] [(.int (oI (own_g s1 (own_g s1 x1)))), (.int (oI x1)), (.ref pa)])) rfl rfl (hb hby d6_28)
        replace N1 := Fr.snoc X6 N1 ge_pa
        refine gs st6 ?_
        show Go p e below s QQ 0 0 (T6.setTop (mkF m 29 #[.val (.ref r0), .val (.int (oI x)), .val (.int (oI x1))] []))
        replace F_parents_r0 := F_parents_r0.other W6 (Or.inl ne_r0_pa)
        replace ZZ : n0 ≤ h6.size := by rw [W6.size]; exact ZZ
        replace KK := KK.wr W6 (Or.inl (by simp))
        replace V_pa : Arf Z h6 pa .int 5 (updv (own_pf s1) (oI x1).toNatClampNeg (.int (oI (own_g s1 (own_g s1 x1))))) := V6
        replace V_pa : Arf Z h6 pa .int 5 (own_pf (own_st s1 x1 (own_g s1 (own_g s1 x1)))) := V_pa.congr (own_upd s1 hx1 (Nat.le_of_lt q3))
        refine gs (fun t => XS.aloadN X6.here hx rfl (hb hby d6_29) rfl rfl) ?_
        show Go p e below s QQ 0 0 (T6.setTop (mkF m 30 #[.val (.ref r0), .val (.int (oI x)), .val (.int (oI x1))] [(.ref r0)]))
        obtain ⟨T7, X7, e7, st7⟩ := getF X6 hx hZ hown (host := "") (Or.inl (hw _ (List.mem_of_getElem? (i := 10) rfl))) Via.refl e6 F_parents_r0 (g := (mkF m 30 #[.val (.ref r0), .val (.int (oI x)), .val (.int (oI x1))] [(.ref r0)])) rfl rfl (hb hby d6_30)
        refine gs st7 ?_
        show Go p e below s QQ 0 0 (T7.setTop (mkF m 33 #[.val (.ref r0), .val (.int (oI x)), .val (.int (oI x1))] [(.ref pa)]))
        refine gs (fun t => XS.iloadN X7.here hx rfl (hb hby d6_33) rfl) ?_
        show Go p e below s QQ 0 0 (T7.setTop (mkF m 34 #[.val (.ref r0), .val (.int (oI x)), .val (.int (oI x1))] [(.int (oI x1)), (.ref pa)]))
        have q5 := own_a2 s1 ⟨x1, hx1⟩ ⟨x1, hx1⟩ ⟨(own_g s1 (own_g s1 x1)), hg2⟩ (Nat.le_of_lt q3)
        simp only [if_true] at q5
        refine gs (fun t => ldIf X7 hx hZ e7 V_pa (j := (oI x1)) (v := (.int (oI (own_g s1 (own_g s1 x1))))) (oI_in hx1) (by rw [own_pfat _ hx1, q5]) (g := (mkF m 34 #[.val (.ref r0), .val (.int (oI x)), .val (.int (oI x1))] [(.int (oI x1)), (.ref pa)])) rfl rfl (hb hby d6_34) t) ?_
        show Go p e below s QQ 0 0 (T7.setTop (mkF m 35 #[.val (.ref r0), .val (.int (oI x)), .val (.int (oI x1))] [(.int (oI (own_g s1 (own_g s1 x1))))]))
        refine gs (fun t => XS.istoreN X7.here hx rfl (hb hby d6_35) rfl (l' := #[.val (.ref r0), .val (.int (oI x)), .val (.int (oI (own_g s1 (own_g s1 x1))))]) rfl) ?_
        show Go p e below s QQ 0 0 (T7.setTop (mkF m 36 #[.val (.ref r0), .val (.int (oI x)), .val (.int (oI (own_g s1 (own_g s1 x1))))] []))
        refine gs (fun t => XS.goto X7.here hx rfl (pc0 := 36) (pc' := 2) rfl (hb hby d6_36) (by decide) (by decide)) ?_
        show Go p e below s QQ 0 0 (T7.setTop (mkF m 2 #[.val (.ref r0), .val (.int (oI x)), .val (.int (oI (own_g s1 (own_g s1 x1))))] []))
        exact ih (own_st s1 x1 (own_g s1 (own_g s1 x1))) (own_g s1 (own_g s1 x1)) _ _ _ (X7) N1 e7 ZZ KK F_parents_r0 V_pa hg2 (by omega) (fun i hi => ((q2 i hi).1).trans (hrt i hi)) (((q2 _ hg2).1).trans (q4.trans hrx))
  exact loop 5 s0 x _ _ _ (X0) N0 e0 ZZ KK F_parents_r0 V_pa hx5 hx5 (fun _ _ => rfl) rfl
theorem d5_0 : decode prog_5_method_3_code 0 = .ok (.aload_n 0, 1) := by decide +kernel
theorem d5_1 : decode prog_5_method_3_code 1 = .ok (.iload_n 1, 1) := by decide +kernel
theorem d5_2 : decode prog_5_method_3_code 2 = .ok (.invokevirtual 13, 3) := by decide +kernel
theorem d5_5 : decode prog_5_method_3_code 5 = .ok (.istore_n 3, 1) := by decide +kernel
theorem d5_6 : decode prog_5_method_3_code 6 = .ok (.aload_n 0, 1) := by decide +kernel
theorem d5_7 : decode prog_5_method_3_code 7 = .ok (.iload_n 2, 1) := by decide +kernel
theorem d5_8 : decode prog_5_method_3_code 8 = .ok (.invokevirtual 13, 3) := by decide +kernel
theorem d5_11 : decode prog_5_method_3_code 11 = .ok (.istore 4, 2) := by decide +kernel
theorem d5_13 : decode prog_5_method_3_code 13 = .ok (.iload_n 3, 1) := by decide +kernel
theorem d5_14 : decode prog_5_method_3_code 14 = .ok (.iload 4, 2) := by decide +kernel
theorem d5_16 : decode prog_5_method_3_code 16 = .ok (.invokestatic 17, 3) := by decide +kernel
theorem d5_19 : decode prog_5_method_3_code 19 = .ok (.istore 5, 2) := by decide +kernel
theorem d5_21 : decode prog_5_method_3_code 21 = .ok (.aload_n 0, 1) := by decide +kernel
theorem d5_22 : decode prog_5_method_3_code 22 = .ok (.getfield 7, 3) := by decide +kernel
theorem d5_25 : decode prog_5_method_3_code 25 = .ok (.iload_n 3, 1) := by decide +kernel
theorem d5_26 : decode prog_5_method_3_code 26 = .ok (.iload 4, 2) := by decide +kernel
theorem d5_28 : decode prog_5_method_3_code 28 = .ok (.invokestatic 23, 3) := by decide +kernel
theorem d5_31 : decode prog_5_method_3_code 31 = .ok (.iload 5, 2) := by decide +kernel
theorem d5_33 : decode prog_5_method_3_code 33 = .ok (.iastore, 1) := by decide +kernel
theorem d5_34 : decode prog_5_method_3_code 34 = .ok (.iload 5, 2) := by decide +kernel
theorem d5_36 : decode prog_5_method_3_code 36 = .ok (.ireturn, 1) := by decide +kernel
theorem pn_5 : plainName "com/example/seshat/seshat/DisjointSets" = true := by first | (simp [plainName, overriddenIn]; done) | decide +kernel
def Qrm5 (Z : State) (r0 : Addr) (x : Nat) (y : Nat) (pa : Addr) (s0 : OS) (h0 : Heap) (n0 : Nat) (v : Option Value) (h : Heap) (L : List Loc) : Prop := ∃ z : Int32, v = some (.int z) ∧ Fr n0 L ∧ Keep h0 h [pa] ∧ ∃ s1 : OS, (∀ i, i < 5 → own_rt s1 i = if own_rt s0 i = own_rt s0 x ∨ own_rt s0 i = own_rt s0 y then min (own_rt s0 x) (own_rt s0 y) else own_rt s0 i) ∧ Arf Z h pa .int 5 (own_pf s1)
set_option maxRecDepth 65536 in
set_option maxHeartbeats 40000000 in
theorem rm5 (l : Launch) (Z : State) (a0 : Array Value) (hw : ∀ d ∈ tables_1, d.before a0 Z = true) (ws : List Jvm.Cond) (r0 : Addr) (x : Nat) (y : Nat) (pa : Addr) (s0 : OS) (h0 : Heap) (n0 : Nat) (Z0 : n0 ≤ h0.size) (F_parents_r0 : Fld Z h0 r0 "com/example/seshat/seshat/DisjointSets" "parents" "[I" (.ref pa)) (E_r0 : Exa Z h0 r0 "com/example/seshat/seshat/DisjointSets") (V_pa : Arf Z h0 pa .int 5 (own_pf s0)) (ge_pa : n0 ≤ pa) (ne_r0_pa : r0 ≠ pa) (hx5 : x < 5) (hy5 : y < 5) :
    MetFree l (⟨"com/example/seshat/seshat/DisjointSets", "join", "(II)I"⟩ : MethodName) (head1 (Jvm.Cond.code (⟨"com/example/seshat/seshat/DisjointSets", "join", "(II)I"⟩ : MethodName) prog_5_method_3_code 6 (some .int) :: ws) ({ frames := 1, cells := 0, slots := 0, locals := 14 } : Room)) (fun a U => a = #[(.ref r0), (.int (oI x)), (.int (oI y))] ∧ Z.Warmed39 U.vm ∧ U.heap = h0) (fun _ _ _ _ _ => True) (fun _ U o U' => ∃ v L, o = .returned v ∧ Qrm5 Z r0 x y pa s0 h0 n0 v U'.heap L ∧ FrameEnd U o U' L ({ frames := 1, cells := 0, slots := 0, locals := 14 } : Room).cells ({ frames := 1, cells := 0, slots := 0, locals := 14 } : Room).slots) := by
  refine MetFree.of_bodySF (plainFor_of_name pn_5) hisR ?_
  intro p e s m args below meth c s₁ Bd hml0 hP hK
  obtain ⟨rfl, hZ, hh⟩ := hP
  have hx := Bd.exec
  have hby := Bd.bytes
  have hml : c.maxLocals = 6 := hml0
  have hown : s.vm.findClass "com/example/seshat/seshat/DisjointSets" = some m.cls := findClass_of_methodNamed Bd.named
  have hnm := (name_of_methodNamed Bd.named Bd.method).1
  have X0 : Stand p l e ({ frames := 1, cells := 0, slots := 0, locals := 14 } : Room) s m #[(.ref r0), (.int (oI x)), (.int (oI y))] below meth c s₁ [] 0 0 := Stand.of_body Bd
  have e0 : s₁.heap = h0 := by rw [← hh, Bd.state]; rfl
  have N0 := Fr.nil n0
  have ZZ := Z0
  have KK : Keep h0 h0 [pa] := Keep.refl h0 _
  show Go p e below s (Qrm5 Z r0 x y pa s0 h0 n0) 0 0 (s₁.setTop (entryFrame m #[(.ref r0), (.int (oI x)), (.int (oI y))] 6))
  generalize hQQ : (Qrm5 Z r0 x y pa s0 h0 n0) = QQ
  refine gs (fun t k => castTop (g' := (mkF m 0 #[.val (.ref r0), .val (.int (oI x)), .val (.int (oI y)), .unset, .unset, .unset] [])) (by first | (simp [entryFrame, mkF, argsToLocals, Value.category, maxLocals]; done) | rfl) k) ?_
  show Go p e below s QQ 0 0 (s₁.setTop (mkF m 0 #[.val (.ref r0), .val (.int (oI x)), .val (.int (oI y)), .unset, .unset, .unset] []))
  refine gs (fun t => XS.aloadN X0.here hx rfl (hb hby d5_0) rfl rfl) ?_
  show Go p e below s QQ 0 0 (s₁.setTop (mkF m 1 #[.val (.ref r0), .val (.int (oI x)), .val (.int (oI y)), .unset, .unset, .unset] [(.ref r0)]))
  refine gs (fun t => XS.iloadN X0.here hx rfl (hb hby d5_1) rfl) ?_
  show Go p e below s QQ 0 0 (s₁.setTop (mkF m 2 #[.val (.ref r0), .val (.int (oI x)), .val (.int (oI y)), .unset, .unset, .unset] [(.int (oI x)), (.ref r0)]))
  obtain ⟨cq8, kq8, q8a, q8b, q8c⟩ := isOf hZ e0 E_r0
  obtain ⟨_, _, ⟨T8, L8, k8, n8⟩, -, X8, ⟨Lc8, hQ8, l8, y8, z8⟩, st8⟩ := X0.virtualBack hx (y := (⟨"com/example/seshat/seshat/DisjointSets", "root", "(I)I"⟩ : MethodName)) (z := (⟨"com/example/seshat/seshat/DisjointSets", "root", "(I)I"⟩ : MethodName)) hown (mvT hZ (hw _ (List.mem_of_getElem? (i := 25) rfl))) (mvT hZ (hw _ (List.mem_of_getElem? (i := 26) rfl))) (notFace_of_selects (args := #[]) (mvT hZ (hw _ (List.mem_of_getElem? (i := 28) rfl)))) (mvT hZ (hw _ (List.mem_of_getElem? (i := 28) rfl))) (mvT hZ (hw _ (List.mem_of_getElem? (i := 27) rfl))) (by decide) (backOf (W := 0) (rm6 l Z a0 hw [] r0 x pa s0 h0 n0 ZZ F_parents_r0 V_pa ge_pa ne_r0_pa hx5) hZ (hw _ (List.mem_of_getElem? (i := 29) rfl)) (hw _ (List.mem_of_getElem? (i := 3) rfl)) (by decide) (by decide)) q8a q8c (g := (mkF m 2 #[.val (.ref r0), .val (.int (oI x)), .val (.int (oI y)), .unset, .unset, .unset] [(.int (oI x)), (.ref r0)])) rfl (by rw [hml]; rfl) (Steps.refl _) (argsL := [(.int (oI x))]) (rest := []) (lenOf pd_0 rfl) rfl (by show 2 * 0 + _ ≤ _; exact Nat.le_of_eq rfl) (hb hby d5_2) (fun _ _ => ⟨rfl, e0, (by decide : 0 + 0 ≤ _), (by decide : 0 + 0 ≤ _)⟩)
  dsimp only [Pt.U, Pt.locs, Pt.cells, Pt.slots] at X8 l8 y8 z8 st8 hQ8
  subst l8 y8 z8
  obtain ⟨rfl, N8q, K8, s2, hs2, Vn8⟩ := hQ8
  replace N0 := Fr.app N0 N8q
  refine gt st8 ?_
  show Go p e below s QQ 0 0 (T8.setTop (mkF m 5 #[.val (.ref r0), .val (.int (oI x)), .val (.int (oI y)), .unset, .unset, .unset] [(.int (oI (own_rt s0 x)))]))
  replace F_parents_r0 := F_parents_r0.keep K8 (ninS ne_r0_pa nin0)
  replace E_r0 := E_r0.keep K8
  replace ZZ := Nat.le_trans ZZ K8.1
  replace KK := KK.trans K8 (allS (Or.inl (by simp)) all0)
  have V_pa := Vn8
  refine gs (fun t => XS.istoreN X8.here hx rfl (hb hby d5_5) rfl (l' := #[.val (.ref r0), .val (.int (oI x)), .val (.int (oI y)), .val (.int (oI (own_rt s0 x))), .unset, .unset]) rfl) ?_
  show Go p e below s QQ 0 0 (T8.setTop (mkF m 6 #[.val (.ref r0), .val (.int (oI x)), .val (.int (oI y)), .val (.int (oI (own_rt s0 x))), .unset, .unset] []))
  refine gs (fun t => XS.aloadN X8.here hx rfl (hb hby d5_6) rfl rfl) ?_
  show Go p e below s QQ 0 0 (T8.setTop (mkF m 7 #[.val (.ref r0), .val (.int (oI x)), .val (.int (oI y)), .val (.int (oI (own_rt s0 x))), .unset, .unset] [(.ref r0)]))
  refine gs (fun t => XS.iloadN X8.here hx rfl (hb hby d5_7) rfl) ?_
  show Go p e below s QQ 0 0 (T8.setTop (mkF m 8 #[.val (.ref r0), .val (.int (oI x)), .val (.int (oI y)), .val (.int (oI (own_rt s0 x))), .unset, .unset] [(.int (oI y)), (.ref r0)]))
  obtain ⟨cq9, kq9, q9a, q9b, q9c⟩ := isOf hZ rfl E_r0
  obtain ⟨_, _, ⟨T9, L9, k9, n9⟩, -, X9, ⟨Lc9, hQ9, l9, y9, z9⟩, st9⟩ := X8.virtualBack hx (y := (⟨"com/example/seshat/seshat/DisjointSets", "root", "(I)I"⟩ : MethodName)) (z := (⟨"com/example/seshat/seshat/DisjointSets", "root", "(I)I"⟩ : MethodName)) hown (mvT hZ (hw _ (List.mem_of_getElem? (i := 25) rfl))) (mvT hZ (hw _ (List.mem_of_getElem? (i := 26) rfl))) (notFace_of_selects (args := #[]) (mvT hZ (hw _ (List.mem_of_getElem? (i := 28) rfl)))) (mvT hZ (hw _ (List.mem_of_getElem? (i := 28) rfl))) (mvT hZ (hw _ (List.mem_of_getElem? (i := 27) rfl))) (by decide) (backOf (W := 0) (rm6 l Z a0 hw [] r0 y pa s2 T8.heap n0 ZZ F_parents_r0 V_pa ge_pa ne_r0_pa hy5) hZ (hw _ (List.mem_of_getElem? (i := 29) rfl)) (hw _ (List.mem_of_getElem? (i := 3) rfl)) (by decide) (by decide)) q9a q9c (g := (mkF m 8 #[.val (.ref r0), .val (.int (oI x)), .val (.int (oI y)), .val (.int (oI (own_rt s0 x))), .unset, .unset] [(.int (oI y)), (.ref r0)])) rfl (by rw [hml]; rfl) (Steps.refl _) (argsL := [(.int (oI y))]) (rest := []) (lenOf pd_0 rfl) rfl (by show 2 * 0 + _ ≤ _; exact Nat.le_of_eq rfl) (hb hby d5_8) (fun _ _ => ⟨rfl, rfl, (by decide : 0 + 0 ≤ _), (by decide : 0 + 0 ≤ _)⟩)
  dsimp only [Pt.U, Pt.locs, Pt.cells, Pt.slots] at X9 l9 y9 z9 st9 hQ9
  subst l9 y9 z9
  obtain ⟨rfl, N9q, K9, s3, hs3, Vn9⟩ := hQ9
  replace N0 := Fr.app N0 N9q
  refine gt st9 ?_
  show Go p e below s QQ 0 0 (T9.setTop (mkF m 11 #[.val (.ref r0), .val (.int (oI x)), .val (.int (oI y)), .val (.int (oI (own_rt s0 x))), .unset, .unset] [(.int (oI (own_rt s2 y)))]))
  replace F_parents_r0 := F_parents_r0.keep K9 (ninS ne_r0_pa nin0)
  replace E_r0 := E_r0.keep K9
  replace ZZ := Nat.le_trans ZZ K9.1
  replace KK := KK.trans K9 (allS (Or.inl (by simp)) all0)
  have V_pa := Vn9
  rw [show (oI (own_rt s2 y)) = (oI (own_rt s0 y)) from by rw [hs2 y hy5]]
  show Go p e below s QQ 0 0 (T9.setTop (mkF m 11 #[.val (.ref r0), .val (.int (oI x)), .val (.int (oI y)), .val (.int (oI (own_rt s0 x))), .unset, .unset] [(.int (oI (own_rt s0 y)))]))
  refine gs (fun t => XS.istore X9.here hx rfl (hb hby d5_11) rfl (l' := #[.val (.ref r0), .val (.int (oI x)), .val (.int (oI y)), .val (.int (oI (own_rt s0 x))), .val (.int (oI (own_rt s0 y))), .unset]) rfl) ?_
  show Go p e below s QQ 0 0 (T9.setTop (mkF m 13 #[.val (.ref r0), .val (.int (oI x)), .val (.int (oI y)), .val (.int (oI (own_rt s0 x))), .val (.int (oI (own_rt s0 y))), .unset] []))
  refine gs (fun t => XS.iloadN X9.here hx rfl (hb hby d5_13) rfl) ?_
  show Go p e below s QQ 0 0 (T9.setTop (mkF m 14 #[.val (.ref r0), .val (.int (oI x)), .val (.int (oI y)), .val (.int (oI (own_rt s0 x))), .val (.int (oI (own_rt s0 y))), .unset] [(.int (oI (own_rt s0 x)))]))
  refine gs (fun t => XS.iload X9.here hx rfl (hb hby d5_14) rfl) ?_
  show Go p e below s QQ 0 0 (T9.setTop (mkF m 16 #[.val (.ref r0), .val (.int (oI x)), .val (.int (oI y)), .val (.int (oI (own_rt s0 x))), .val (.int (oI (own_rt s0 y))), .unset] [(.int (oI (own_rt s0 y))), (.int (oI (own_rt s0 x)))]))
  have ha := own_r5 s0 hx5
  have hb2 := own_r5 s0 hy5
  obtain ⟨_, _, ⟨T10, L10, k10, n10⟩, -, X10, ⟨Lc10, hQ10, l10, y10, z10⟩, st10⟩ := Jvm.LawKit.callS X9 hx (y := (⟨"java/lang/Math", "min", "(II)I"⟩ : MethodName)) hown (mvT hZ (hw _ (List.mem_of_getElem? (i := 30) rfl))) (mvT hZ (hw _ (List.mem_of_getElem? (i := 31) rfl))) (mvT hZ (hw _ (List.mem_of_getElem? (i := 32) rfl))) (mvT hZ (hw _ (List.mem_of_getElem? (i := 33) rfl))) (by decide) (backOf (W := 0) (rm7 l Z a0 hw [] (oI (own_rt s0 x)) (oI (own_rt s0 y)) T9.heap n0 ZZ ) hZ (hw _ (List.mem_of_getElem? (i := 33) rfl)) (hw _ (List.mem_of_getElem? (i := 32) rfl)) (by decide) (by decide)) (g := (mkF m 16 #[.val (.ref r0), .val (.int (oI x)), .val (.int (oI y)), .val (.int (oI (own_rt s0 x))), .val (.int (oI (own_rt s0 y))), .unset] [(.int (oI (own_rt s0 y))), (.int (oI (own_rt s0 x)))])) rfl (by rw [hml]; rfl) (argsL := [(.int (oI (own_rt s0 x))), (.int (oI (own_rt s0 y)))]) (rest := []) (lenOf pd_1 rfl) rfl (by show 2 * 0 + _ ≤ _; exact Nat.le_of_eq rfl) (hb hby d5_16) (fun _ _ => ⟨rfl, rfl, (by decide : 0 + 0 ≤ _), (by decide : 0 + 0 ≤ _)⟩)
  dsimp only [Pt.U, Pt.locs, Pt.cells, Pt.slots] at X10 l10 y10 z10 st10 hQ10
  subst l10 y10 z10
  obtain ⟨rfl, N10q, e10⟩ := hQ10
  replace N0 := Fr.app N0 N10q
  refine gs st10 ?_
  show Go p e below s QQ 0 0 (T10.setTop (mkF m 19 #[.val (.ref r0), .val (.int (oI x)), .val (.int (oI y)), .val (.int (oI (own_rt s0 x))), .val (.int (oI (own_rt s0 y))), .unset] [(.int (if (oI (own_rt s0 y)) < (oI (own_rt s0 x)) then (oI (own_rt s0 y)) else (oI (own_rt s0 x))))]))
  rw [show (if (oI (own_rt s0 y)) < (oI (own_rt s0 x)) then (oI (own_rt s0 y)) else (oI (own_rt s0 x))) = (oI (min (own_rt s0 x) (own_rt s0 y))) from oI_min ha hb2]
  show Go p e below s QQ 0 0 (T10.setTop (mkF m 19 #[.val (.ref r0), .val (.int (oI x)), .val (.int (oI y)), .val (.int (oI (own_rt s0 x))), .val (.int (oI (own_rt s0 y))), .unset] [(.int (oI (min (own_rt s0 x) (own_rt s0 y))))]))
  refine gs (fun t => XS.istore X10.here hx rfl (hb hby d5_19) rfl (l' := #[.val (.ref r0), .val (.int (oI x)), .val (.int (oI y)), .val (.int (oI (own_rt s0 x))), .val (.int (oI (own_rt s0 y))), .val (.int (oI (min (own_rt s0 x) (own_rt s0 y))))]) rfl) ?_
  show Go p e below s QQ 0 0 (T10.setTop (mkF m 21 #[.val (.ref r0), .val (.int (oI x)), .val (.int (oI y)), .val (.int (oI (own_rt s0 x))), .val (.int (oI (own_rt s0 y))), .val (.int (oI (min (own_rt s0 x) (own_rt s0 y))))] []))
  refine gs (fun t => XS.aloadN X10.here hx rfl (hb hby d5_21) rfl rfl) ?_
  show Go p e below s QQ 0 0 (T10.setTop (mkF m 22 #[.val (.ref r0), .val (.int (oI x)), .val (.int (oI y)), .val (.int (oI (own_rt s0 x))), .val (.int (oI (own_rt s0 y))), .val (.int (oI (min (own_rt s0 x) (own_rt s0 y))))] [(.ref r0)]))
  obtain ⟨T11, X11, e11, st11⟩ := getF X10 hx hZ hown (host := "") (Or.inl (hw _ (List.mem_of_getElem? (i := 10) rfl))) Via.refl e10 F_parents_r0 (g := (mkF m 22 #[.val (.ref r0), .val (.int (oI x)), .val (.int (oI y)), .val (.int (oI (own_rt s0 x))), .val (.int (oI (own_rt s0 y))), .val (.int (oI (min (own_rt s0 x) (own_rt s0 y))))] [(.ref r0)])) rfl rfl (hb hby d5_22)
  refine gs st11 ?_
  show Go p e below s QQ 0 0 (T11.setTop (mkF m 25 #[.val (.ref r0), .val (.int (oI x)), .val (.int (oI y)), .val (.int (oI (own_rt s0 x))), .val (.int (oI (own_rt s0 y))), .val (.int (oI (min (own_rt s0 x) (own_rt s0 y))))] [(.ref pa)]))
  refine gs (fun t => XS.iloadN X11.here hx rfl (hb hby d5_25) rfl) ?_
  show Go p e below s QQ 0 0 (T11.setTop (mkF m 26 #[.val (.ref r0), .val (.int (oI x)), .val (.int (oI y)), .val (.int (oI (own_rt s0 x))), .val (.int (oI (own_rt s0 y))), .val (.int (oI (min (own_rt s0 x) (own_rt s0 y))))] [(.int (oI (own_rt s0 x))), (.ref pa)]))
  refine gs (fun t => XS.iload X11.here hx rfl (hb hby d5_26) rfl) ?_
  show Go p e below s QQ 0 0 (T11.setTop (mkF m 28 #[.val (.ref r0), .val (.int (oI x)), .val (.int (oI y)), .val (.int (oI (own_rt s0 x))), .val (.int (oI (own_rt s0 y))), .val (.int (oI (min (own_rt s0 x) (own_rt s0 y))))] [(.int (oI (own_rt s0 y))), (.int (oI (own_rt s0 x))), (.ref pa)]))
  obtain ⟨_, _, ⟨T12, L12, k12, n12⟩, -, X12, ⟨Lc12, hQ12, l12, y12, z12⟩, st12⟩ := Jvm.LawKit.callS X11 hx (y := (⟨"java/lang/Math", "max", "(II)I"⟩ : MethodName)) hown (mvT hZ (hw _ (List.mem_of_getElem? (i := 34) rfl))) (mvT hZ (hw _ (List.mem_of_getElem? (i := 35) rfl))) (mvT hZ (hw _ (List.mem_of_getElem? (i := 32) rfl))) (mvT hZ (hw _ (List.mem_of_getElem? (i := 36) rfl))) (by decide) (backOf (W := 1) (rm8 l Z a0 hw [] (oI (own_rt s0 x)) (oI (own_rt s0 y)) T9.heap n0 ZZ ) hZ (hw _ (List.mem_of_getElem? (i := 36) rfl)) (hw _ (List.mem_of_getElem? (i := 32) rfl)) (by decide) (by decide)) (g := (mkF m 28 #[.val (.ref r0), .val (.int (oI x)), .val (.int (oI y)), .val (.int (oI (own_rt s0 x))), .val (.int (oI (own_rt s0 y))), .val (.int (oI (min (own_rt s0 x) (own_rt s0 y))))] [(.int (oI (own_rt s0 y))), (.int (oI (own_rt s0 x))), (.ref pa)])) rfl (by rw [hml]; rfl) (argsL := [(.int (oI (own_rt s0 x))), (.int (oI (own_rt s0 y)))]) (rest := [(.ref pa)]) (lenOf pd_1 rfl) rfl (by show 2 * 0 + _ ≤ _; exact Nat.le_of_eq rfl) (hb hby d5_28) (fun _ _ => ⟨rfl, e11, (by decide : 0 + 0 ≤ _), (by decide : 0 + 0 ≤ _)⟩)
  dsimp only [Pt.U, Pt.locs, Pt.cells, Pt.slots] at X12 l12 y12 z12 st12 hQ12
  subst l12 y12 z12
  obtain ⟨rfl, N12q, e12⟩ := hQ12
  replace N0 := Fr.app N0 N12q
  refine gs st12 ?_
  show Go p e below s QQ 0 0 (T12.setTop (mkF m 31 #[.val (.ref r0), .val (.int (oI x)), .val (.int (oI y)), .val (.int (oI (own_rt s0 x))), .val (.int (oI (own_rt s0 y))), .val (.int (oI (min (own_rt s0 x) (own_rt s0 y))))] [(.int (if (oI (own_rt s0 x)) < (oI (own_rt s0 y)) then (oI (own_rt s0 y)) else (oI (own_rt s0 x)))), (.ref pa)]))
  rw [show (if (oI (own_rt s0 x)) < (oI (own_rt s0 y)) then (oI (own_rt s0 y)) else (oI (own_rt s0 x))) = (oI (max (own_rt s0 x) (own_rt s0 y))) from oI_max ha hb2]
  show Go p e below s QQ 0 0 (T12.setTop (mkF m 31 #[.val (.ref r0), .val (.int (oI x)), .val (.int (oI y)), .val (.int (oI (own_rt s0 x))), .val (.int (oI (own_rt s0 y))), .val (.int (oI (min (own_rt s0 x) (own_rt s0 y))))] [(.int (oI (max (own_rt s0 x) (own_rt s0 y)))), (.ref pa)]))
  refine gs (fun t => XS.iload X12.here hx rfl (hb hby d5_31) rfl) ?_
  show Go p e below s QQ 0 0 (T12.setTop (mkF m 33 #[.val (.ref r0), .val (.int (oI x)), .val (.int (oI y)), .val (.int (oI (own_rt s0 x))), .val (.int (oI (own_rt s0 y))), .val (.int (oI (min (own_rt s0 x) (own_rt s0 y))))] [(.int (oI (min (own_rt s0 x) (own_rt s0 y)))), (.int (oI (max (own_rt s0 x) (own_rt s0 y)))), (.ref pa)]))
  obtain ⟨T13, h13, X13, e13, W13, V13, st13⟩ := stIf X12 hx hZ e12 V_pa (j := (oI (max (own_rt s0 x) (own_rt s0 y)))) (oI_in (by omega)) (g := (mkF m 33 #[.val (.ref r0), .val (.int (oI x)), .val (.int (oI y)), .val (.int (oI (own_rt s0 x))), .val (.int (oI (own_rt s0 y))), .val (.int (oI (min (own_rt s0 x) (own_rt s0 y))))] [(.int (oI (min (own_rt s0 x) (own_rt s0 y)))), (.int (oI (max (own_rt s0 x) (own_rt s0 y)))), (.ref pa)])) rfl rfl (hb hby d5_33)
  replace N0 := Fr.snoc X13 N0 ge_pa
  refine gs st13 ?_
  show Go p e below s QQ 0 0 (T13.setTop (mkF m 34 #[.val (.ref r0), .val (.int (oI x)), .val (.int (oI y)), .val (.int (oI (own_rt s0 x))), .val (.int (oI (own_rt s0 y))), .val (.int (oI (min (own_rt s0 x) (own_rt s0 y))))] []))
  replace F_parents_r0 := F_parents_r0.other W13 (Or.inl ne_r0_pa)
  replace E_r0 := E_r0.wr W13
  replace ZZ : n0 ≤ h13.size := by rw [W13.size]; exact ZZ
  replace KK := KK.wr W13 (Or.inl (by simp))
  replace V_pa : Arf Z h13 pa .int 5 (updv (own_pf s3) (oI (max (own_rt s0 x) (own_rt s0 y))).toNatClampNeg (.int (oI (min (own_rt s0 x) (own_rt s0 y))))) := V13
  replace V_pa : Arf Z h13 pa .int 5 (own_pf (own_st s3 (max (own_rt s0 x) (own_rt s0 y)) (min (own_rt s0 x) (own_rt s0 y)))) := V_pa.congr (own_upd s3 (by omega) (by omega))
  refine gs (fun t => XS.iload X13.here hx rfl (hb hby d5_34) rfl) ?_
  show Go p e below s QQ 0 0 (T13.setTop (mkF m 36 #[.val (.ref r0), .val (.int (oI x)), .val (.int (oI y)), .val (.int (oI (own_rt s0 x))), .val (.int (oI (own_rt s0 y))), .val (.int (oI (min (own_rt s0 x) (own_rt s0 y))))] [(.int (oI (min (own_rt s0 x) (own_rt s0 y))))]))
  exact goI X13 hx Bd.notSynchronized Bd.returns (hb hby d5_36) (by rw [← hQQ, e13]; exact ⟨_, rfl, N0, KK, own_st s3 (max (own_rt s0 x) (own_rt s0 y)) (min (own_rt s0 x) (own_rt s0 y)), fun i hi => own_jn hs2 hs3 hx5 hy5 hi, V_pa⟩) (by decide) (by decide)
theorem d4_0 : decode method_3_code 0 = .ok (.iload_n 0, 1) := by decide +kernel
theorem d4_1 : decode method_3_code 1 = .ok (.ldc 26, 2) := by decide +kernel
theorem d4_3 : decode method_3_code 3 = .ok (.iand, 1) := by decide +kernel
theorem d4_4 : decode method_3_code 4 = .ok (.iconst 5, 1) := by decide +kernel
theorem d4_5 : decode method_3_code 5 = .ok (.irem, 1) := by decide +kernel
theorem d4_6 : decode method_3_code 6 = .ok (.ireturn, 1) := by decide +kernel
theorem pn_4 : plainName "com/example/seshat/seshat/DisjointSetsRootPinLaw" = true := by first | (simp [plainName, overriddenIn]; done) | decide +kernel
def Qrm4 (Z : State) (p0 : Int32) (h0 : Heap) (n0 : Nat) (v : Option Value) (h : Heap) (L : List Loc) : Prop := v = some (.int ((p0 &&& (2147483647 : Int32)) % (5 : Int32))) ∧ Fr n0 L ∧ h = h0
set_option maxRecDepth 65536 in
set_option maxHeartbeats 40000000 in
theorem rm4 (l : Launch) (Z : State) (a0 : Array Value) (hw : ∀ d ∈ tables_1, d.before a0 Z = true) (ws : List Jvm.Cond) (p0 : Int32) (h0 : Heap) (n0 : Nat) (Z0 : n0 ≤ h0.size) :
    MetFree l (⟨"com/example/seshat/seshat/DisjointSetsRootPinLaw", "idx", "(I)I"⟩ : MethodName) (head1 (Jvm.Cond.code (⟨"com/example/seshat/seshat/DisjointSetsRootPinLaw", "idx", "(I)I"⟩ : MethodName) method_3_code 1 (some .int) :: ws) ({ frames := 0, cells := 0, slots := 0, locals := 0 } : Room)) (fun a U => a = #[(.int p0)] ∧ Z.Warmed39 U.vm ∧ U.heap = h0) (fun _ _ _ _ _ => True) (fun _ U o U' => ∃ v L, o = .returned v ∧ Qrm4 Z p0 h0 n0 v U'.heap L ∧ FrameEnd U o U' L ({ frames := 0, cells := 0, slots := 0, locals := 0 } : Room).cells ({ frames := 0, cells := 0, slots := 0, locals := 0 } : Room).slots) := by
  refine MetFree.of_bodySF (plainFor_of_name pn_4) hisR ?_
  intro p e s m args below meth c s₁ Bd hml0 hP hK
  obtain ⟨rfl, hZ, hh⟩ := hP
  have hx := Bd.exec
  have hby := Bd.bytes
  have hml : c.maxLocals = 1 := hml0
  have hown : s.vm.findClass "com/example/seshat/seshat/DisjointSetsRootPinLaw" = some m.cls := findClass_of_methodNamed Bd.named
  have hnm := (name_of_methodNamed Bd.named Bd.method).1
  have X0 : Stand p l e ({ frames := 0, cells := 0, slots := 0, locals := 0 } : Room) s m #[(.int p0)] below meth c s₁ [] 0 0 := Stand.of_body Bd
  have e0 : s₁.heap = h0 := by rw [← hh, Bd.state]; rfl
  have N0 := Fr.nil n0
  have ZZ := Z0
  show Go p e below s (Qrm4 Z p0 h0 n0) 0 0 (s₁.setTop (entryFrame m #[(.int p0)] 1))
  generalize hQQ : (Qrm4 Z p0 h0 n0) = QQ
  refine gs (fun t k => castTop (g' := (mkF m 0 #[.val (.int p0)] [])) (by first | (simp [entryFrame, mkF, argsToLocals, Value.category, maxLocals]; done) | rfl) k) ?_
  show Go p e below s QQ 0 0 (s₁.setTop (mkF m 0 #[.val (.int p0)] []))
  refine gs (fun t => XS.iloadN X0.here hx rfl (hb hby d4_0) rfl) ?_
  show Go p e below s QQ 0 0 (s₁.setTop (mkF m 1 #[.val (.int p0)] [(.int p0)]))
  refine gs (fun t => X0.ldcInt hx hown (mvT hZ (hw _ (List.mem_of_getElem? (i := 19) rfl))) (g := (mkF m 1 #[.val (.int p0)] [(.int p0)])) rfl (hb hby d4_1) t) ?_
  show Go p e below s QQ 0 0 (s₁.setTop (mkF m 3 #[.val (.int p0)] [(.int (2147483647 : Int32)), (.int p0)]))
  refine gs (fun t => XS.iand X0.here hx rfl (hb hby d4_3) rfl) ?_
  show Go p e below s QQ 0 0 (s₁.setTop (mkF m 4 #[.val (.int p0)] [(.int (p0 &&& (2147483647 : Int32)))]))
  refine gs (fun t => XS.iconst X0.here hx rfl (hb hby d4_4)) ?_
  show Go p e below s QQ 0 0 (s₁.setTop (mkF m 5 #[.val (.int p0)] [(.int (5 : Int32)), (.int (p0 &&& (2147483647 : Int32)))]))
  refine gs (fun t => iremM X0 hx (g := (mkF m 5 #[.val (.int p0)] [(.int (5 : Int32)), (.int (p0 &&& (2147483647 : Int32)))])) rfl (hb hby d4_5) rfl (by decide)) ?_
  show Go p e below s QQ 0 0 (s₁.setTop (mkF m 6 #[.val (.int p0)] [(.int ((p0 &&& (2147483647 : Int32)) % (5 : Int32)))]))
  exact goI X0 hx Bd.notSynchronized Bd.returns (hb hby d4_6) (by rw [← hQQ, e0]; exact ⟨rfl, N0, rfl⟩) (by decide) (by decide)
theorem d9_0 : decode method_5_code 0 = .ok (.aload_n 0, 1) := by decide +kernel
theorem d9_1 : decode method_5_code 1 = .ok (.iload_n 1, 1) := by decide +kernel
theorem d9_2 : decode method_5_code 2 = .ok (.iaload, 1) := by decide +kernel
theorem d9_3 : decode method_5_code 3 = .ok (.iload_n 2, 1) := by decide +kernel
theorem d9_4 : decode method_5_code 4 = .ok (.if_icmp .eq 10, 3) := by decide +kernel
theorem d9_7 : decode method_5_code 7 = .ok (.aload_n 0, 1) := by decide +kernel
theorem d9_8 : decode method_5_code 8 = .ok (.iload_n 1, 1) := by decide +kernel
theorem d9_9 : decode method_5_code 9 = .ok (.iaload, 1) := by decide +kernel
theorem d9_10 : decode method_5_code 10 = .ok (.iload_n 3, 1) := by decide +kernel
theorem d9_11 : decode method_5_code 11 = .ok (.if_icmp .ne 8, 3) := by decide +kernel
theorem d9_14 : decode method_5_code 14 = .ok (.aload_n 0, 1) := by decide +kernel
theorem d9_15 : decode method_5_code 15 = .ok (.iload_n 1, 1) := by decide +kernel
theorem d9_16 : decode method_5_code 16 = .ok (.iload 4, 2) := by decide +kernel
theorem d9_18 : decode method_5_code 18 = .ok (.iastore, 1) := by decide +kernel
theorem d9_19 : decode method_5_code 19 = .ok (.return_, 1) := by decide +kernel
theorem pn_9 : plainName "com/example/seshat/seshat/DisjointSetsRootPinLaw" = true := by first | (simp [plainName, overriddenIn]; done) | decide +kernel
def Qrm9 (Z : State) (r0 : Addr) (i : Nat) (lx : Nat) (ly : Nat) (mv : Nat) (lf : Nat → Nat) (h0 : Heap) (n0 : Nat) (v : Option Value) (h : Heap) (L : List Loc) : Prop := v = none ∧ Fr n0 L ∧ Keep h0 h [r0] ∧ Arf Z h r0 .int 5 (own_nf (own_rel lf i lx ly mv))
set_option maxRecDepth 65536 in
set_option maxHeartbeats 40000000 in
theorem rm9 (l : Launch) (Z : State) (a0 : Array Value) (hw : ∀ d ∈ tables_1, d.before a0 Z = true) (ws : List Jvm.Cond) (r0 : Addr) (i : Nat) (lx : Nat) (ly : Nat) (mv : Nat) (lf : Nat → Nat) (h0 : Heap) (n0 : Nat) (Z0 : n0 ≤ h0.size) (V_r0 : Arf Z h0 r0 .int 5 (own_nf lf)) (ge_r0 : n0 ≤ r0) (hi : i < 5) (hlx : lx < 5) (hly : ly < 5) (hf : lf i < 5) :
    MetFree l (⟨"com/example/seshat/seshat/DisjointSetsRootPinLaw", "relabel", "([IIIII)V"⟩ : MethodName) (head1 (Jvm.Cond.code (⟨"com/example/seshat/seshat/DisjointSetsRootPinLaw", "relabel", "([IIIII)V"⟩ : MethodName) method_5_code 5 none :: ws) ({ frames := 0, cells := 0, slots := 0, locals := 0 } : Room)) (fun a U => a = #[(.ref r0), (.int (oI i)), (.int (oI lx)), (.int (oI ly)), (.int (oI mv))] ∧ Z.Warmed39 U.vm ∧ U.heap = h0) (fun _ _ _ _ _ => True) (fun _ U o U' => ∃ v L, o = .returned v ∧ Qrm9 Z r0 i lx ly mv lf h0 n0 v U'.heap L ∧ FrameEnd U o U' L ({ frames := 0, cells := 0, slots := 0, locals := 0 } : Room).cells ({ frames := 0, cells := 0, slots := 0, locals := 0 } : Room).slots) := by
  refine MetFree.of_bodySF (plainFor_of_name pn_9) hisR ?_
  intro p e s m args below meth c s₁ Bd hml0 hP hK
  obtain ⟨rfl, hZ, hh⟩ := hP
  have hx := Bd.exec
  have hby := Bd.bytes
  have hml : c.maxLocals = 5 := hml0
  have hown : s.vm.findClass "com/example/seshat/seshat/DisjointSetsRootPinLaw" = some m.cls := findClass_of_methodNamed Bd.named
  have hnm := (name_of_methodNamed Bd.named Bd.method).1
  have X0 : Stand p l e ({ frames := 0, cells := 0, slots := 0, locals := 0 } : Room) s m #[(.ref r0), (.int (oI i)), (.int (oI lx)), (.int (oI ly)), (.int (oI mv))] below meth c s₁ [] 0 0 := Stand.of_body Bd
  have e0 : s₁.heap = h0 := by rw [← hh, Bd.state]; rfl
  have N0 := Fr.nil n0
  have ZZ := Z0
  have KK : Keep h0 h0 [r0] := Keep.refl h0 _
  show Go p e below s (Qrm9 Z r0 i lx ly mv lf h0 n0) 0 0 (s₁.setTop (entryFrame m #[(.ref r0), (.int (oI i)), (.int (oI lx)), (.int (oI ly)), (.int (oI mv))] 5))
  generalize hQQ : (Qrm9 Z r0 i lx ly mv lf h0 n0) = QQ
  refine gs (fun t k => castTop (g' := (mkF m 0 #[.val (.ref r0), .val (.int (oI i)), .val (.int (oI lx)), .val (.int (oI ly)), .val (.int (oI mv))] [])) (by first | (simp [entryFrame, mkF, argsToLocals, Value.category, maxLocals]; done) | rfl) k) ?_
  show Go p e below s QQ 0 0 (s₁.setTop (mkF m 0 #[.val (.ref r0), .val (.int (oI i)), .val (.int (oI lx)), .val (.int (oI ly)), .val (.int (oI mv))] []))
  refine gs (fun t => XS.aloadN X0.here hx rfl (hb hby d9_0) rfl rfl) ?_
  show Go p e below s QQ 0 0 (s₁.setTop (mkF m 1 #[.val (.ref r0), .val (.int (oI i)), .val (.int (oI lx)), .val (.int (oI ly)), .val (.int (oI mv))] [(.ref r0)]))
  refine gs (fun t => XS.iloadN X0.here hx rfl (hb hby d9_1) rfl) ?_
  show Go p e below s QQ 0 0 (s₁.setTop (mkF m 2 #[.val (.ref r0), .val (.int (oI i)), .val (.int (oI lx)), .val (.int (oI ly)), .val (.int (oI mv))] [(.int (oI i)), (.ref r0)]))
  refine gs (fun t => ldIf X0 hx hZ e0 V_r0 (j := (oI i)) (v := (.int (oI (lf i)))) (oI_in hi) (own_nfat lf hi) (g := (mkF m 2 #[.val (.ref r0), .val (.int (oI i)), .val (.int (oI lx)), .val (.int (oI ly)), .val (.int (oI mv))] [(.int (oI i)), (.ref r0)])) rfl rfl (hb hby d9_2) t) ?_
  show Go p e below s QQ 0 0 (s₁.setTop (mkF m 3 #[.val (.ref r0), .val (.int (oI i)), .val (.int (oI lx)), .val (.int (oI ly)), .val (.int (oI mv))] [(.int (oI (lf i)))]))
  refine gs (fun t => XS.iloadN X0.here hx rfl (hb hby d9_3) rfl) ?_
  show Go p e below s QQ 0 0 (s₁.setTop (mkF m 4 #[.val (.ref r0), .val (.int (oI i)), .val (.int (oI lx)), .val (.int (oI ly)), .val (.int (oI mv))] [(.int (oI lx)), (.int (oI (lf i)))]))
  by_cases hc : (oI (lf i)) = (oI lx)
  · skip
    refine gs (fun t => XS.icmpYes X0.here hx rfl (pc0 := 4) (pc' := 14) rfl (hb hby d9_4) rfl (teq hc).1 (by decide) (by decide)) ?_
    show Go p e below s QQ 0 0 (s₁.setTop (mkF m 14 #[.val (.ref r0), .val (.int (oI i)), .val (.int (oI lx)), .val (.int (oI ly)), .val (.int (oI mv))] []))
    refine gs (fun t => XS.aloadN X0.here hx rfl (hb hby d9_14) rfl rfl) ?_
    show Go p e below s QQ 0 0 (s₁.setTop (mkF m 15 #[.val (.ref r0), .val (.int (oI i)), .val (.int (oI lx)), .val (.int (oI ly)), .val (.int (oI mv))] [(.ref r0)]))
    refine gs (fun t => XS.iloadN X0.here hx rfl (hb hby d9_15) rfl) ?_
    show Go p e below s QQ 0 0 (s₁.setTop (mkF m 16 #[.val (.ref r0), .val (.int (oI i)), .val (.int (oI lx)), .val (.int (oI ly)), .val (.int (oI mv))] [(.int (oI i)), (.ref r0)]))
    refine gs (fun t => XS.iload X0.here hx rfl (hb hby d9_16) rfl) ?_
    show Go p e below s QQ 0 0 (s₁.setTop (mkF m 18 #[.val (.ref r0), .val (.int (oI i)), .val (.int (oI lx)), .val (.int (oI ly)), .val (.int (oI mv))] [(.int (oI mv)), (.int (oI i)), (.ref r0)]))
    obtain ⟨T14, h14, X14, e14, W14, V14, st14⟩ := stIf X0 hx hZ e0 V_r0 (j := (oI i)) (oI_in hi) (g := (mkF m 18 #[.val (.ref r0), .val (.int (oI i)), .val (.int (oI lx)), .val (.int (oI ly)), .val (.int (oI mv))] [(.int (oI mv)), (.int (oI i)), (.ref r0)])) rfl rfl (hb hby d9_18)
    replace N0 := Fr.snoc X14 N0 ge_r0
    refine gs st14 ?_
    show Go p e below s QQ 0 0 (T14.setTop (mkF m 19 #[.val (.ref r0), .val (.int (oI i)), .val (.int (oI lx)), .val (.int (oI ly)), .val (.int (oI mv))] []))
    replace ZZ : n0 ≤ h14.size := by rw [W14.size]; exact ZZ
    replace KK := KK.wr W14 (Or.inl (by simp))
    replace V_r0 : Arf Z h14 r0 .int 5 (updv (own_nf lf) (oI i).toNatClampNeg (.int (oI mv))) := V14
    exact goV X14 hx Bd.notSynchronized Bd.returns (hb hby d9_19) (by rw [← hQQ, e14]; exact ⟨rfl, N0, KK, V_r0.congr (own_relu hi (Or.inl (oI_i hf hlx hc)))⟩) (by decide) (by decide)
  · skip
    refine gs (fun t => XS.icmpNo X0.here hx rfl (hb hby d9_4) rfl (feq hc).1) ?_
    show Go p e below s QQ 0 0 (s₁.setTop (mkF m 7 #[.val (.ref r0), .val (.int (oI i)), .val (.int (oI lx)), .val (.int (oI ly)), .val (.int (oI mv))] []))
    refine gs (fun t => XS.aloadN X0.here hx rfl (hb hby d9_7) rfl rfl) ?_
    show Go p e below s QQ 0 0 (s₁.setTop (mkF m 8 #[.val (.ref r0), .val (.int (oI i)), .val (.int (oI lx)), .val (.int (oI ly)), .val (.int (oI mv))] [(.ref r0)]))
    refine gs (fun t => XS.iloadN X0.here hx rfl (hb hby d9_8) rfl) ?_
    show Go p e below s QQ 0 0 (s₁.setTop (mkF m 9 #[.val (.ref r0), .val (.int (oI i)), .val (.int (oI lx)), .val (.int (oI ly)), .val (.int (oI mv))] [(.int (oI i)), (.ref r0)]))
    refine gs (fun t => ldIf X0 hx hZ e0 V_r0 (j := (oI i)) (v := (.int (oI (lf i)))) (oI_in hi) (own_nfat lf hi) (g := (mkF m 9 #[.val (.ref r0), .val (.int (oI i)), .val (.int (oI lx)), .val (.int (oI ly)), .val (.int (oI mv))] [(.int (oI i)), (.ref r0)])) rfl rfl (hb hby d9_9) t) ?_
    show Go p e below s QQ 0 0 (s₁.setTop (mkF m 10 #[.val (.ref r0), .val (.int (oI i)), .val (.int (oI lx)), .val (.int (oI ly)), .val (.int (oI mv))] [(.int (oI (lf i)))]))
    refine gs (fun t => XS.iloadN X0.here hx rfl (hb hby d9_10) rfl) ?_
    show Go p e below s QQ 0 0 (s₁.setTop (mkF m 11 #[.val (.ref r0), .val (.int (oI i)), .val (.int (oI lx)), .val (.int (oI ly)), .val (.int (oI mv))] [(.int (oI ly)), (.int (oI (lf i)))]))
    by_cases hd : (oI (lf i)) = (oI ly)
    · skip
      refine gs (fun t => XS.icmpNo X0.here hx rfl (hb hby d9_11) rfl (teq hd).2) ?_
      show Go p e below s QQ 0 0 (s₁.setTop (mkF m 14 #[.val (.ref r0), .val (.int (oI i)), .val (.int (oI lx)), .val (.int (oI ly)), .val (.int (oI mv))] []))
      refine gs (fun t => XS.aloadN X0.here hx rfl (hb hby d9_14) rfl rfl) ?_
      show Go p e below s QQ 0 0 (s₁.setTop (mkF m 15 #[.val (.ref r0), .val (.int (oI i)), .val (.int (oI lx)), .val (.int (oI ly)), .val (.int (oI mv))] [(.ref r0)]))
      refine gs (fun t => XS.iloadN X0.here hx rfl (hb hby d9_15) rfl) ?_
      show Go p e below s QQ 0 0 (s₁.setTop (mkF m 16 #[.val (.ref r0), .val (.int (oI i)), .val (.int (oI lx)), .val (.int (oI ly)), .val (.int (oI mv))] [(.int (oI i)), (.ref r0)]))
      refine gs (fun t => XS.iload X0.here hx rfl (hb hby d9_16) rfl) ?_
      show Go p e below s QQ 0 0 (s₁.setTop (mkF m 18 #[.val (.ref r0), .val (.int (oI i)), .val (.int (oI lx)), .val (.int (oI ly)), .val (.int (oI mv))] [(.int (oI mv)), (.int (oI i)), (.ref r0)]))
      obtain ⟨T15, h15, X15, e15, W15, V15, st15⟩ := stIf X0 hx hZ e0 V_r0 (j := (oI i)) (oI_in hi) (g := (mkF m 18 #[.val (.ref r0), .val (.int (oI i)), .val (.int (oI lx)), .val (.int (oI ly)), .val (.int (oI mv))] [(.int (oI mv)), (.int (oI i)), (.ref r0)])) rfl rfl (hb hby d9_18)
      replace N0 := Fr.snoc X15 N0 ge_r0
      refine gs st15 ?_
      show Go p e below s QQ 0 0 (T15.setTop (mkF m 19 #[.val (.ref r0), .val (.int (oI i)), .val (.int (oI lx)), .val (.int (oI ly)), .val (.int (oI mv))] []))
      replace ZZ : n0 ≤ h15.size := by rw [W15.size]; exact ZZ
      replace KK := KK.wr W15 (Or.inl (by simp))
      replace V_r0 : Arf Z h15 r0 .int 5 (updv (own_nf lf) (oI i).toNatClampNeg (.int (oI mv))) := V15
      exact goV X15 hx Bd.notSynchronized Bd.returns (hb hby d9_19) (by rw [← hQQ, e15]; exact ⟨rfl, N0, KK, V_r0.congr (own_relu hi (Or.inr (oI_i hf hly hd)))⟩) (by decide) (by decide)
    · skip
      refine gs (fun t => XS.icmpYes X0.here hx rfl (pc0 := 11) (pc' := 19) rfl (hb hby d9_11) rfl (feq hd).2 (by decide) (by decide)) ?_
      show Go p e below s QQ 0 0 (s₁.setTop (mkF m 19 #[.val (.ref r0), .val (.int (oI i)), .val (.int (oI lx)), .val (.int (oI ly)), .val (.int (oI mv))] []))
      exact goV X0 hx Bd.notSynchronized Bd.returns (hb hby d9_19) (by rw [← hQQ, e0]; exact ⟨rfl, N0, KK, V_r0.congr (own_reln (fun q => hc (congrArg oI q)) (fun q => hd (congrArg oI q)))⟩) (by decide) (by decide)
theorem d3_0 : decode method_4_code 0 = .ok (.iload_n 2, 1) := by decide +kernel
theorem d3_1 : decode method_4_code 1 = .ok (.invokestatic 18, 3) := by decide +kernel
theorem d3_4 : decode method_4_code 4 = .ok (.istore_n 3, 1) := by decide +kernel
theorem d3_5 : decode method_4_code 5 = .ok (.iload_n 2, 1) := by decide +kernel
theorem d3_6 : decode method_4_code 6 = .ok (.bipush 16, 2) := by decide +kernel
theorem d3_8 : decode method_4_code 8 = .ok (.iushr, 1) := by decide +kernel
theorem d3_9 : decode method_4_code 9 = .ok (.invokestatic 18, 3) := by decide +kernel
theorem d3_12 : decode method_4_code 12 = .ok (.istore 4, 2) := by decide +kernel
theorem d3_14 : decode method_4_code 14 = .ok (.aload_n 0, 1) := by decide +kernel
theorem d3_15 : decode method_4_code 15 = .ok (.iload_n 3, 1) := by decide +kernel
theorem d3_16 : decode method_4_code 16 = .ok (.iload 4, 2) := by decide +kernel
theorem d3_18 : decode method_4_code 18 = .ok (.invokevirtual 27, 3) := by decide +kernel
theorem d3_21 : decode method_4_code 21 = .ok (.pop, 1) := by decide +kernel
theorem d3_22 : decode method_4_code 22 = .ok (.aload_n 1, 1) := by decide +kernel
theorem d3_23 : decode method_4_code 23 = .ok (.iload_n 3, 1) := by decide +kernel
theorem d3_24 : decode method_4_code 24 = .ok (.iaload, 1) := by decide +kernel
theorem d3_25 : decode method_4_code 25 = .ok (.istore 5, 2) := by decide +kernel
theorem d3_27 : decode method_4_code 27 = .ok (.aload_n 1, 1) := by decide +kernel
theorem d3_28 : decode method_4_code 28 = .ok (.iload 4, 2) := by decide +kernel
theorem d3_30 : decode method_4_code 30 = .ok (.iaload, 1) := by decide +kernel
theorem d3_31 : decode method_4_code 31 = .ok (.istore 6, 2) := by decide +kernel
theorem d3_33 : decode method_4_code 33 = .ok (.iload 5, 2) := by decide +kernel
theorem d3_35 : decode method_4_code 35 = .ok (.iload 6, 2) := by decide +kernel
theorem d3_37 : decode method_4_code 37 = .ok (.invokestatic 31, 3) := by decide +kernel
theorem d3_40 : decode method_4_code 40 = .ok (.istore 7, 2) := by decide +kernel
theorem d3_42 : decode method_4_code 42 = .ok (.aload_n 1, 1) := by decide +kernel
theorem d3_43 : decode method_4_code 43 = .ok (.iconst 0, 1) := by decide +kernel
theorem d3_44 : decode method_4_code 44 = .ok (.iload 5, 2) := by decide +kernel
theorem d3_46 : decode method_4_code 46 = .ok (.iload 6, 2) := by decide +kernel
theorem d3_48 : decode method_4_code 48 = .ok (.iload 7, 2) := by decide +kernel
theorem d3_50 : decode method_4_code 50 = .ok (.invokestatic 36, 3) := by decide +kernel
theorem d3_53 : decode method_4_code 53 = .ok (.aload_n 1, 1) := by decide +kernel
theorem d3_54 : decode method_4_code 54 = .ok (.iconst 1, 1) := by decide +kernel
theorem d3_55 : decode method_4_code 55 = .ok (.iload 5, 2) := by decide +kernel
theorem d3_57 : decode method_4_code 57 = .ok (.iload 6, 2) := by decide +kernel
theorem d3_59 : decode method_4_code 59 = .ok (.iload 7, 2) := by decide +kernel
theorem d3_61 : decode method_4_code 61 = .ok (.invokestatic 36, 3) := by decide +kernel
theorem d3_64 : decode method_4_code 64 = .ok (.aload_n 1, 1) := by decide +kernel
theorem d3_65 : decode method_4_code 65 = .ok (.iconst 2, 1) := by decide +kernel
theorem d3_66 : decode method_4_code 66 = .ok (.iload 5, 2) := by decide +kernel
theorem d3_68 : decode method_4_code 68 = .ok (.iload 6, 2) := by decide +kernel
theorem d3_70 : decode method_4_code 70 = .ok (.iload 7, 2) := by decide +kernel
theorem d3_72 : decode method_4_code 72 = .ok (.invokestatic 36, 3) := by decide +kernel
theorem d3_75 : decode method_4_code 75 = .ok (.aload_n 1, 1) := by decide +kernel
theorem d3_76 : decode method_4_code 76 = .ok (.iconst 3, 1) := by decide +kernel
theorem d3_77 : decode method_4_code 77 = .ok (.iload 5, 2) := by decide +kernel
theorem d3_79 : decode method_4_code 79 = .ok (.iload 6, 2) := by decide +kernel
theorem d3_81 : decode method_4_code 81 = .ok (.iload 7, 2) := by decide +kernel
theorem d3_83 : decode method_4_code 83 = .ok (.invokestatic 36, 3) := by decide +kernel
theorem d3_86 : decode method_4_code 86 = .ok (.aload_n 1, 1) := by decide +kernel
theorem d3_87 : decode method_4_code 87 = .ok (.iconst 4, 1) := by decide +kernel
theorem d3_88 : decode method_4_code 88 = .ok (.iload 5, 2) := by decide +kernel
theorem d3_90 : decode method_4_code 90 = .ok (.iload 6, 2) := by decide +kernel
theorem d3_92 : decode method_4_code 92 = .ok (.iload 7, 2) := by decide +kernel
theorem d3_94 : decode method_4_code 94 = .ok (.invokestatic 36, 3) := by decide +kernel
theorem d3_97 : decode method_4_code 97 = .ok (.return_, 1) := by decide +kernel
theorem pn_3 : plainName "com/example/seshat/seshat/DisjointSetsRootPinLaw" = true := by first | (simp [plainName, overriddenIn]; done) | decide +kernel
def Qrm3 (Z : State) (r0 : Addr) (r1 : Addr) (p2 : Int32) (pa : Addr) (s0 : OS) (h0 : Heap) (n0 : Nat) (v : Option Value) (h : Heap) (L : List Loc) : Prop := v = none ∧ Fr n0 L ∧ Keep h0 h [pa, r1] ∧ ∃ s1 : OS, Arf Z h pa .int 5 (own_pf s1) ∧ Arf Z h r1 .int 5 (own_nf (own_rt s1))
set_option maxRecDepth 65536 in
set_option maxHeartbeats 40000000 in
theorem rm3 (l : Launch) (Z : State) (a0 : Array Value) (hw : ∀ d ∈ tables_1, d.before a0 Z = true) (ws : List Jvm.Cond) (r0 : Addr) (r1 : Addr) (p2 : Int32) (pa : Addr) (s0 : OS) (h0 : Heap) (n0 : Nat) (Z0 : n0 ≤ h0.size) (F_parents_r0 : Fld Z h0 r0 "com/example/seshat/seshat/DisjointSets" "parents" "[I" (.ref pa)) (E_r0 : Exa Z h0 r0 "com/example/seshat/seshat/DisjointSets") (V_pa : Arf Z h0 pa .int 5 (own_pf s0)) (V_r1 : Arf Z h0 r1 .int 5 (own_nf (own_rt s0))) (ge_pa : n0 ≤ pa) (ge_r1 : n0 ≤ r1) (ne_r0_r1 : r0 ≠ r1) (ne_r0_pa : r0 ≠ pa) (ne_r1_pa : r1 ≠ pa) :
    MetFree l (⟨"com/example/seshat/seshat/DisjointSetsRootPinLaw", "joinBoth", "(Lcom/example/seshat/seshat/DisjointSets;[II)V"⟩ : MethodName) (head1 (Jvm.Cond.code (⟨"com/example/seshat/seshat/DisjointSetsRootPinLaw", "joinBoth", "(Lcom/example/seshat/seshat/DisjointSets;[II)V"⟩ : MethodName) method_4_code 8 none :: ws) ({ frames := 2, cells := 0, slots := 0, locals := 31 } : Room)) (fun a U => a = #[(.ref r0), (.ref r1), (.int p2)] ∧ Z.Warmed39 U.vm ∧ U.heap = h0) (fun _ _ _ _ _ => True) (fun _ U o U' => ∃ v L, o = .returned v ∧ Qrm3 Z r0 r1 p2 pa s0 h0 n0 v U'.heap L ∧ FrameEnd U o U' L ({ frames := 2, cells := 0, slots := 0, locals := 31 } : Room).cells ({ frames := 2, cells := 0, slots := 0, locals := 31 } : Room).slots) := by
  refine MetFree.of_bodySF (plainFor_of_name pn_3) hisR ?_
  intro p e s m args below meth c s₁ Bd hml0 hP hK
  obtain ⟨rfl, hZ, hh⟩ := hP
  have hx := Bd.exec
  have hby := Bd.bytes
  have hml : c.maxLocals = 8 := hml0
  have hown : s.vm.findClass "com/example/seshat/seshat/DisjointSetsRootPinLaw" = some m.cls := findClass_of_methodNamed Bd.named
  have hnm := (name_of_methodNamed Bd.named Bd.method).1
  have X0 : Stand p l e ({ frames := 2, cells := 0, slots := 0, locals := 31 } : Room) s m #[(.ref r0), (.ref r1), (.int p2)] below meth c s₁ [] 0 0 := Stand.of_body Bd
  have e0 : s₁.heap = h0 := by rw [← hh, Bd.state]; rfl
  have N0 := Fr.nil n0
  have ZZ := Z0
  have KK : Keep h0 h0 [pa, r1] := Keep.refl h0 _
  show Go p e below s (Qrm3 Z r0 r1 p2 pa s0 h0 n0) 0 0 (s₁.setTop (entryFrame m #[(.ref r0), (.ref r1), (.int p2)] 8))
  generalize hQQ : (Qrm3 Z r0 r1 p2 pa s0 h0 n0) = QQ
  refine gs (fun t k => castTop (g' := (mkF m 0 #[.val (.ref r0), .val (.ref r1), .val (.int p2), .unset, .unset, .unset, .unset, .unset] [])) (by first | (simp [entryFrame, mkF, argsToLocals, Value.category, maxLocals]; done) | rfl) k) ?_
  show Go p e below s QQ 0 0 (s₁.setTop (mkF m 0 #[.val (.ref r0), .val (.ref r1), .val (.int p2), .unset, .unset, .unset, .unset, .unset] []))
  obtain ⟨x, hx5, hxe⟩ := own_idx p2
  obtain ⟨y, hy5, hye⟩ := own_idx ((p2.toUInt32 >>> ((16 : Int32) &&& 31).toUInt32).toInt32)
  refine gs (fun t => XS.iloadN X0.here hx rfl (hb hby d3_0) rfl) ?_
  show Go p e below s QQ 0 0 (s₁.setTop (mkF m 1 #[.val (.ref r0), .val (.ref r1), .val (.int p2), .unset, .unset, .unset, .unset, .unset] [(.int p2)]))
  obtain ⟨_, _, ⟨T16, L16, k16, n16⟩, -, X16, ⟨Lc16, hQ16, l16, y16, z16⟩, st16⟩ := Jvm.LawKit.callS X0 hx (y := (⟨"com/example/seshat/seshat/DisjointSetsRootPinLaw", "idx", "(I)I"⟩ : MethodName)) hown (mvT hZ (hw _ (List.mem_of_getElem? (i := 16) rfl))) (mvT hZ (hw _ (List.mem_of_getElem? (i := 17) rfl))) (mvT hZ (hw _ (List.mem_of_getElem? (i := 14) rfl))) (mvT hZ (hw _ (List.mem_of_getElem? (i := 18) rfl))) (by decide) (backOf (W := 0) (rm4 l Z a0 hw [] p2 h0 n0 ZZ ) hZ (hw _ (List.mem_of_getElem? (i := 18) rfl)) (hw _ (List.mem_of_getElem? (i := 14) rfl)) (by decide) (by decide)) (g := (mkF m 1 #[.val (.ref r0), .val (.ref r1), .val (.int p2), .unset, .unset, .unset, .unset, .unset] [(.int p2)])) rfl (by rw [hml]; rfl) (argsL := [(.int p2)]) (rest := []) (lenOf pd_0 rfl) rfl (by show 2 * 0 + _ ≤ _; exact Nat.le_of_eq rfl) (hb hby d3_1) (fun _ _ => ⟨rfl, e0, (by decide : 0 + 0 ≤ _), (by decide : 0 + 0 ≤ _)⟩)
  dsimp only [Pt.U, Pt.locs, Pt.cells, Pt.slots] at X16 l16 y16 z16 st16 hQ16
  subst l16 y16 z16
  obtain ⟨rfl, N16q, e16⟩ := hQ16
  replace N0 := Fr.app N0 N16q
  refine gs st16 ?_
  show Go p e below s QQ 0 0 (T16.setTop (mkF m 4 #[.val (.ref r0), .val (.ref r1), .val (.int p2), .unset, .unset, .unset, .unset, .unset] [(.int ((p2 &&& (2147483647 : Int32)) % (5 : Int32)))]))
  rw [show ((p2 &&& (2147483647 : Int32)) % (5 : Int32)) = (oI x) from hxe]
  show Go p e below s QQ 0 0 (T16.setTop (mkF m 4 #[.val (.ref r0), .val (.ref r1), .val (.int p2), .unset, .unset, .unset, .unset, .unset] [(.int (oI x))]))
  refine gs (fun t => XS.istoreN X16.here hx rfl (hb hby d3_4) rfl (l' := #[.val (.ref r0), .val (.ref r1), .val (.int p2), .val (.int (oI x)), .unset, .unset, .unset, .unset]) rfl) ?_
  show Go p e below s QQ 0 0 (T16.setTop (mkF m 5 #[.val (.ref r0), .val (.ref r1), .val (.int p2), .val (.int (oI x)), .unset, .unset, .unset, .unset] []))
  refine gs (fun t => XS.iloadN X16.here hx rfl (hb hby d3_5) rfl) ?_
  show Go p e below s QQ 0 0 (T16.setTop (mkF m 6 #[.val (.ref r0), .val (.ref r1), .val (.int p2), .val (.int (oI x)), .unset, .unset, .unset, .unset] [(.int p2)]))
  refine gs (fun t => XS.bipush X16.here hx rfl (hb hby d3_6)) ?_
  show Go p e below s QQ 0 0 (T16.setTop (mkF m 8 #[.val (.ref r0), .val (.ref r1), .val (.int p2), .val (.int (oI x)), .unset, .unset, .unset, .unset] [(.int (16 : Int32)), (.int p2)]))
  refine gs (fun t => XS.iushr X16.here hx rfl (hb hby d3_8) rfl) ?_
  show Go p e below s QQ 0 0 (T16.setTop (mkF m 9 #[.val (.ref r0), .val (.ref r1), .val (.int p2), .val (.int (oI x)), .unset, .unset, .unset, .unset] [(.int ((p2.toUInt32 >>> ((16 : Int32) &&& 31).toUInt32).toInt32))]))
  obtain ⟨_, _, ⟨T17, L17, k17, n17⟩, -, X17, ⟨Lc17, hQ17, l17, y17, z17⟩, st17⟩ := Jvm.LawKit.callS X16 hx (y := (⟨"com/example/seshat/seshat/DisjointSetsRootPinLaw", "idx", "(I)I"⟩ : MethodName)) hown (mvT hZ (hw _ (List.mem_of_getElem? (i := 16) rfl))) (mvT hZ (hw _ (List.mem_of_getElem? (i := 17) rfl))) (mvT hZ (hw _ (List.mem_of_getElem? (i := 14) rfl))) (mvT hZ (hw _ (List.mem_of_getElem? (i := 18) rfl))) (by decide) (backOf (W := 0) (rm4 l Z a0 hw [] ((p2.toUInt32 >>> ((16 : Int32) &&& 31).toUInt32).toInt32) h0 n0 ZZ ) hZ (hw _ (List.mem_of_getElem? (i := 18) rfl)) (hw _ (List.mem_of_getElem? (i := 14) rfl)) (by decide) (by decide)) (g := (mkF m 9 #[.val (.ref r0), .val (.ref r1), .val (.int p2), .val (.int (oI x)), .unset, .unset, .unset, .unset] [(.int ((p2.toUInt32 >>> ((16 : Int32) &&& 31).toUInt32).toInt32))])) rfl (by rw [hml]; rfl) (argsL := [(.int ((p2.toUInt32 >>> ((16 : Int32) &&& 31).toUInt32).toInt32))]) (rest := []) (lenOf pd_0 rfl) rfl (by show 2 * 0 + _ ≤ _; exact Nat.le_of_eq rfl) (hb hby d3_9) (fun _ _ => ⟨rfl, e16, (by decide : 0 + 0 ≤ _), (by decide : 0 + 0 ≤ _)⟩)
  dsimp only [Pt.U, Pt.locs, Pt.cells, Pt.slots] at X17 l17 y17 z17 st17 hQ17
  subst l17 y17 z17
  obtain ⟨rfl, N17q, e17⟩ := hQ17
  replace N0 := Fr.app N0 N17q
  refine gs st17 ?_
  show Go p e below s QQ 0 0 (T17.setTop (mkF m 12 #[.val (.ref r0), .val (.ref r1), .val (.int p2), .val (.int (oI x)), .unset, .unset, .unset, .unset] [(.int ((((p2.toUInt32 >>> ((16 : Int32) &&& 31).toUInt32).toInt32) &&& (2147483647 : Int32)) % (5 : Int32)))]))
  rw [show ((((p2.toUInt32 >>> ((16 : Int32) &&& 31).toUInt32).toInt32) &&& (2147483647 : Int32)) % (5 : Int32)) = (oI y) from hye]
  show Go p e below s QQ 0 0 (T17.setTop (mkF m 12 #[.val (.ref r0), .val (.ref r1), .val (.int p2), .val (.int (oI x)), .unset, .unset, .unset, .unset] [(.int (oI y))]))
  refine gs (fun t => XS.istore X17.here hx rfl (hb hby d3_12) rfl (l' := #[.val (.ref r0), .val (.ref r1), .val (.int p2), .val (.int (oI x)), .val (.int (oI y)), .unset, .unset, .unset]) rfl) ?_
  show Go p e below s QQ 0 0 (T17.setTop (mkF m 14 #[.val (.ref r0), .val (.ref r1), .val (.int p2), .val (.int (oI x)), .val (.int (oI y)), .unset, .unset, .unset] []))
  refine gs (fun t => XS.aloadN X17.here hx rfl (hb hby d3_14) rfl rfl) ?_
  show Go p e below s QQ 0 0 (T17.setTop (mkF m 15 #[.val (.ref r0), .val (.ref r1), .val (.int p2), .val (.int (oI x)), .val (.int (oI y)), .unset, .unset, .unset] [(.ref r0)]))
  refine gs (fun t => XS.iloadN X17.here hx rfl (hb hby d3_15) rfl) ?_
  show Go p e below s QQ 0 0 (T17.setTop (mkF m 16 #[.val (.ref r0), .val (.ref r1), .val (.int p2), .val (.int (oI x)), .val (.int (oI y)), .unset, .unset, .unset] [(.int (oI x)), (.ref r0)]))
  refine gs (fun t => XS.iload X17.here hx rfl (hb hby d3_16) rfl) ?_
  show Go p e below s QQ 0 0 (T17.setTop (mkF m 18 #[.val (.ref r0), .val (.ref r1), .val (.int p2), .val (.int (oI x)), .val (.int (oI y)), .unset, .unset, .unset] [(.int (oI y)), (.int (oI x)), (.ref r0)]))
  obtain ⟨cq18, kq18, q18a, q18b, q18c⟩ := isOf hZ e17 E_r0
  obtain ⟨_, _, ⟨T18, L18, k18, n18⟩, -, X18, ⟨Lc18, hQ18, l18, y18, z18⟩, st18⟩ := X17.virtualBack hx (y := (⟨"com/example/seshat/seshat/DisjointSets", "join", "(II)I"⟩ : MethodName)) (z := (⟨"com/example/seshat/seshat/DisjointSets", "join", "(II)I"⟩ : MethodName)) hown (mvT hZ (hw _ (List.mem_of_getElem? (i := 20) rfl))) (mvT hZ (hw _ (List.mem_of_getElem? (i := 21) rfl))) (notFace_of_selects (args := #[]) (mvT hZ (hw _ (List.mem_of_getElem? (i := 23) rfl)))) (mvT hZ (hw _ (List.mem_of_getElem? (i := 23) rfl))) (mvT hZ (hw _ (List.mem_of_getElem? (i := 22) rfl))) (by decide) (backOf (W := 0) (rm5 l Z a0 hw [] r0 x y pa s0 h0 n0 ZZ F_parents_r0 E_r0 V_pa ge_pa ne_r0_pa hx5 hy5) hZ (hw _ (List.mem_of_getElem? (i := 24) rfl)) (hw _ (List.mem_of_getElem? (i := 3) rfl)) (by decide) (by decide)) q18a q18c (g := (mkF m 18 #[.val (.ref r0), .val (.ref r1), .val (.int p2), .val (.int (oI x)), .val (.int (oI y)), .unset, .unset, .unset] [(.int (oI y)), (.int (oI x)), (.ref r0)])) rfl (by rw [hml]; rfl) (Steps.refl _) (argsL := [(.int (oI x)), (.int (oI y))]) (rest := []) (lenOf pd_1 rfl) rfl (by show 2 * 0 + _ ≤ _; exact Nat.le_of_eq rfl) (hb hby d3_18) (fun _ _ => ⟨rfl, e17, (by decide : 0 + 0 ≤ _), (by decide : 0 + 0 ≤ _)⟩)
  dsimp only [Pt.U, Pt.locs, Pt.cells, Pt.slots] at X18 l18 y18 z18 st18 hQ18
  subst l18 y18 z18
  obtain ⟨z18, rfl, N18q, K18, s1, hs1, Vn18⟩ := hQ18
  replace N0 := Fr.app N0 N18q
  refine gt st18 ?_
  show Go p e below s QQ 0 0 (T18.setTop (mkF m 21 #[.val (.ref r0), .val (.ref r1), .val (.int p2), .val (.int (oI x)), .val (.int (oI y)), .unset, .unset, .unset] [(.int z18)]))
  replace F_parents_r0 := F_parents_r0.keep K18 (ninS ne_r0_pa nin0)
  replace E_r0 := E_r0.keep K18
  replace V_r1 := V_r1.keep K18 (ninS ne_r1_pa nin0)
  replace ZZ := Nat.le_trans ZZ K18.1
  replace KK := KK.trans K18 (allS (Or.inl (by simp)) all0)
  have V_pa := Vn18
  have ha := own_r5 s0 hx5
  have hb2 := own_r5 s0 hy5
  refine gs (fun t => XS.pop X18.here hx rfl (hb hby d3_21) rfl rfl) ?_
  show Go p e below s QQ 0 0 (T18.setTop (mkF m 22 #[.val (.ref r0), .val (.ref r1), .val (.int p2), .val (.int (oI x)), .val (.int (oI y)), .unset, .unset, .unset] []))
  refine gs (fun t => XS.aloadN X18.here hx rfl (hb hby d3_22) rfl rfl) ?_
  show Go p e below s QQ 0 0 (T18.setTop (mkF m 23 #[.val (.ref r0), .val (.ref r1), .val (.int p2), .val (.int (oI x)), .val (.int (oI y)), .unset, .unset, .unset] [(.ref r1)]))
  refine gs (fun t => XS.iloadN X18.here hx rfl (hb hby d3_23) rfl) ?_
  show Go p e below s QQ 0 0 (T18.setTop (mkF m 24 #[.val (.ref r0), .val (.ref r1), .val (.int p2), .val (.int (oI x)), .val (.int (oI y)), .unset, .unset, .unset] [(.int (oI x)), (.ref r1)]))
  refine gs (fun t => ldIf X18 hx hZ rfl V_r1 (j := (oI x)) (v := (.int (oI (own_rt s0 x)))) (oI_in hx5) (own_nfat _ hx5) (g := (mkF m 24 #[.val (.ref r0), .val (.ref r1), .val (.int p2), .val (.int (oI x)), .val (.int (oI y)), .unset, .unset, .unset] [(.int (oI x)), (.ref r1)])) rfl rfl (hb hby d3_24) t) ?_
  show Go p e below s QQ 0 0 (T18.setTop (mkF m 25 #[.val (.ref r0), .val (.ref r1), .val (.int p2), .val (.int (oI x)), .val (.int (oI y)), .unset, .unset, .unset] [(.int (oI (own_rt s0 x)))]))
  refine gs (fun t => XS.istore X18.here hx rfl (hb hby d3_25) rfl (l' := #[.val (.ref r0), .val (.ref r1), .val (.int p2), .val (.int (oI x)), .val (.int (oI y)), .val (.int (oI (own_rt s0 x))), .unset, .unset]) rfl) ?_
  show Go p e below s QQ 0 0 (T18.setTop (mkF m 27 #[.val (.ref r0), .val (.ref r1), .val (.int p2), .val (.int (oI x)), .val (.int (oI y)), .val (.int (oI (own_rt s0 x))), .unset, .unset] []))
  refine gs (fun t => XS.aloadN X18.here hx rfl (hb hby d3_27) rfl rfl) ?_
  show Go p e below s QQ 0 0 (T18.setTop (mkF m 28 #[.val (.ref r0), .val (.ref r1), .val (.int p2), .val (.int (oI x)), .val (.int (oI y)), .val (.int (oI (own_rt s0 x))), .unset, .unset] [(.ref r1)]))
  refine gs (fun t => XS.iload X18.here hx rfl (hb hby d3_28) rfl) ?_
  show Go p e below s QQ 0 0 (T18.setTop (mkF m 30 #[.val (.ref r0), .val (.ref r1), .val (.int p2), .val (.int (oI x)), .val (.int (oI y)), .val (.int (oI (own_rt s0 x))), .unset, .unset] [(.int (oI y)), (.ref r1)]))
  refine gs (fun t => ldIf X18 hx hZ rfl V_r1 (j := (oI y)) (v := (.int (oI (own_rt s0 y)))) (oI_in hy5) (own_nfat _ hy5) (g := (mkF m 30 #[.val (.ref r0), .val (.ref r1), .val (.int p2), .val (.int (oI x)), .val (.int (oI y)), .val (.int (oI (own_rt s0 x))), .unset, .unset] [(.int (oI y)), (.ref r1)])) rfl rfl (hb hby d3_30) t) ?_
  show Go p e below s QQ 0 0 (T18.setTop (mkF m 31 #[.val (.ref r0), .val (.ref r1), .val (.int p2), .val (.int (oI x)), .val (.int (oI y)), .val (.int (oI (own_rt s0 x))), .unset, .unset] [(.int (oI (own_rt s0 y)))]))
  refine gs (fun t => XS.istore X18.here hx rfl (hb hby d3_31) rfl (l' := #[.val (.ref r0), .val (.ref r1), .val (.int p2), .val (.int (oI x)), .val (.int (oI y)), .val (.int (oI (own_rt s0 x))), .val (.int (oI (own_rt s0 y))), .unset]) rfl) ?_
  show Go p e below s QQ 0 0 (T18.setTop (mkF m 33 #[.val (.ref r0), .val (.ref r1), .val (.int p2), .val (.int (oI x)), .val (.int (oI y)), .val (.int (oI (own_rt s0 x))), .val (.int (oI (own_rt s0 y))), .unset] []))
  refine gs (fun t => XS.iload X18.here hx rfl (hb hby d3_33) rfl) ?_
  show Go p e below s QQ 0 0 (T18.setTop (mkF m 35 #[.val (.ref r0), .val (.ref r1), .val (.int p2), .val (.int (oI x)), .val (.int (oI y)), .val (.int (oI (own_rt s0 x))), .val (.int (oI (own_rt s0 y))), .unset] [(.int (oI (own_rt s0 x)))]))
  refine gs (fun t => XS.iload X18.here hx rfl (hb hby d3_35) rfl) ?_
  show Go p e below s QQ 0 0 (T18.setTop (mkF m 37 #[.val (.ref r0), .val (.ref r1), .val (.int p2), .val (.int (oI x)), .val (.int (oI y)), .val (.int (oI (own_rt s0 x))), .val (.int (oI (own_rt s0 y))), .unset] [(.int (oI (own_rt s0 y))), (.int (oI (own_rt s0 x)))]))
  obtain ⟨_, _, ⟨T19, L19, k19, n19⟩, -, X19, ⟨Lc19, hQ19, l19, y19, z19⟩, st19⟩ := Jvm.LawKit.callS X18 hx (y := (⟨"java/lang/Math", "min", "(II)I"⟩ : MethodName)) hown (mvT hZ (hw _ (List.mem_of_getElem? (i := 37) rfl))) (mvT hZ (hw _ (List.mem_of_getElem? (i := 31) rfl))) (mvT hZ (hw _ (List.mem_of_getElem? (i := 32) rfl))) (mvT hZ (hw _ (List.mem_of_getElem? (i := 33) rfl))) (by decide) (backOf (W := 0) (rm7 l Z a0 hw [] (oI (own_rt s0 x)) (oI (own_rt s0 y)) T18.heap n0 ZZ ) hZ (hw _ (List.mem_of_getElem? (i := 33) rfl)) (hw _ (List.mem_of_getElem? (i := 32) rfl)) (by decide) (by decide)) (g := (mkF m 37 #[.val (.ref r0), .val (.ref r1), .val (.int p2), .val (.int (oI x)), .val (.int (oI y)), .val (.int (oI (own_rt s0 x))), .val (.int (oI (own_rt s0 y))), .unset] [(.int (oI (own_rt s0 y))), (.int (oI (own_rt s0 x)))])) rfl (by rw [hml]; rfl) (argsL := [(.int (oI (own_rt s0 x))), (.int (oI (own_rt s0 y)))]) (rest := []) (lenOf pd_1 rfl) rfl (by show 2 * 0 + _ ≤ _; exact Nat.le_of_eq rfl) (hb hby d3_37) (fun _ _ => ⟨rfl, rfl, (by decide : 0 + 0 ≤ _), (by decide : 0 + 0 ≤ _)⟩)
  dsimp only [Pt.U, Pt.locs, Pt.cells, Pt.slots] at X19 l19 y19 z19 st19 hQ19
  subst l19 y19 z19
  obtain ⟨rfl, N19q, e19⟩ := hQ19
  replace N0 := Fr.app N0 N19q
  refine gs st19 ?_
  show Go p e below s QQ 0 0 (T19.setTop (mkF m 40 #[.val (.ref r0), .val (.ref r1), .val (.int p2), .val (.int (oI x)), .val (.int (oI y)), .val (.int (oI (own_rt s0 x))), .val (.int (oI (own_rt s0 y))), .unset] [(.int (if (oI (own_rt s0 y)) < (oI (own_rt s0 x)) then (oI (own_rt s0 y)) else (oI (own_rt s0 x))))]))
  rw [show (if (oI (own_rt s0 y)) < (oI (own_rt s0 x)) then (oI (own_rt s0 y)) else (oI (own_rt s0 x))) = (oI (min (own_rt s0 x) (own_rt s0 y))) from oI_min ha hb2]
  show Go p e below s QQ 0 0 (T19.setTop (mkF m 40 #[.val (.ref r0), .val (.ref r1), .val (.int p2), .val (.int (oI x)), .val (.int (oI y)), .val (.int (oI (own_rt s0 x))), .val (.int (oI (own_rt s0 y))), .unset] [(.int (oI (min (own_rt s0 x) (own_rt s0 y))))]))
  replace V_r1 : Arf Z T18.heap r1 .int 5 (own_nf (own_lab s0 (own_rt s0 x) (own_rt s0 y) (min (own_rt s0 x) (own_rt s0 y)) 0)) := V_r1.congr (fun j _ => by simp only [own_nf, own_lab]; rw [if_neg (fun q => Nat.not_lt_zero _ q.1)])
  refine gs (fun t => XS.istore X19.here hx rfl (hb hby d3_40) rfl (l' := #[.val (.ref r0), .val (.ref r1), .val (.int p2), .val (.int (oI x)), .val (.int (oI y)), .val (.int (oI (own_rt s0 x))), .val (.int (oI (own_rt s0 y))), .val (.int (oI (min (own_rt s0 x) (own_rt s0 y))))]) rfl) ?_
  show Go p e below s QQ 0 0 (T19.setTop (mkF m 42 #[.val (.ref r0), .val (.ref r1), .val (.int p2), .val (.int (oI x)), .val (.int (oI y)), .val (.int (oI (own_rt s0 x))), .val (.int (oI (own_rt s0 y))), .val (.int (oI (min (own_rt s0 x) (own_rt s0 y))))] []))
  refine gs (fun t => XS.aloadN X19.here hx rfl (hb hby d3_42) rfl rfl) ?_
  show Go p e below s QQ 0 0 (T19.setTop (mkF m 43 #[.val (.ref r0), .val (.ref r1), .val (.int p2), .val (.int (oI x)), .val (.int (oI y)), .val (.int (oI (own_rt s0 x))), .val (.int (oI (own_rt s0 y))), .val (.int (oI (min (own_rt s0 x) (own_rt s0 y))))] [(.ref r1)]))
  refine gs (fun t => XS.iconst X19.here hx rfl (hb hby d3_43)) ?_
  show Go p e below s QQ 0 0 (T19.setTop (mkF m 44 #[.val (.ref r0), .val (.ref r1), .val (.int p2), .val (.int (oI x)), .val (.int (oI y)), .val (.int (oI (own_rt s0 x))), .val (.int (oI (own_rt s0 y))), .val (.int (oI (min (own_rt s0 x) (own_rt s0 y))))] [(.int (0 : Int32)), (.ref r1)]))
  refine gs (fun t => XS.iload X19.here hx rfl (hb hby d3_44) rfl) ?_
  show Go p e below s QQ 0 0 (T19.setTop (mkF m 46 #[.val (.ref r0), .val (.ref r1), .val (.int p2), .val (.int (oI x)), .val (.int (oI y)), .val (.int (oI (own_rt s0 x))), .val (.int (oI (own_rt s0 y))), .val (.int (oI (min (own_rt s0 x) (own_rt s0 y))))] [(.int (oI (own_rt s0 x))), (.int (0 : Int32)), (.ref r1)]))
  refine gs (fun t => XS.iload X19.here hx rfl (hb hby d3_46) rfl) ?_
  show Go p e below s QQ 0 0 (T19.setTop (mkF m 48 #[.val (.ref r0), .val (.ref r1), .val (.int p2), .val (.int (oI x)), .val (.int (oI y)), .val (.int (oI (own_rt s0 x))), .val (.int (oI (own_rt s0 y))), .val (.int (oI (min (own_rt s0 x) (own_rt s0 y))))] [(.int (oI (own_rt s0 y))), (.int (oI (own_rt s0 x))), (.int (0 : Int32)), (.ref r1)]))
  refine gs (fun t => XS.iload X19.here hx rfl (hb hby d3_48) rfl) ?_
  show Go p e below s QQ 0 0 (T19.setTop (mkF m 50 #[.val (.ref r0), .val (.ref r1), .val (.int p2), .val (.int (oI x)), .val (.int (oI y)), .val (.int (oI (own_rt s0 x))), .val (.int (oI (own_rt s0 y))), .val (.int (oI (min (own_rt s0 x) (own_rt s0 y))))] [(.int (oI (min (own_rt s0 x) (own_rt s0 y)))), (.int (oI (own_rt s0 y))), (.int (oI (own_rt s0 x))), (.int (0 : Int32)), (.ref r1)]))
  show Go p e below s QQ 0 0 (T19.setTop (mkF m 50 #[.val (.ref r0), .val (.ref r1), .val (.int p2), .val (.int (oI x)), .val (.int (oI y)), .val (.int (oI (own_rt s0 x))), .val (.int (oI (own_rt s0 y))), .val (.int (oI (min (own_rt s0 x) (own_rt s0 y))))] [(.int (oI (min (own_rt s0 x) (own_rt s0 y)))), (.int (oI (own_rt s0 y))), (.int (oI (own_rt s0 x))), (.int (oI 0)), (.ref r1)]))
  obtain ⟨_, _, ⟨T20, L20, k20, n20⟩, -, X20, ⟨Lc20, hQ20, l20, y20, z20⟩, st20⟩ := Jvm.LawKit.callS X19 hx (y := (⟨"com/example/seshat/seshat/DisjointSetsRootPinLaw", "relabel", "([IIIII)V"⟩ : MethodName)) hown (mvT hZ (hw _ (List.mem_of_getElem? (i := 38) rfl))) (mvT hZ (hw _ (List.mem_of_getElem? (i := 39) rfl))) (mvT hZ (hw _ (List.mem_of_getElem? (i := 14) rfl))) (mvT hZ (hw _ (List.mem_of_getElem? (i := 40) rfl))) (by decide) (backOf (W := 0) (rm9 l Z a0 hw [] r1 0 (own_rt s0 x) (own_rt s0 y) (min (own_rt s0 x) (own_rt s0 y)) (own_lab s0 (own_rt s0 x) (own_rt s0 y) (min (own_rt s0 x) (own_rt s0 y)) 0) T18.heap n0 ZZ V_r1 ge_r1 (by decide) ha hb2 (by unfold own_lab; rw [if_neg (fun q => by omega)]; exact own_r5 s0 (by decide))) hZ (hw _ (List.mem_of_getElem? (i := 40) rfl)) (hw _ (List.mem_of_getElem? (i := 14) rfl)) (by decide) (by decide)) (g := (mkF m 50 #[.val (.ref r0), .val (.ref r1), .val (.int p2), .val (.int (oI x)), .val (.int (oI y)), .val (.int (oI (own_rt s0 x))), .val (.int (oI (own_rt s0 y))), .val (.int (oI (min (own_rt s0 x) (own_rt s0 y))))] [(.int (oI (min (own_rt s0 x) (own_rt s0 y)))), (.int (oI (own_rt s0 y))), (.int (oI (own_rt s0 x))), (.int (oI 0)), (.ref r1)])) rfl (by rw [hml]; rfl) (argsL := [(.ref r1), (.int (oI 0)), (.int (oI (own_rt s0 x))), (.int (oI (own_rt s0 y))), (.int (oI (min (own_rt s0 x) (own_rt s0 y))))]) (rest := []) (lenOf pd_2 rfl) rfl (by show 2 * 0 + _ ≤ _; exact Nat.le_of_eq rfl) (hb hby d3_50) (fun _ _ => ⟨rfl, e19, (by decide : 0 + 0 ≤ _), (by decide : 0 + 0 ≤ _)⟩)
  dsimp only [Pt.U, Pt.locs, Pt.cells, Pt.slots] at X20 l20 y20 z20 st20 hQ20
  subst l20 y20 z20
  obtain ⟨rfl, N20q, K20, Vn20⟩ := hQ20
  replace N0 := Fr.app N0 N20q
  refine gs st20 ?_
  show Go p e below s QQ 0 0 (T20.setTop (mkF m 53 #[.val (.ref r0), .val (.ref r1), .val (.int p2), .val (.int (oI x)), .val (.int (oI y)), .val (.int (oI (own_rt s0 x))), .val (.int (oI (own_rt s0 y))), .val (.int (oI (min (own_rt s0 x) (own_rt s0 y))))] []))
  replace F_parents_r0 := F_parents_r0.keep K20 (ninS ne_r0_r1 nin0)
  replace E_r0 := E_r0.keep K20
  replace V_pa := V_pa.keep K20 (ninS (Ne.symm ne_r1_pa) nin0)
  replace ZZ := Nat.le_trans ZZ K20.1
  replace KK := KK.trans K20 (allS (Or.inl (by simp)) all0)
  have V_r1 : Arf Z T20.heap r1 .int 5 (own_nf (own_lab s0 (own_rt s0 x) (own_rt s0 y) (min (own_rt s0 x) (own_rt s0 y)) 1)) := Vn20.congr (fun j _ => by simp only [own_nf]; rw [own_lab1])
  refine gs (fun t => XS.aloadN X20.here hx rfl (hb hby d3_53) rfl rfl) ?_
  show Go p e below s QQ 0 0 (T20.setTop (mkF m 54 #[.val (.ref r0), .val (.ref r1), .val (.int p2), .val (.int (oI x)), .val (.int (oI y)), .val (.int (oI (own_rt s0 x))), .val (.int (oI (own_rt s0 y))), .val (.int (oI (min (own_rt s0 x) (own_rt s0 y))))] [(.ref r1)]))
  refine gs (fun t => XS.iconst X20.here hx rfl (hb hby d3_54)) ?_
  show Go p e below s QQ 0 0 (T20.setTop (mkF m 55 #[.val (.ref r0), .val (.ref r1), .val (.int p2), .val (.int (oI x)), .val (.int (oI y)), .val (.int (oI (own_rt s0 x))), .val (.int (oI (own_rt s0 y))), .val (.int (oI (min (own_rt s0 x) (own_rt s0 y))))] [(.int (1 : Int32)), (.ref r1)]))
  refine gs (fun t => XS.iload X20.here hx rfl (hb hby d3_55) rfl) ?_
  show Go p e below s QQ 0 0 (T20.setTop (mkF m 57 #[.val (.ref r0), .val (.ref r1), .val (.int p2), .val (.int (oI x)), .val (.int (oI y)), .val (.int (oI (own_rt s0 x))), .val (.int (oI (own_rt s0 y))), .val (.int (oI (min (own_rt s0 x) (own_rt s0 y))))] [(.int (oI (own_rt s0 x))), (.int (1 : Int32)), (.ref r1)]))
  refine gs (fun t => XS.iload X20.here hx rfl (hb hby d3_57) rfl) ?_
  show Go p e below s QQ 0 0 (T20.setTop (mkF m 59 #[.val (.ref r0), .val (.ref r1), .val (.int p2), .val (.int (oI x)), .val (.int (oI y)), .val (.int (oI (own_rt s0 x))), .val (.int (oI (own_rt s0 y))), .val (.int (oI (min (own_rt s0 x) (own_rt s0 y))))] [(.int (oI (own_rt s0 y))), (.int (oI (own_rt s0 x))), (.int (1 : Int32)), (.ref r1)]))
  refine gs (fun t => XS.iload X20.here hx rfl (hb hby d3_59) rfl) ?_
  show Go p e below s QQ 0 0 (T20.setTop (mkF m 61 #[.val (.ref r0), .val (.ref r1), .val (.int p2), .val (.int (oI x)), .val (.int (oI y)), .val (.int (oI (own_rt s0 x))), .val (.int (oI (own_rt s0 y))), .val (.int (oI (min (own_rt s0 x) (own_rt s0 y))))] [(.int (oI (min (own_rt s0 x) (own_rt s0 y)))), (.int (oI (own_rt s0 y))), (.int (oI (own_rt s0 x))), (.int (1 : Int32)), (.ref r1)]))
  show Go p e below s QQ 0 0 (T20.setTop (mkF m 61 #[.val (.ref r0), .val (.ref r1), .val (.int p2), .val (.int (oI x)), .val (.int (oI y)), .val (.int (oI (own_rt s0 x))), .val (.int (oI (own_rt s0 y))), .val (.int (oI (min (own_rt s0 x) (own_rt s0 y))))] [(.int (oI (min (own_rt s0 x) (own_rt s0 y)))), (.int (oI (own_rt s0 y))), (.int (oI (own_rt s0 x))), (.int (oI 1)), (.ref r1)]))
  obtain ⟨_, _, ⟨T21, L21, k21, n21⟩, -, X21, ⟨Lc21, hQ21, l21, y21, z21⟩, st21⟩ := Jvm.LawKit.callS X20 hx (y := (⟨"com/example/seshat/seshat/DisjointSetsRootPinLaw", "relabel", "([IIIII)V"⟩ : MethodName)) hown (mvT hZ (hw _ (List.mem_of_getElem? (i := 38) rfl))) (mvT hZ (hw _ (List.mem_of_getElem? (i := 39) rfl))) (mvT hZ (hw _ (List.mem_of_getElem? (i := 14) rfl))) (mvT hZ (hw _ (List.mem_of_getElem? (i := 40) rfl))) (by decide) (backOf (W := 0) (rm9 l Z a0 hw [] r1 1 (own_rt s0 x) (own_rt s0 y) (min (own_rt s0 x) (own_rt s0 y)) (own_lab s0 (own_rt s0 x) (own_rt s0 y) (min (own_rt s0 x) (own_rt s0 y)) 1) T20.heap n0 ZZ V_r1 ge_r1 (by decide) ha hb2 (by unfold own_lab; rw [if_neg (fun q => by omega)]; exact own_r5 s0 (by decide))) hZ (hw _ (List.mem_of_getElem? (i := 40) rfl)) (hw _ (List.mem_of_getElem? (i := 14) rfl)) (by decide) (by decide)) (g := (mkF m 61 #[.val (.ref r0), .val (.ref r1), .val (.int p2), .val (.int (oI x)), .val (.int (oI y)), .val (.int (oI (own_rt s0 x))), .val (.int (oI (own_rt s0 y))), .val (.int (oI (min (own_rt s0 x) (own_rt s0 y))))] [(.int (oI (min (own_rt s0 x) (own_rt s0 y)))), (.int (oI (own_rt s0 y))), (.int (oI (own_rt s0 x))), (.int (oI 1)), (.ref r1)])) rfl (by rw [hml]; rfl) (argsL := [(.ref r1), (.int (oI 1)), (.int (oI (own_rt s0 x))), (.int (oI (own_rt s0 y))), (.int (oI (min (own_rt s0 x) (own_rt s0 y))))]) (rest := []) (lenOf pd_2 rfl) rfl (by show 2 * 0 + _ ≤ _; exact Nat.le_of_eq rfl) (hb hby d3_61) (fun _ _ => ⟨rfl, rfl, (by decide : 0 + 0 ≤ _), (by decide : 0 + 0 ≤ _)⟩)
  dsimp only [Pt.U, Pt.locs, Pt.cells, Pt.slots] at X21 l21 y21 z21 st21 hQ21
  subst l21 y21 z21
  obtain ⟨rfl, N21q, K21, Vn21⟩ := hQ21
  replace N0 := Fr.app N0 N21q
  refine gs st21 ?_
  show Go p e below s QQ 0 0 (T21.setTop (mkF m 64 #[.val (.ref r0), .val (.ref r1), .val (.int p2), .val (.int (oI x)), .val (.int (oI y)), .val (.int (oI (own_rt s0 x))), .val (.int (oI (own_rt s0 y))), .val (.int (oI (min (own_rt s0 x) (own_rt s0 y))))] []))
  replace F_parents_r0 := F_parents_r0.keep K21 (ninS ne_r0_r1 nin0)
  replace E_r0 := E_r0.keep K21
  replace V_pa := V_pa.keep K21 (ninS (Ne.symm ne_r1_pa) nin0)
  replace ZZ := Nat.le_trans ZZ K21.1
  replace KK := KK.trans K21 (allS (Or.inl (by simp)) all0)
  have V_r1 : Arf Z T21.heap r1 .int 5 (own_nf (own_lab s0 (own_rt s0 x) (own_rt s0 y) (min (own_rt s0 x) (own_rt s0 y)) 2)) := Vn21.congr (fun j _ => by simp only [own_nf]; rw [own_lab1])
  refine gs (fun t => XS.aloadN X21.here hx rfl (hb hby d3_64) rfl rfl) ?_
  show Go p e below s QQ 0 0 (T21.setTop (mkF m 65 #[.val (.ref r0), .val (.ref r1), .val (.int p2), .val (.int (oI x)), .val (.int (oI y)), .val (.int (oI (own_rt s0 x))), .val (.int (oI (own_rt s0 y))), .val (.int (oI (min (own_rt s0 x) (own_rt s0 y))))] [(.ref r1)]))
  refine gs (fun t => XS.iconst X21.here hx rfl (hb hby d3_65)) ?_
  show Go p e below s QQ 0 0 (T21.setTop (mkF m 66 #[.val (.ref r0), .val (.ref r1), .val (.int p2), .val (.int (oI x)), .val (.int (oI y)), .val (.int (oI (own_rt s0 x))), .val (.int (oI (own_rt s0 y))), .val (.int (oI (min (own_rt s0 x) (own_rt s0 y))))] [(.int (2 : Int32)), (.ref r1)]))
  refine gs (fun t => XS.iload X21.here hx rfl (hb hby d3_66) rfl) ?_
  show Go p e below s QQ 0 0 (T21.setTop (mkF m 68 #[.val (.ref r0), .val (.ref r1), .val (.int p2), .val (.int (oI x)), .val (.int (oI y)), .val (.int (oI (own_rt s0 x))), .val (.int (oI (own_rt s0 y))), .val (.int (oI (min (own_rt s0 x) (own_rt s0 y))))] [(.int (oI (own_rt s0 x))), (.int (2 : Int32)), (.ref r1)]))
  refine gs (fun t => XS.iload X21.here hx rfl (hb hby d3_68) rfl) ?_
  show Go p e below s QQ 0 0 (T21.setTop (mkF m 70 #[.val (.ref r0), .val (.ref r1), .val (.int p2), .val (.int (oI x)), .val (.int (oI y)), .val (.int (oI (own_rt s0 x))), .val (.int (oI (own_rt s0 y))), .val (.int (oI (min (own_rt s0 x) (own_rt s0 y))))] [(.int (oI (own_rt s0 y))), (.int (oI (own_rt s0 x))), (.int (2 : Int32)), (.ref r1)]))
  refine gs (fun t => XS.iload X21.here hx rfl (hb hby d3_70) rfl) ?_
  show Go p e below s QQ 0 0 (T21.setTop (mkF m 72 #[.val (.ref r0), .val (.ref r1), .val (.int p2), .val (.int (oI x)), .val (.int (oI y)), .val (.int (oI (own_rt s0 x))), .val (.int (oI (own_rt s0 y))), .val (.int (oI (min (own_rt s0 x) (own_rt s0 y))))] [(.int (oI (min (own_rt s0 x) (own_rt s0 y)))), (.int (oI (own_rt s0 y))), (.int (oI (own_rt s0 x))), (.int (2 : Int32)), (.ref r1)]))
  show Go p e below s QQ 0 0 (T21.setTop (mkF m 72 #[.val (.ref r0), .val (.ref r1), .val (.int p2), .val (.int (oI x)), .val (.int (oI y)), .val (.int (oI (own_rt s0 x))), .val (.int (oI (own_rt s0 y))), .val (.int (oI (min (own_rt s0 x) (own_rt s0 y))))] [(.int (oI (min (own_rt s0 x) (own_rt s0 y)))), (.int (oI (own_rt s0 y))), (.int (oI (own_rt s0 x))), (.int (oI 2)), (.ref r1)]))
  obtain ⟨_, _, ⟨T22, L22, k22, n22⟩, -, X22, ⟨Lc22, hQ22, l22, y22, z22⟩, st22⟩ := Jvm.LawKit.callS X21 hx (y := (⟨"com/example/seshat/seshat/DisjointSetsRootPinLaw", "relabel", "([IIIII)V"⟩ : MethodName)) hown (mvT hZ (hw _ (List.mem_of_getElem? (i := 38) rfl))) (mvT hZ (hw _ (List.mem_of_getElem? (i := 39) rfl))) (mvT hZ (hw _ (List.mem_of_getElem? (i := 14) rfl))) (mvT hZ (hw _ (List.mem_of_getElem? (i := 40) rfl))) (by decide) (backOf (W := 0) (rm9 l Z a0 hw [] r1 2 (own_rt s0 x) (own_rt s0 y) (min (own_rt s0 x) (own_rt s0 y)) (own_lab s0 (own_rt s0 x) (own_rt s0 y) (min (own_rt s0 x) (own_rt s0 y)) 2) T21.heap n0 ZZ V_r1 ge_r1 (by decide) ha hb2 (by unfold own_lab; rw [if_neg (fun q => by omega)]; exact own_r5 s0 (by decide))) hZ (hw _ (List.mem_of_getElem? (i := 40) rfl)) (hw _ (List.mem_of_getElem? (i := 14) rfl)) (by decide) (by decide)) (g := (mkF m 72 #[.val (.ref r0), .val (.ref r1), .val (.int p2), .val (.int (oI x)), .val (.int (oI y)), .val (.int (oI (own_rt s0 x))), .val (.int (oI (own_rt s0 y))), .val (.int (oI (min (own_rt s0 x) (own_rt s0 y))))] [(.int (oI (min (own_rt s0 x) (own_rt s0 y)))), (.int (oI (own_rt s0 y))), (.int (oI (own_rt s0 x))), (.int (oI 2)), (.ref r1)])) rfl (by rw [hml]; rfl) (argsL := [(.ref r1), (.int (oI 2)), (.int (oI (own_rt s0 x))), (.int (oI (own_rt s0 y))), (.int (oI (min (own_rt s0 x) (own_rt s0 y))))]) (rest := []) (lenOf pd_2 rfl) rfl (by show 2 * 0 + _ ≤ _; exact Nat.le_of_eq rfl) (hb hby d3_72) (fun _ _ => ⟨rfl, rfl, (by decide : 0 + 0 ≤ _), (by decide : 0 + 0 ≤ _)⟩)
  dsimp only [Pt.U, Pt.locs, Pt.cells, Pt.slots] at X22 l22 y22 z22 st22 hQ22
  subst l22 y22 z22
  obtain ⟨rfl, N22q, K22, Vn22⟩ := hQ22
  replace N0 := Fr.app N0 N22q
  refine gs st22 ?_
  show Go p e below s QQ 0 0 (T22.setTop (mkF m 75 #[.val (.ref r0), .val (.ref r1), .val (.int p2), .val (.int (oI x)), .val (.int (oI y)), .val (.int (oI (own_rt s0 x))), .val (.int (oI (own_rt s0 y))), .val (.int (oI (min (own_rt s0 x) (own_rt s0 y))))] []))
  replace F_parents_r0 := F_parents_r0.keep K22 (ninS ne_r0_r1 nin0)
  replace E_r0 := E_r0.keep K22
  replace V_pa := V_pa.keep K22 (ninS (Ne.symm ne_r1_pa) nin0)
  replace ZZ := Nat.le_trans ZZ K22.1
  replace KK := KK.trans K22 (allS (Or.inl (by simp)) all0)
  have V_r1 : Arf Z T22.heap r1 .int 5 (own_nf (own_lab s0 (own_rt s0 x) (own_rt s0 y) (min (own_rt s0 x) (own_rt s0 y)) 3)) := Vn22.congr (fun j _ => by simp only [own_nf]; rw [own_lab1])
  refine gs (fun t => XS.aloadN X22.here hx rfl (hb hby d3_75) rfl rfl) ?_
  show Go p e below s QQ 0 0 (T22.setTop (mkF m 76 #[.val (.ref r0), .val (.ref r1), .val (.int p2), .val (.int (oI x)), .val (.int (oI y)), .val (.int (oI (own_rt s0 x))), .val (.int (oI (own_rt s0 y))), .val (.int (oI (min (own_rt s0 x) (own_rt s0 y))))] [(.ref r1)]))
  refine gs (fun t => XS.iconst X22.here hx rfl (hb hby d3_76)) ?_
  show Go p e below s QQ 0 0 (T22.setTop (mkF m 77 #[.val (.ref r0), .val (.ref r1), .val (.int p2), .val (.int (oI x)), .val (.int (oI y)), .val (.int (oI (own_rt s0 x))), .val (.int (oI (own_rt s0 y))), .val (.int (oI (min (own_rt s0 x) (own_rt s0 y))))] [(.int (3 : Int32)), (.ref r1)]))
  refine gs (fun t => XS.iload X22.here hx rfl (hb hby d3_77) rfl) ?_
  show Go p e below s QQ 0 0 (T22.setTop (mkF m 79 #[.val (.ref r0), .val (.ref r1), .val (.int p2), .val (.int (oI x)), .val (.int (oI y)), .val (.int (oI (own_rt s0 x))), .val (.int (oI (own_rt s0 y))), .val (.int (oI (min (own_rt s0 x) (own_rt s0 y))))] [(.int (oI (own_rt s0 x))), (.int (3 : Int32)), (.ref r1)]))
  refine gs (fun t => XS.iload X22.here hx rfl (hb hby d3_79) rfl) ?_
  show Go p e below s QQ 0 0 (T22.setTop (mkF m 81 #[.val (.ref r0), .val (.ref r1), .val (.int p2), .val (.int (oI x)), .val (.int (oI y)), .val (.int (oI (own_rt s0 x))), .val (.int (oI (own_rt s0 y))), .val (.int (oI (min (own_rt s0 x) (own_rt s0 y))))] [(.int (oI (own_rt s0 y))), (.int (oI (own_rt s0 x))), (.int (3 : Int32)), (.ref r1)]))
  refine gs (fun t => XS.iload X22.here hx rfl (hb hby d3_81) rfl) ?_
  show Go p e below s QQ 0 0 (T22.setTop (mkF m 83 #[.val (.ref r0), .val (.ref r1), .val (.int p2), .val (.int (oI x)), .val (.int (oI y)), .val (.int (oI (own_rt s0 x))), .val (.int (oI (own_rt s0 y))), .val (.int (oI (min (own_rt s0 x) (own_rt s0 y))))] [(.int (oI (min (own_rt s0 x) (own_rt s0 y)))), (.int (oI (own_rt s0 y))), (.int (oI (own_rt s0 x))), (.int (3 : Int32)), (.ref r1)]))
  show Go p e below s QQ 0 0 (T22.setTop (mkF m 83 #[.val (.ref r0), .val (.ref r1), .val (.int p2), .val (.int (oI x)), .val (.int (oI y)), .val (.int (oI (own_rt s0 x))), .val (.int (oI (own_rt s0 y))), .val (.int (oI (min (own_rt s0 x) (own_rt s0 y))))] [(.int (oI (min (own_rt s0 x) (own_rt s0 y)))), (.int (oI (own_rt s0 y))), (.int (oI (own_rt s0 x))), (.int (oI 3)), (.ref r1)]))
  obtain ⟨_, _, ⟨T23, L23, k23, n23⟩, -, X23, ⟨Lc23, hQ23, l23, y23, z23⟩, st23⟩ := Jvm.LawKit.callS X22 hx (y := (⟨"com/example/seshat/seshat/DisjointSetsRootPinLaw", "relabel", "([IIIII)V"⟩ : MethodName)) hown (mvT hZ (hw _ (List.mem_of_getElem? (i := 38) rfl))) (mvT hZ (hw _ (List.mem_of_getElem? (i := 39) rfl))) (mvT hZ (hw _ (List.mem_of_getElem? (i := 14) rfl))) (mvT hZ (hw _ (List.mem_of_getElem? (i := 40) rfl))) (by decide) (backOf (W := 0) (rm9 l Z a0 hw [] r1 3 (own_rt s0 x) (own_rt s0 y) (min (own_rt s0 x) (own_rt s0 y)) (own_lab s0 (own_rt s0 x) (own_rt s0 y) (min (own_rt s0 x) (own_rt s0 y)) 3) T22.heap n0 ZZ V_r1 ge_r1 (by decide) ha hb2 (by unfold own_lab; rw [if_neg (fun q => by omega)]; exact own_r5 s0 (by decide))) hZ (hw _ (List.mem_of_getElem? (i := 40) rfl)) (hw _ (List.mem_of_getElem? (i := 14) rfl)) (by decide) (by decide)) (g := (mkF m 83 #[.val (.ref r0), .val (.ref r1), .val (.int p2), .val (.int (oI x)), .val (.int (oI y)), .val (.int (oI (own_rt s0 x))), .val (.int (oI (own_rt s0 y))), .val (.int (oI (min (own_rt s0 x) (own_rt s0 y))))] [(.int (oI (min (own_rt s0 x) (own_rt s0 y)))), (.int (oI (own_rt s0 y))), (.int (oI (own_rt s0 x))), (.int (oI 3)), (.ref r1)])) rfl (by rw [hml]; rfl) (argsL := [(.ref r1), (.int (oI 3)), (.int (oI (own_rt s0 x))), (.int (oI (own_rt s0 y))), (.int (oI (min (own_rt s0 x) (own_rt s0 y))))]) (rest := []) (lenOf pd_2 rfl) rfl (by show 2 * 0 + _ ≤ _; exact Nat.le_of_eq rfl) (hb hby d3_83) (fun _ _ => ⟨rfl, rfl, (by decide : 0 + 0 ≤ _), (by decide : 0 + 0 ≤ _)⟩)
  dsimp only [Pt.U, Pt.locs, Pt.cells, Pt.slots] at X23 l23 y23 z23 st23 hQ23
  subst l23 y23 z23
  obtain ⟨rfl, N23q, K23, Vn23⟩ := hQ23
  replace N0 := Fr.app N0 N23q
  refine gs st23 ?_
  show Go p e below s QQ 0 0 (T23.setTop (mkF m 86 #[.val (.ref r0), .val (.ref r1), .val (.int p2), .val (.int (oI x)), .val (.int (oI y)), .val (.int (oI (own_rt s0 x))), .val (.int (oI (own_rt s0 y))), .val (.int (oI (min (own_rt s0 x) (own_rt s0 y))))] []))
  replace F_parents_r0 := F_parents_r0.keep K23 (ninS ne_r0_r1 nin0)
  replace E_r0 := E_r0.keep K23
  replace V_pa := V_pa.keep K23 (ninS (Ne.symm ne_r1_pa) nin0)
  replace ZZ := Nat.le_trans ZZ K23.1
  replace KK := KK.trans K23 (allS (Or.inl (by simp)) all0)
  have V_r1 : Arf Z T23.heap r1 .int 5 (own_nf (own_lab s0 (own_rt s0 x) (own_rt s0 y) (min (own_rt s0 x) (own_rt s0 y)) 4)) := Vn23.congr (fun j _ => by simp only [own_nf]; rw [own_lab1])
  refine gs (fun t => XS.aloadN X23.here hx rfl (hb hby d3_86) rfl rfl) ?_
  show Go p e below s QQ 0 0 (T23.setTop (mkF m 87 #[.val (.ref r0), .val (.ref r1), .val (.int p2), .val (.int (oI x)), .val (.int (oI y)), .val (.int (oI (own_rt s0 x))), .val (.int (oI (own_rt s0 y))), .val (.int (oI (min (own_rt s0 x) (own_rt s0 y))))] [(.ref r1)]))
  refine gs (fun t => XS.iconst X23.here hx rfl (hb hby d3_87)) ?_
  show Go p e below s QQ 0 0 (T23.setTop (mkF m 88 #[.val (.ref r0), .val (.ref r1), .val (.int p2), .val (.int (oI x)), .val (.int (oI y)), .val (.int (oI (own_rt s0 x))), .val (.int (oI (own_rt s0 y))), .val (.int (oI (min (own_rt s0 x) (own_rt s0 y))))] [(.int (4 : Int32)), (.ref r1)]))
  refine gs (fun t => XS.iload X23.here hx rfl (hb hby d3_88) rfl) ?_
  show Go p e below s QQ 0 0 (T23.setTop (mkF m 90 #[.val (.ref r0), .val (.ref r1), .val (.int p2), .val (.int (oI x)), .val (.int (oI y)), .val (.int (oI (own_rt s0 x))), .val (.int (oI (own_rt s0 y))), .val (.int (oI (min (own_rt s0 x) (own_rt s0 y))))] [(.int (oI (own_rt s0 x))), (.int (4 : Int32)), (.ref r1)]))
  refine gs (fun t => XS.iload X23.here hx rfl (hb hby d3_90) rfl) ?_
  show Go p e below s QQ 0 0 (T23.setTop (mkF m 92 #[.val (.ref r0), .val (.ref r1), .val (.int p2), .val (.int (oI x)), .val (.int (oI y)), .val (.int (oI (own_rt s0 x))), .val (.int (oI (own_rt s0 y))), .val (.int (oI (min (own_rt s0 x) (own_rt s0 y))))] [(.int (oI (own_rt s0 y))), (.int (oI (own_rt s0 x))), (.int (4 : Int32)), (.ref r1)]))
  refine gs (fun t => XS.iload X23.here hx rfl (hb hby d3_92) rfl) ?_
  show Go p e below s QQ 0 0 (T23.setTop (mkF m 94 #[.val (.ref r0), .val (.ref r1), .val (.int p2), .val (.int (oI x)), .val (.int (oI y)), .val (.int (oI (own_rt s0 x))), .val (.int (oI (own_rt s0 y))), .val (.int (oI (min (own_rt s0 x) (own_rt s0 y))))] [(.int (oI (min (own_rt s0 x) (own_rt s0 y)))), (.int (oI (own_rt s0 y))), (.int (oI (own_rt s0 x))), (.int (4 : Int32)), (.ref r1)]))
  show Go p e below s QQ 0 0 (T23.setTop (mkF m 94 #[.val (.ref r0), .val (.ref r1), .val (.int p2), .val (.int (oI x)), .val (.int (oI y)), .val (.int (oI (own_rt s0 x))), .val (.int (oI (own_rt s0 y))), .val (.int (oI (min (own_rt s0 x) (own_rt s0 y))))] [(.int (oI (min (own_rt s0 x) (own_rt s0 y)))), (.int (oI (own_rt s0 y))), (.int (oI (own_rt s0 x))), (.int (oI 4)), (.ref r1)]))
  obtain ⟨_, _, ⟨T24, L24, k24, n24⟩, -, X24, ⟨Lc24, hQ24, l24, y24, z24⟩, st24⟩ := Jvm.LawKit.callS X23 hx (y := (⟨"com/example/seshat/seshat/DisjointSetsRootPinLaw", "relabel", "([IIIII)V"⟩ : MethodName)) hown (mvT hZ (hw _ (List.mem_of_getElem? (i := 38) rfl))) (mvT hZ (hw _ (List.mem_of_getElem? (i := 39) rfl))) (mvT hZ (hw _ (List.mem_of_getElem? (i := 14) rfl))) (mvT hZ (hw _ (List.mem_of_getElem? (i := 40) rfl))) (by decide) (backOf (W := 0) (rm9 l Z a0 hw [] r1 4 (own_rt s0 x) (own_rt s0 y) (min (own_rt s0 x) (own_rt s0 y)) (own_lab s0 (own_rt s0 x) (own_rt s0 y) (min (own_rt s0 x) (own_rt s0 y)) 4) T23.heap n0 ZZ V_r1 ge_r1 (by decide) ha hb2 (by unfold own_lab; rw [if_neg (fun q => by omega)]; exact own_r5 s0 (by decide))) hZ (hw _ (List.mem_of_getElem? (i := 40) rfl)) (hw _ (List.mem_of_getElem? (i := 14) rfl)) (by decide) (by decide)) (g := (mkF m 94 #[.val (.ref r0), .val (.ref r1), .val (.int p2), .val (.int (oI x)), .val (.int (oI y)), .val (.int (oI (own_rt s0 x))), .val (.int (oI (own_rt s0 y))), .val (.int (oI (min (own_rt s0 x) (own_rt s0 y))))] [(.int (oI (min (own_rt s0 x) (own_rt s0 y)))), (.int (oI (own_rt s0 y))), (.int (oI (own_rt s0 x))), (.int (oI 4)), (.ref r1)])) rfl (by rw [hml]; rfl) (argsL := [(.ref r1), (.int (oI 4)), (.int (oI (own_rt s0 x))), (.int (oI (own_rt s0 y))), (.int (oI (min (own_rt s0 x) (own_rt s0 y))))]) (rest := []) (lenOf pd_2 rfl) rfl (by show 2 * 0 + _ ≤ _; exact Nat.le_of_eq rfl) (hb hby d3_94) (fun _ _ => ⟨rfl, rfl, (by decide : 0 + 0 ≤ _), (by decide : 0 + 0 ≤ _)⟩)
  dsimp only [Pt.U, Pt.locs, Pt.cells, Pt.slots] at X24 l24 y24 z24 st24 hQ24
  subst l24 y24 z24
  obtain ⟨rfl, N24q, K24, Vn24⟩ := hQ24
  replace N0 := Fr.app N0 N24q
  refine gs st24 ?_
  show Go p e below s QQ 0 0 (T24.setTop (mkF m 97 #[.val (.ref r0), .val (.ref r1), .val (.int p2), .val (.int (oI x)), .val (.int (oI y)), .val (.int (oI (own_rt s0 x))), .val (.int (oI (own_rt s0 y))), .val (.int (oI (min (own_rt s0 x) (own_rt s0 y))))] []))
  replace F_parents_r0 := F_parents_r0.keep K24 (ninS ne_r0_r1 nin0)
  replace E_r0 := E_r0.keep K24
  replace V_pa := V_pa.keep K24 (ninS (Ne.symm ne_r1_pa) nin0)
  replace ZZ := Nat.le_trans ZZ K24.1
  replace KK := KK.trans K24 (allS (Or.inl (by simp)) all0)
  have V_r1 : Arf Z T24.heap r1 .int 5 (own_nf (own_lab s0 (own_rt s0 x) (own_rt s0 y) (min (own_rt s0 x) (own_rt s0 y)) 5)) := Vn24.congr (fun j _ => by simp only [own_nf]; rw [own_lab1])
  exact goV X24 hx Bd.notSynchronized Bd.returns (hb hby d3_97) (by rw [← hQQ]; exact ⟨rfl, N0, KK, s1, V_pa, V_r1.congr (fun j hj => by simp only [own_nf, own_lab]; rw [hs1 j hj]; simp only [hj, true_and])⟩) (by decide) (by decide)
theorem d10_0 : decode method_6_code 0 = .ok (.aload_n 0, 1) := by decide +kernel
theorem d10_1 : decode method_6_code 1 = .ok (.iload_n 2, 1) := by decide +kernel
theorem d10_2 : decode method_6_code 2 = .ok (.invokevirtual 40, 3) := by decide +kernel
theorem d10_5 : decode method_6_code 5 = .ok (.aload_n 1, 1) := by decide +kernel
theorem d10_6 : decode method_6_code 6 = .ok (.iload_n 2, 1) := by decide +kernel
theorem d10_7 : decode method_6_code 7 = .ok (.iaload, 1) := by decide +kernel
theorem d10_8 : decode method_6_code 8 = .ok (.if_icmp .ne 7, 3) := by decide +kernel
theorem d10_11 : decode method_6_code 11 = .ok (.iconst 1, 1) := by decide +kernel
theorem d10_12 : decode method_6_code 12 = .ok (.goto 4, 3) := by decide +kernel
theorem d10_15 : decode method_6_code 15 = .ok (.iconst 0, 1) := by decide +kernel
theorem d10_16 : decode method_6_code 16 = .ok (.ireturn, 1) := by decide +kernel
theorem pn_10 : plainName "com/example/seshat/seshat/DisjointSetsRootPinLaw" = true := by first | (simp [plainName, overriddenIn]; done) | decide +kernel
def Qrm10 (Z : State) (r0 : Addr) (r1 : Addr) (x : Nat) (pa : Addr) (s0 : OS) (h0 : Heap) (n0 : Nat) (v : Option Value) (h : Heap) (L : List Loc) : Prop := v = some (.int 1) ∧ Fr n0 L ∧ Keep h0 h [pa] ∧ ∃ s1 : OS, Arf Z h pa .int 5 (own_pf s1) ∧ Arf Z h r1 .int 5 (own_nf (own_rt s1))
set_option maxRecDepth 65536 in
set_option maxHeartbeats 40000000 in
theorem rm10 (l : Launch) (Z : State) (a0 : Array Value) (hw : ∀ d ∈ tables_1, d.before a0 Z = true) (ws : List Jvm.Cond) (r0 : Addr) (r1 : Addr) (x : Nat) (pa : Addr) (s0 : OS) (h0 : Heap) (n0 : Nat) (Z0 : n0 ≤ h0.size) (F_parents_r0 : Fld Z h0 r0 "com/example/seshat/seshat/DisjointSets" "parents" "[I" (.ref pa)) (E_r0 : Exa Z h0 r0 "com/example/seshat/seshat/DisjointSets") (V_pa : Arf Z h0 pa .int 5 (own_pf s0)) (V_r1 : Arf Z h0 r1 .int 5 (own_nf (own_rt s0))) (ge_pa : n0 ≤ pa) (ge_r1 : n0 ≤ r1) (ne_r0_r1 : r0 ≠ r1) (ne_r0_pa : r0 ≠ pa) (ne_r1_pa : r1 ≠ pa) (hx5 : x < 5) :
    MetFree l (⟨"com/example/seshat/seshat/DisjointSetsRootPinLaw", "check", "(Lcom/example/seshat/seshat/DisjointSets;[II)Z"⟩ : MethodName) (head1 (Jvm.Cond.code (⟨"com/example/seshat/seshat/DisjointSetsRootPinLaw", "check", "(Lcom/example/seshat/seshat/DisjointSets;[II)Z"⟩ : MethodName) method_6_code 3 (some .boolean) :: ws) ({ frames := 1, cells := 0, slots := 0, locals := 14 } : Room)) (fun a U => a = #[(.ref r0), (.ref r1), (.int (oI x))] ∧ Z.Warmed39 U.vm ∧ U.heap = h0) (fun _ _ _ _ _ => True) (fun _ U o U' => ∃ v L, o = .returned v ∧ Qrm10 Z r0 r1 x pa s0 h0 n0 v U'.heap L ∧ FrameEnd U o U' L ({ frames := 1, cells := 0, slots := 0, locals := 14 } : Room).cells ({ frames := 1, cells := 0, slots := 0, locals := 14 } : Room).slots) := by
  refine MetFree.of_bodySF (plainFor_of_name pn_10) hisR ?_
  intro p e s m args below meth c s₁ Bd hml0 hP hK
  obtain ⟨rfl, hZ, hh⟩ := hP
  have hx := Bd.exec
  have hby := Bd.bytes
  have hml : c.maxLocals = 3 := hml0
  have hown : s.vm.findClass "com/example/seshat/seshat/DisjointSetsRootPinLaw" = some m.cls := findClass_of_methodNamed Bd.named
  have hnm := (name_of_methodNamed Bd.named Bd.method).1
  have X0 : Stand p l e ({ frames := 1, cells := 0, slots := 0, locals := 14 } : Room) s m #[(.ref r0), (.ref r1), (.int (oI x))] below meth c s₁ [] 0 0 := Stand.of_body Bd
  have e0 : s₁.heap = h0 := by rw [← hh, Bd.state]; rfl
  have N0 := Fr.nil n0
  have ZZ := Z0
  have KK : Keep h0 h0 [pa] := Keep.refl h0 _
  show Go p e below s (Qrm10 Z r0 r1 x pa s0 h0 n0) 0 0 (s₁.setTop (entryFrame m #[(.ref r0), (.ref r1), (.int (oI x))] 3))
  generalize hQQ : (Qrm10 Z r0 r1 x pa s0 h0 n0) = QQ
  refine gs (fun t k => castTop (g' := (mkF m 0 #[.val (.ref r0), .val (.ref r1), .val (.int (oI x))] [])) (by first | (simp [entryFrame, mkF, argsToLocals, Value.category, maxLocals]; done) | rfl) k) ?_
  show Go p e below s QQ 0 0 (s₁.setTop (mkF m 0 #[.val (.ref r0), .val (.ref r1), .val (.int (oI x))] []))
  refine gs (fun t => XS.aloadN X0.here hx rfl (hb hby d10_0) rfl rfl) ?_
  show Go p e below s QQ 0 0 (s₁.setTop (mkF m 1 #[.val (.ref r0), .val (.ref r1), .val (.int (oI x))] [(.ref r0)]))
  refine gs (fun t => XS.iloadN X0.here hx rfl (hb hby d10_1) rfl) ?_
  show Go p e below s QQ 0 0 (s₁.setTop (mkF m 2 #[.val (.ref r0), .val (.ref r1), .val (.int (oI x))] [(.int (oI x)), (.ref r0)]))
  obtain ⟨cq25, kq25, q25a, q25b, q25c⟩ := isOf hZ e0 E_r0
  obtain ⟨_, _, ⟨T25, L25, k25, n25⟩, -, X25, ⟨Lc25, hQ25, l25, y25, z25⟩, st25⟩ := X0.virtualBack hx (y := (⟨"com/example/seshat/seshat/DisjointSets", "root", "(I)I"⟩ : MethodName)) (z := (⟨"com/example/seshat/seshat/DisjointSets", "root", "(I)I"⟩ : MethodName)) hown (mvT hZ (hw _ (List.mem_of_getElem? (i := 44) rfl))) (mvT hZ (hw _ (List.mem_of_getElem? (i := 26) rfl))) (notFace_of_selects (args := #[]) (mvT hZ (hw _ (List.mem_of_getElem? (i := 28) rfl)))) (mvT hZ (hw _ (List.mem_of_getElem? (i := 28) rfl))) (mvT hZ (hw _ (List.mem_of_getElem? (i := 27) rfl))) (by decide) (backOf (W := 0) (rm6 l Z a0 hw [] r0 x pa s0 h0 n0 ZZ F_parents_r0 V_pa ge_pa ne_r0_pa hx5) hZ (hw _ (List.mem_of_getElem? (i := 29) rfl)) (hw _ (List.mem_of_getElem? (i := 3) rfl)) (by decide) (by decide)) q25a q25c (g := (mkF m 2 #[.val (.ref r0), .val (.ref r1), .val (.int (oI x))] [(.int (oI x)), (.ref r0)])) rfl (by rw [hml]; rfl) (Steps.refl _) (argsL := [(.int (oI x))]) (rest := []) (lenOf pd_0 rfl) rfl (by show 2 * 0 + _ ≤ _; exact Nat.le_of_eq rfl) (hb hby d10_2) (fun _ _ => ⟨rfl, e0, (by decide : 0 + 0 ≤ _), (by decide : 0 + 0 ≤ _)⟩)
  dsimp only [Pt.U, Pt.locs, Pt.cells, Pt.slots] at X25 l25 y25 z25 st25 hQ25
  subst l25 y25 z25
  obtain ⟨rfl, N25q, K25, s2, hs2, Vn25⟩ := hQ25
  replace N0 := Fr.app N0 N25q
  refine gt st25 ?_
  show Go p e below s QQ 0 0 (T25.setTop (mkF m 5 #[.val (.ref r0), .val (.ref r1), .val (.int (oI x))] [(.int (oI (own_rt s0 x)))]))
  replace F_parents_r0 := F_parents_r0.keep K25 (ninS ne_r0_pa nin0)
  replace E_r0 := E_r0.keep K25
  replace V_r1 := V_r1.keep K25 (ninS ne_r1_pa nin0)
  replace ZZ := Nat.le_trans ZZ K25.1
  replace KK := KK.trans K25 (allS (Or.inl (by simp)) all0)
  have V_pa := Vn25
  refine gs (fun t => XS.aloadN X25.here hx rfl (hb hby d10_5) rfl rfl) ?_
  show Go p e below s QQ 0 0 (T25.setTop (mkF m 6 #[.val (.ref r0), .val (.ref r1), .val (.int (oI x))] [(.ref r1), (.int (oI (own_rt s0 x)))]))
  refine gs (fun t => XS.iloadN X25.here hx rfl (hb hby d10_6) rfl) ?_
  show Go p e below s QQ 0 0 (T25.setTop (mkF m 7 #[.val (.ref r0), .val (.ref r1), .val (.int (oI x))] [(.int (oI x)), (.ref r1), (.int (oI (own_rt s0 x)))]))
  refine gs (fun t => ldIf X25 hx hZ rfl V_r1 (j := (oI x)) (v := (.int (oI (own_rt s0 x)))) (oI_in hx5) (own_nfat _ hx5) (g := (mkF m 7 #[.val (.ref r0), .val (.ref r1), .val (.int (oI x))] [(.int (oI x)), (.ref r1), (.int (oI (own_rt s0 x)))])) rfl rfl (hb hby d10_7) t) ?_
  show Go p e below s QQ 0 0 (T25.setTop (mkF m 8 #[.val (.ref r0), .val (.ref r1), .val (.int (oI x))] [(.int (oI (own_rt s0 x))), (.int (oI (own_rt s0 x)))]))
  refine gs (fun t => XS.icmpNo X25.here hx rfl (hb hby d10_8) rfl (teq (rfl : (oI (own_rt s0 x)) = (oI (own_rt s0 x)))).2) ?_
  show Go p e below s QQ 0 0 (T25.setTop (mkF m 11 #[.val (.ref r0), .val (.ref r1), .val (.int (oI x))] []))
  refine gs (fun t => XS.iconst X25.here hx rfl (hb hby d10_11)) ?_
  show Go p e below s QQ 0 0 (T25.setTop (mkF m 12 #[.val (.ref r0), .val (.ref r1), .val (.int (oI x))] [(.int (1 : Int32))]))
  refine gs (fun t => XS.goto X25.here hx rfl (pc0 := 12) (pc' := 16) rfl (hb hby d10_12) (by decide) (by decide)) ?_
  show Go p e below s QQ 0 0 (T25.setTop (mkF m 16 #[.val (.ref r0), .val (.ref r1), .val (.int (oI x))] [(.int (1 : Int32))]))
  exact goB X25 hx Bd.notSynchronized Bd.returns (by simp) (w := (1 : Int32)) (by first | rfl | decide) (hb hby d10_16) (by rw [← hQQ]; exact ⟨rfl, N0, KK, s2, V_pa, V_r1.congr (fun j hj => by simp only [own_nf]; rw [hs2 j hj])⟩) (by decide) (by decide)
theorem d1_0 : decode prog_5_method_1_code 0 = .ok (.aload_n 0, 1) := by decide +kernel
theorem d1_1 : decode prog_5_method_1_code 1 = .ok (.invokespecial 1, 3) := by decide +kernel
theorem d1_4 : decode prog_5_method_1_code 4 = .ok (.aload_n 0, 1) := by decide +kernel
theorem d1_5 : decode prog_5_method_1_code 5 = .ok (.iload_n 1, 1) := by decide +kernel
theorem d1_6 : decode prog_5_method_1_code 6 = .ok (.newarray .int, 2) := by decide +kernel
theorem d1_8 : decode prog_5_method_1_code 8 = .ok (.putfield 7, 3) := by decide +kernel
theorem d1_11 : decode prog_5_method_1_code 11 = .ok (.iconst 0, 1) := by decide +kernel
theorem d1_12 : decode prog_5_method_1_code 12 = .ok (.istore_n 2, 1) := by decide +kernel
theorem d1_13 : decode prog_5_method_1_code 13 = .ok (.iload_n 2, 1) := by decide +kernel
theorem d1_14 : decode prog_5_method_1_code 14 = .ok (.iload_n 1, 1) := by decide +kernel
theorem d1_15 : decode prog_5_method_1_code 15 = .ok (.if_icmp .ge 16, 3) := by decide +kernel
theorem d1_18 : decode prog_5_method_1_code 18 = .ok (.aload_n 0, 1) := by decide +kernel
theorem d1_19 : decode prog_5_method_1_code 19 = .ok (.getfield 7, 3) := by decide +kernel
theorem d1_22 : decode prog_5_method_1_code 22 = .ok (.iload_n 2, 1) := by decide +kernel
theorem d1_23 : decode prog_5_method_1_code 23 = .ok (.iload_n 2, 1) := by decide +kernel
theorem d1_24 : decode prog_5_method_1_code 24 = .ok (.iastore, 1) := by decide +kernel
theorem d1_25 : decode prog_5_method_1_code 25 = .ok (.iinc 2 1, 3) := by decide +kernel
theorem d1_28 : decode prog_5_method_1_code 28 = .ok (.goto (-15), 3) := by decide +kernel
theorem d1_31 : decode prog_5_method_1_code 31 = .ok (.return_, 1) := by decide +kernel
theorem pn_1 : plainName "com/example/seshat/seshat/DisjointSets" = true := by first | (simp [plainName, overriddenIn]; done) | decide +kernel
def Qrm1 (Z : State) (r0 : Addr) (h0 : Heap) (n0 : Nat) (v : Option Value) (h : Heap) (L : List Loc) : Prop := ∃ pa : Addr, v = none ∧ Fr n0 L ∧ Keep h0 h [r0] ∧ Fld Z h r0 "com/example/seshat/seshat/DisjointSets" "parents" "[I" (.ref pa) ∧ h0.size ≤ pa ∧ Arf Z h pa .int 5 (own_pf (1, 2, 3, 4))
set_option maxRecDepth 65536 in
set_option maxHeartbeats 40000000 in
theorem rm1 (l : Launch) (Z : State) (a0 : Array Value) (hw : ∀ d ∈ tables_1, d.before a0 Z = true) (ws : List Jvm.Cond) (r0 : Addr) (h0 : Heap) (n0 : Nat) (Z0 : n0 ≤ h0.size) (F_parents_r0 : Fld Z h0 r0 "com/example/seshat/seshat/DisjointSets" "parents" "[I" .null) (E_r0 : Exa Z h0 r0 "com/example/seshat/seshat/DisjointSets") (ge_r0 : n0 ≤ r0) :
    MetFree l (⟨"com/example/seshat/seshat/DisjointSets", "<init>", "(I)V"⟩ : MethodName) (head1 (Jvm.Cond.code (⟨"com/example/seshat/seshat/DisjointSets", "<init>", "(I)V"⟩ : MethodName) prog_5_method_1_code 3 none :: ws) ({ frames := 1, cells := 1, slots := 5, locals := 12 } : Room)) (fun a U => a = #[(.ref r0), (.int (5 : Int32))] ∧ Z.Warmed39 U.vm ∧ U.heap = h0) (fun _ _ _ _ _ => True) (fun _ U o U' => ∃ v L, o = .returned v ∧ Qrm1 Z r0 h0 n0 v U'.heap L ∧ FrameEnd U o U' L ({ frames := 1, cells := 1, slots := 5, locals := 12 } : Room).cells ({ frames := 1, cells := 1, slots := 5, locals := 12 } : Room).slots) := by
  refine MetFree.of_bodySF (plainFor_of_name pn_1) hisR ?_
  intro p e s m args below meth c s₁ Bd hml0 hP hK
  obtain ⟨rfl, hZ, hh⟩ := hP
  have hx := Bd.exec
  have hby := Bd.bytes
  have hml : c.maxLocals = 3 := hml0
  have hown : s.vm.findClass "com/example/seshat/seshat/DisjointSets" = some m.cls := findClass_of_methodNamed Bd.named
  have hnm := (name_of_methodNamed Bd.named Bd.method).1
  have X0 : Stand p l e ({ frames := 1, cells := 1, slots := 5, locals := 12 } : Room) s m #[(.ref r0), (.int (5 : Int32))] below meth c s₁ [] 0 0 := Stand.of_body Bd
  have e0 : s₁.heap = h0 := by rw [← hh, Bd.state]; rfl
  have N0 := Fr.nil n0
  have ZZ := Z0
  have KK : Keep h0 h0 [r0] := Keep.refl h0 _
  show Go p e below s (Qrm1 Z r0 h0 n0) 1 5 (s₁.setTop (entryFrame m #[(.ref r0), (.int (5 : Int32))] 3))
  generalize hQQ : (Qrm1 Z r0 h0 n0) = QQ
  refine gs (fun t k => castTop (g' := (mkF m 0 #[.val (.ref r0), .val (.int (5 : Int32)), .unset] [])) (by first | (simp [entryFrame, mkF, argsToLocals, Value.category, maxLocals]; done) | rfl) k) ?_
  show Go p e below s QQ 1 5 (s₁.setTop (mkF m 0 #[.val (.ref r0), .val (.int (5 : Int32)), .unset] []))
  refine gs (fun t => XS.aloadN X0.here hx rfl (hb hby d1_0) rfl rfl) ?_
  show Go p e below s QQ 1 5 (s₁.setTop (mkF m 1 #[.val (.ref r0), .val (.int (5 : Int32)), .unset] [(.ref r0)]))
  obtain ⟨T26, X26, e26, st26⟩ := initO X0 hx hZ hown (hw _ (List.mem_of_getElem? (i := 7) rfl)) (hw _ (List.mem_of_getElem? (i := 8) rfl)) (hw _ (List.mem_of_getElem? (i := 9) rfl)) e0 (g := (mkF m 1 #[.val (.ref r0), .val (.int (5 : Int32)), .unset] [(.ref r0)])) rfl (by rw [hml]; rfl) rfl (hb hby d1_1) (by decide) (W := 0) (by show 2 * 0 + _ ≤ _; exact Nat.le_of_eq rfl) (by decide)
  refine gs st26 ?_
  show Go p e below s QQ 1 5 (T26.setTop (mkF m 4 #[.val (.ref r0), .val (.int (5 : Int32)), .unset] []))
  refine gs (fun t => XS.aloadN X26.here hx rfl (hb hby d1_4) rfl rfl) ?_
  show Go p e below s QQ 1 5 (T26.setTop (mkF m 5 #[.val (.ref r0), .val (.int (5 : Int32)), .unset] [(.ref r0)]))
  refine gs (fun t => XS.iloadN X26.here hx rfl (hb hby d1_5) rfl) ?_
  show Go p e below s QQ 1 5 (T26.setTop (mkF m 6 #[.val (.ref r0), .val (.int (5 : Int32)), .unset] [(.int (5 : Int32)), (.ref r0)]))
  obtain ⟨T27, h27, k27, X27, e27, E27, A27, st27⟩ := newP X26 hx hZ (hw _ (List.mem_of_getElem? (i := 0) rfl)) e26 (g := (mkF m 6 #[.val (.ref r0), .val (.int (5 : Int32)), .unset] [(.int (5 : Int32)), (.ref r0)])) rfl (hb hby d1_6) rfl (by decide) (cap := 5) (by decide) (by decide) (by decide) (by decide)
  obtain ⟨b27, g27⟩ : ∃ z, z = h0.size := ⟨_, rfl⟩
  rw [← g27] at A27 st27
  have ge_b27 : n0 ≤ b27 := by rw [g27]; exact ZZ
  have sz_b27 : h0.size ≤ b27 := by rw [g27]; exact KK.1
  have ne_r0_b27 : r0 ≠ b27 := by rw [g27]; exact Nat.ne_of_lt F_parents_r0.lt
  refine gs st27 ?_
  show Go p e below s QQ 1 5 (T27.setTop (mkF m 8 #[.val (.ref r0), .val (.int (5 : Int32)), .unset] [(.ref b27), (.ref r0)]))
  replace F_parents_r0 := F_parents_r0.ext E27
  replace E_r0 := E_r0.ext E27
  replace ZZ := Nat.le_trans ZZ E27.1
  replace KK := KK.ext E27
  have V_b27 : Arf Z h27 b27 .int 5 (fun _ => .int 0) := Arf.new A27
  obtain ⟨T28, h28, X28, e28, W28, st28⟩ := putF X27 hx hZ hown (host := "") (Or.inl (hw _ (List.mem_of_getElem? (i := 10) rfl))) Via.refl e27 F_parents_r0 E_r0 (Or.inr ⟨(hw _ (List.mem_of_getElem? (i := 11) rfl)), rfl, hnm⟩) (hw _ (List.mem_of_getElem? (i := 2) rfl)) (ty := (.array .int)) (by decide) rfl rfl (g := (mkF m 8 #[.val (.ref r0), .val (.int (5 : Int32)), .unset] [(.ref b27), (.ref r0)])) rfl rfl (hb hby d1_8)
  replace N0 := Fr.snoc X28 N0 ge_r0
  refine gs st28 ?_
  show Go p e below s QQ 1 5 (T28.setTop (mkF m 11 #[.val (.ref r0), .val (.int (5 : Int32)), .unset] []))
  replace F_parents_r0 := F_parents_r0.same W28
  replace E_r0 := E_r0.wr W28
  replace V_b27 := V_b27.other W28 (Ne.symm ne_r0_b27)
  replace ZZ : n0 ≤ h28.size := by rw [W28.size]; exact ZZ
  replace KK := KK.wr W28 (Or.inl (by simp))
  refine gs (fun t => XS.iconst X28.here hx rfl (hb hby d1_11)) ?_
  show Go p e below s QQ 1 5 (T28.setTop (mkF m 12 #[.val (.ref r0), .val (.int (5 : Int32)), .unset] [(.int (0 : Int32))]))
  refine gs (fun t => XS.istoreN X28.here hx rfl (hb hby d1_12) rfl (l' := #[.val (.ref r0), .val (.int (5 : Int32)), .val (.int (0 : Int32))]) rfl) ?_
  show Go p e below s QQ 1 5 (T28.setTop (mkF m 13 #[.val (.ref r0), .val (.int (5 : Int32)), .val (.int (0 : Int32))] []))
  refine gs (fun t => XS.iloadN X28.here hx rfl (hb hby d1_13) rfl) ?_
  show Go p e below s QQ 1 5 (T28.setTop (mkF m 14 #[.val (.ref r0), .val (.int (5 : Int32)), .val (.int (0 : Int32))] [(.int (0 : Int32))]))
  refine gs (fun t => XS.iloadN X28.here hx rfl (hb hby d1_14) rfl) ?_
  show Go p e below s QQ 1 5 (T28.setTop (mkF m 15 #[.val (.ref r0), .val (.int (5 : Int32)), .val (.int (0 : Int32))] [(.int (5 : Int32)), (.int (0 : Int32))]))
  refine gs (fun t => XS.icmpNo X28.here hx rfl (hb hby d1_15) rfl (tlt (by decide : (0 : Int32) < (5 : Int32))).2.1) ?_
  show Go p e below s QQ 1 5 (T28.setTop (mkF m 18 #[.val (.ref r0), .val (.int (5 : Int32)), .val (.int (0 : Int32))] []))
  refine gs (fun t => XS.aloadN X28.here hx rfl (hb hby d1_18) rfl rfl) ?_
  show Go p e below s QQ 1 5 (T28.setTop (mkF m 19 #[.val (.ref r0), .val (.int (5 : Int32)), .val (.int (0 : Int32))] [(.ref r0)]))
  obtain ⟨T29, X29, e29, st29⟩ := getF X28 hx hZ hown (host := "") (Or.inl (hw _ (List.mem_of_getElem? (i := 10) rfl))) Via.refl e28 F_parents_r0 (g := (mkF m 19 #[.val (.ref r0), .val (.int (5 : Int32)), .val (.int (0 : Int32))] [(.ref r0)])) rfl rfl (hb hby d1_19)
  refine gs st29 ?_
  show Go p e below s QQ 1 5 (T29.setTop (mkF m 22 #[.val (.ref r0), .val (.int (5 : Int32)), .val (.int (0 : Int32))] [(.ref b27)]))
  refine gs (fun t => XS.iloadN X29.here hx rfl (hb hby d1_22) rfl) ?_
  show Go p e below s QQ 1 5 (T29.setTop (mkF m 23 #[.val (.ref r0), .val (.int (5 : Int32)), .val (.int (0 : Int32))] [(.int (0 : Int32)), (.ref b27)]))
  refine gs (fun t => XS.iloadN X29.here hx rfl (hb hby d1_23) rfl) ?_
  show Go p e below s QQ 1 5 (T29.setTop (mkF m 24 #[.val (.ref r0), .val (.int (5 : Int32)), .val (.int (0 : Int32))] [(.int (0 : Int32)), (.int (0 : Int32)), (.ref b27)]))
  show Go p e below s QQ 1 5 (T29.setTop (mkF m 24 #[.val (.ref r0), .val (.int (5 : Int32)), .val (.int (0 : Int32))] [(.int (0 : Int32)), (.int (0 : Int32)), (.ref b27)]))
  obtain ⟨T30, h30, X30, e30, W30, V30, st30⟩ := stIf X29 hx hZ e29 V_b27 (j := (0 : Int32)) (by decide) (g := (mkF m 24 #[.val (.ref r0), .val (.int (5 : Int32)), .val (.int (0 : Int32))] [(.int (0 : Int32)), (.int (0 : Int32)), (.ref b27)])) rfl rfl (hb hby d1_24)
  replace N0 := Fr.snoc X30 N0 ge_b27
  refine gs st30 ?_
  show Go p e below s QQ 1 5 (T30.setTop (mkF m 25 #[.val (.ref r0), .val (.int (5 : Int32)), .val (.int (0 : Int32))] []))
  replace F_parents_r0 := F_parents_r0.other W30 (Or.inl ne_r0_b27)
  replace E_r0 := E_r0.wr W30
  replace ZZ : n0 ≤ h30.size := by rw [W30.size]; exact ZZ
  replace KK := KK.wr W30 (Or.inr sz_b27)
  replace V_b27 : Arf Z h30 b27 .int 5 (updv (fun _ => .int 0) 0 (.int (0 : Int32))) := V30
  refine gs (fun t => XS.iinc X30.here hx rfl (hb hby d1_25) rfl (l' := #[.val (.ref r0), .val (.int (5 : Int32)), .val (.int (1 : Int32))]) rfl) ?_
  show Go p e below s QQ 1 5 (T30.setTop (mkF m 28 #[.val (.ref r0), .val (.int (5 : Int32)), .val (.int (1 : Int32))] []))
  refine gs (fun t => XS.goto X30.here hx rfl (pc0 := 28) (pc' := 13) rfl (hb hby d1_28) (by decide) (by decide)) ?_
  show Go p e below s QQ 1 5 (T30.setTop (mkF m 13 #[.val (.ref r0), .val (.int (5 : Int32)), .val (.int (1 : Int32))] []))
  refine gs (fun t => XS.iloadN X30.here hx rfl (hb hby d1_13) rfl) ?_
  show Go p e below s QQ 1 5 (T30.setTop (mkF m 14 #[.val (.ref r0), .val (.int (5 : Int32)), .val (.int (1 : Int32))] [(.int (1 : Int32))]))
  refine gs (fun t => XS.iloadN X30.here hx rfl (hb hby d1_14) rfl) ?_
  show Go p e below s QQ 1 5 (T30.setTop (mkF m 15 #[.val (.ref r0), .val (.int (5 : Int32)), .val (.int (1 : Int32))] [(.int (5 : Int32)), (.int (1 : Int32))]))
  refine gs (fun t => XS.icmpNo X30.here hx rfl (hb hby d1_15) rfl (tlt (by decide : (1 : Int32) < (5 : Int32))).2.1) ?_
  show Go p e below s QQ 1 5 (T30.setTop (mkF m 18 #[.val (.ref r0), .val (.int (5 : Int32)), .val (.int (1 : Int32))] []))
  refine gs (fun t => XS.aloadN X30.here hx rfl (hb hby d1_18) rfl rfl) ?_
  show Go p e below s QQ 1 5 (T30.setTop (mkF m 19 #[.val (.ref r0), .val (.int (5 : Int32)), .val (.int (1 : Int32))] [(.ref r0)]))
  obtain ⟨T31, X31, e31, st31⟩ := getF X30 hx hZ hown (host := "") (Or.inl (hw _ (List.mem_of_getElem? (i := 10) rfl))) Via.refl e30 F_parents_r0 (g := (mkF m 19 #[.val (.ref r0), .val (.int (5 : Int32)), .val (.int (1 : Int32))] [(.ref r0)])) rfl rfl (hb hby d1_19)
  refine gs st31 ?_
  show Go p e below s QQ 1 5 (T31.setTop (mkF m 22 #[.val (.ref r0), .val (.int (5 : Int32)), .val (.int (1 : Int32))] [(.ref b27)]))
  refine gs (fun t => XS.iloadN X31.here hx rfl (hb hby d1_22) rfl) ?_
  show Go p e below s QQ 1 5 (T31.setTop (mkF m 23 #[.val (.ref r0), .val (.int (5 : Int32)), .val (.int (1 : Int32))] [(.int (1 : Int32)), (.ref b27)]))
  refine gs (fun t => XS.iloadN X31.here hx rfl (hb hby d1_23) rfl) ?_
  show Go p e below s QQ 1 5 (T31.setTop (mkF m 24 #[.val (.ref r0), .val (.int (5 : Int32)), .val (.int (1 : Int32))] [(.int (1 : Int32)), (.int (1 : Int32)), (.ref b27)]))
  show Go p e below s QQ 1 5 (T31.setTop (mkF m 24 #[.val (.ref r0), .val (.int (5 : Int32)), .val (.int (1 : Int32))] [(.int (1 : Int32)), (.int (1 : Int32)), (.ref b27)]))
  obtain ⟨T32, h32, X32, e32, W32, V32, st32⟩ := stIf X31 hx hZ e31 V_b27 (j := (1 : Int32)) (by decide) (g := (mkF m 24 #[.val (.ref r0), .val (.int (5 : Int32)), .val (.int (1 : Int32))] [(.int (1 : Int32)), (.int (1 : Int32)), (.ref b27)])) rfl rfl (hb hby d1_24)
  replace N0 := Fr.snoc X32 N0 ge_b27
  refine gs st32 ?_
  show Go p e below s QQ 1 5 (T32.setTop (mkF m 25 #[.val (.ref r0), .val (.int (5 : Int32)), .val (.int (1 : Int32))] []))
  replace F_parents_r0 := F_parents_r0.other W32 (Or.inl ne_r0_b27)
  replace E_r0 := E_r0.wr W32
  replace ZZ : n0 ≤ h32.size := by rw [W32.size]; exact ZZ
  replace KK := KK.wr W32 (Or.inr sz_b27)
  replace V_b27 : Arf Z h32 b27 .int 5 (updv (updv (fun _ => .int 0) 0 (.int (0 : Int32))) 1 (.int (1 : Int32))) := V32
  refine gs (fun t => XS.iinc X32.here hx rfl (hb hby d1_25) rfl (l' := #[.val (.ref r0), .val (.int (5 : Int32)), .val (.int (2 : Int32))]) rfl) ?_
  show Go p e below s QQ 1 5 (T32.setTop (mkF m 28 #[.val (.ref r0), .val (.int (5 : Int32)), .val (.int (2 : Int32))] []))
  refine gs (fun t => XS.goto X32.here hx rfl (pc0 := 28) (pc' := 13) rfl (hb hby d1_28) (by decide) (by decide)) ?_
  show Go p e below s QQ 1 5 (T32.setTop (mkF m 13 #[.val (.ref r0), .val (.int (5 : Int32)), .val (.int (2 : Int32))] []))
  refine gs (fun t => XS.iloadN X32.here hx rfl (hb hby d1_13) rfl) ?_
  show Go p e below s QQ 1 5 (T32.setTop (mkF m 14 #[.val (.ref r0), .val (.int (5 : Int32)), .val (.int (2 : Int32))] [(.int (2 : Int32))]))
  refine gs (fun t => XS.iloadN X32.here hx rfl (hb hby d1_14) rfl) ?_
  show Go p e below s QQ 1 5 (T32.setTop (mkF m 15 #[.val (.ref r0), .val (.int (5 : Int32)), .val (.int (2 : Int32))] [(.int (5 : Int32)), (.int (2 : Int32))]))
  refine gs (fun t => XS.icmpNo X32.here hx rfl (hb hby d1_15) rfl (tlt (by decide : (2 : Int32) < (5 : Int32))).2.1) ?_
  show Go p e below s QQ 1 5 (T32.setTop (mkF m 18 #[.val (.ref r0), .val (.int (5 : Int32)), .val (.int (2 : Int32))] []))
  refine gs (fun t => XS.aloadN X32.here hx rfl (hb hby d1_18) rfl rfl) ?_
  show Go p e below s QQ 1 5 (T32.setTop (mkF m 19 #[.val (.ref r0), .val (.int (5 : Int32)), .val (.int (2 : Int32))] [(.ref r0)]))
  obtain ⟨T33, X33, e33, st33⟩ := getF X32 hx hZ hown (host := "") (Or.inl (hw _ (List.mem_of_getElem? (i := 10) rfl))) Via.refl e32 F_parents_r0 (g := (mkF m 19 #[.val (.ref r0), .val (.int (5 : Int32)), .val (.int (2 : Int32))] [(.ref r0)])) rfl rfl (hb hby d1_19)
  refine gs st33 ?_
  show Go p e below s QQ 1 5 (T33.setTop (mkF m 22 #[.val (.ref r0), .val (.int (5 : Int32)), .val (.int (2 : Int32))] [(.ref b27)]))
  refine gs (fun t => XS.iloadN X33.here hx rfl (hb hby d1_22) rfl) ?_
  show Go p e below s QQ 1 5 (T33.setTop (mkF m 23 #[.val (.ref r0), .val (.int (5 : Int32)), .val (.int (2 : Int32))] [(.int (2 : Int32)), (.ref b27)]))
  refine gs (fun t => XS.iloadN X33.here hx rfl (hb hby d1_23) rfl) ?_
  show Go p e below s QQ 1 5 (T33.setTop (mkF m 24 #[.val (.ref r0), .val (.int (5 : Int32)), .val (.int (2 : Int32))] [(.int (2 : Int32)), (.int (2 : Int32)), (.ref b27)]))
  show Go p e below s QQ 1 5 (T33.setTop (mkF m 24 #[.val (.ref r0), .val (.int (5 : Int32)), .val (.int (2 : Int32))] [(.int (2 : Int32)), (.int (2 : Int32)), (.ref b27)]))
  obtain ⟨T34, h34, X34, e34, W34, V34, st34⟩ := stIf X33 hx hZ e33 V_b27 (j := (2 : Int32)) (by decide) (g := (mkF m 24 #[.val (.ref r0), .val (.int (5 : Int32)), .val (.int (2 : Int32))] [(.int (2 : Int32)), (.int (2 : Int32)), (.ref b27)])) rfl rfl (hb hby d1_24)
  replace N0 := Fr.snoc X34 N0 ge_b27
  refine gs st34 ?_
  show Go p e below s QQ 1 5 (T34.setTop (mkF m 25 #[.val (.ref r0), .val (.int (5 : Int32)), .val (.int (2 : Int32))] []))
  replace F_parents_r0 := F_parents_r0.other W34 (Or.inl ne_r0_b27)
  replace E_r0 := E_r0.wr W34
  replace ZZ : n0 ≤ h34.size := by rw [W34.size]; exact ZZ
  replace KK := KK.wr W34 (Or.inr sz_b27)
  replace V_b27 : Arf Z h34 b27 .int 5 (updv (updv (updv (fun _ => .int 0) 0 (.int (0 : Int32))) 1 (.int (1 : Int32))) 2 (.int (2 : Int32))) := V34
  refine gs (fun t => XS.iinc X34.here hx rfl (hb hby d1_25) rfl (l' := #[.val (.ref r0), .val (.int (5 : Int32)), .val (.int (3 : Int32))]) rfl) ?_
  show Go p e below s QQ 1 5 (T34.setTop (mkF m 28 #[.val (.ref r0), .val (.int (5 : Int32)), .val (.int (3 : Int32))] []))
  refine gs (fun t => XS.goto X34.here hx rfl (pc0 := 28) (pc' := 13) rfl (hb hby d1_28) (by decide) (by decide)) ?_
  show Go p e below s QQ 1 5 (T34.setTop (mkF m 13 #[.val (.ref r0), .val (.int (5 : Int32)), .val (.int (3 : Int32))] []))
  refine gs (fun t => XS.iloadN X34.here hx rfl (hb hby d1_13) rfl) ?_
  show Go p e below s QQ 1 5 (T34.setTop (mkF m 14 #[.val (.ref r0), .val (.int (5 : Int32)), .val (.int (3 : Int32))] [(.int (3 : Int32))]))
  refine gs (fun t => XS.iloadN X34.here hx rfl (hb hby d1_14) rfl) ?_
  show Go p e below s QQ 1 5 (T34.setTop (mkF m 15 #[.val (.ref r0), .val (.int (5 : Int32)), .val (.int (3 : Int32))] [(.int (5 : Int32)), (.int (3 : Int32))]))
  refine gs (fun t => XS.icmpNo X34.here hx rfl (hb hby d1_15) rfl (tlt (by decide : (3 : Int32) < (5 : Int32))).2.1) ?_
  show Go p e below s QQ 1 5 (T34.setTop (mkF m 18 #[.val (.ref r0), .val (.int (5 : Int32)), .val (.int (3 : Int32))] []))
  refine gs (fun t => XS.aloadN X34.here hx rfl (hb hby d1_18) rfl rfl) ?_
  show Go p e below s QQ 1 5 (T34.setTop (mkF m 19 #[.val (.ref r0), .val (.int (5 : Int32)), .val (.int (3 : Int32))] [(.ref r0)]))
  obtain ⟨T35, X35, e35, st35⟩ := getF X34 hx hZ hown (host := "") (Or.inl (hw _ (List.mem_of_getElem? (i := 10) rfl))) Via.refl e34 F_parents_r0 (g := (mkF m 19 #[.val (.ref r0), .val (.int (5 : Int32)), .val (.int (3 : Int32))] [(.ref r0)])) rfl rfl (hb hby d1_19)
  refine gs st35 ?_
  show Go p e below s QQ 1 5 (T35.setTop (mkF m 22 #[.val (.ref r0), .val (.int (5 : Int32)), .val (.int (3 : Int32))] [(.ref b27)]))
  refine gs (fun t => XS.iloadN X35.here hx rfl (hb hby d1_22) rfl) ?_
  show Go p e below s QQ 1 5 (T35.setTop (mkF m 23 #[.val (.ref r0), .val (.int (5 : Int32)), .val (.int (3 : Int32))] [(.int (3 : Int32)), (.ref b27)]))
  refine gs (fun t => XS.iloadN X35.here hx rfl (hb hby d1_23) rfl) ?_
  show Go p e below s QQ 1 5 (T35.setTop (mkF m 24 #[.val (.ref r0), .val (.int (5 : Int32)), .val (.int (3 : Int32))] [(.int (3 : Int32)), (.int (3 : Int32)), (.ref b27)]))
  show Go p e below s QQ 1 5 (T35.setTop (mkF m 24 #[.val (.ref r0), .val (.int (5 : Int32)), .val (.int (3 : Int32))] [(.int (3 : Int32)), (.int (3 : Int32)), (.ref b27)]))
  obtain ⟨T36, h36, X36, e36, W36, V36, st36⟩ := stIf X35 hx hZ e35 V_b27 (j := (3 : Int32)) (by decide) (g := (mkF m 24 #[.val (.ref r0), .val (.int (5 : Int32)), .val (.int (3 : Int32))] [(.int (3 : Int32)), (.int (3 : Int32)), (.ref b27)])) rfl rfl (hb hby d1_24)
  replace N0 := Fr.snoc X36 N0 ge_b27
  refine gs st36 ?_
  show Go p e below s QQ 1 5 (T36.setTop (mkF m 25 #[.val (.ref r0), .val (.int (5 : Int32)), .val (.int (3 : Int32))] []))
  replace F_parents_r0 := F_parents_r0.other W36 (Or.inl ne_r0_b27)
  replace E_r0 := E_r0.wr W36
  replace ZZ : n0 ≤ h36.size := by rw [W36.size]; exact ZZ
  replace KK := KK.wr W36 (Or.inr sz_b27)
  replace V_b27 : Arf Z h36 b27 .int 5 (updv (updv (updv (updv (fun _ => .int 0) 0 (.int (0 : Int32))) 1 (.int (1 : Int32))) 2 (.int (2 : Int32))) 3 (.int (3 : Int32))) := V36
  refine gs (fun t => XS.iinc X36.here hx rfl (hb hby d1_25) rfl (l' := #[.val (.ref r0), .val (.int (5 : Int32)), .val (.int (4 : Int32))]) rfl) ?_
  show Go p e below s QQ 1 5 (T36.setTop (mkF m 28 #[.val (.ref r0), .val (.int (5 : Int32)), .val (.int (4 : Int32))] []))
  refine gs (fun t => XS.goto X36.here hx rfl (pc0 := 28) (pc' := 13) rfl (hb hby d1_28) (by decide) (by decide)) ?_
  show Go p e below s QQ 1 5 (T36.setTop (mkF m 13 #[.val (.ref r0), .val (.int (5 : Int32)), .val (.int (4 : Int32))] []))
  refine gs (fun t => XS.iloadN X36.here hx rfl (hb hby d1_13) rfl) ?_
  show Go p e below s QQ 1 5 (T36.setTop (mkF m 14 #[.val (.ref r0), .val (.int (5 : Int32)), .val (.int (4 : Int32))] [(.int (4 : Int32))]))
  refine gs (fun t => XS.iloadN X36.here hx rfl (hb hby d1_14) rfl) ?_
  show Go p e below s QQ 1 5 (T36.setTop (mkF m 15 #[.val (.ref r0), .val (.int (5 : Int32)), .val (.int (4 : Int32))] [(.int (5 : Int32)), (.int (4 : Int32))]))
  refine gs (fun t => XS.icmpNo X36.here hx rfl (hb hby d1_15) rfl (tlt (by decide : (4 : Int32) < (5 : Int32))).2.1) ?_
  show Go p e below s QQ 1 5 (T36.setTop (mkF m 18 #[.val (.ref r0), .val (.int (5 : Int32)), .val (.int (4 : Int32))] []))
  refine gs (fun t => XS.aloadN X36.here hx rfl (hb hby d1_18) rfl rfl) ?_
  show Go p e below s QQ 1 5 (T36.setTop (mkF m 19 #[.val (.ref r0), .val (.int (5 : Int32)), .val (.int (4 : Int32))] [(.ref r0)]))
  obtain ⟨T37, X37, e37, st37⟩ := getF X36 hx hZ hown (host := "") (Or.inl (hw _ (List.mem_of_getElem? (i := 10) rfl))) Via.refl e36 F_parents_r0 (g := (mkF m 19 #[.val (.ref r0), .val (.int (5 : Int32)), .val (.int (4 : Int32))] [(.ref r0)])) rfl rfl (hb hby d1_19)
  refine gs st37 ?_
  show Go p e below s QQ 1 5 (T37.setTop (mkF m 22 #[.val (.ref r0), .val (.int (5 : Int32)), .val (.int (4 : Int32))] [(.ref b27)]))
  refine gs (fun t => XS.iloadN X37.here hx rfl (hb hby d1_22) rfl) ?_
  show Go p e below s QQ 1 5 (T37.setTop (mkF m 23 #[.val (.ref r0), .val (.int (5 : Int32)), .val (.int (4 : Int32))] [(.int (4 : Int32)), (.ref b27)]))
  refine gs (fun t => XS.iloadN X37.here hx rfl (hb hby d1_23) rfl) ?_
  show Go p e below s QQ 1 5 (T37.setTop (mkF m 24 #[.val (.ref r0), .val (.int (5 : Int32)), .val (.int (4 : Int32))] [(.int (4 : Int32)), (.int (4 : Int32)), (.ref b27)]))
  show Go p e below s QQ 1 5 (T37.setTop (mkF m 24 #[.val (.ref r0), .val (.int (5 : Int32)), .val (.int (4 : Int32))] [(.int (4 : Int32)), (.int (4 : Int32)), (.ref b27)]))
  obtain ⟨T38, h38, X38, e38, W38, V38, st38⟩ := stIf X37 hx hZ e37 V_b27 (j := (4 : Int32)) (by decide) (g := (mkF m 24 #[.val (.ref r0), .val (.int (5 : Int32)), .val (.int (4 : Int32))] [(.int (4 : Int32)), (.int (4 : Int32)), (.ref b27)])) rfl rfl (hb hby d1_24)
  replace N0 := Fr.snoc X38 N0 ge_b27
  refine gs st38 ?_
  show Go p e below s QQ 1 5 (T38.setTop (mkF m 25 #[.val (.ref r0), .val (.int (5 : Int32)), .val (.int (4 : Int32))] []))
  replace F_parents_r0 := F_parents_r0.other W38 (Or.inl ne_r0_b27)
  replace E_r0 := E_r0.wr W38
  replace ZZ : n0 ≤ h38.size := by rw [W38.size]; exact ZZ
  replace KK := KK.wr W38 (Or.inr sz_b27)
  replace V_b27 : Arf Z h38 b27 .int 5 (updv (updv (updv (updv (updv (fun _ => .int 0) 0 (.int (0 : Int32))) 1 (.int (1 : Int32))) 2 (.int (2 : Int32))) 3 (.int (3 : Int32))) 4 (.int (4 : Int32))) := V38
  refine gs (fun t => XS.iinc X38.here hx rfl (hb hby d1_25) rfl (l' := #[.val (.ref r0), .val (.int (5 : Int32)), .val (.int (5 : Int32))]) rfl) ?_
  show Go p e below s QQ 1 5 (T38.setTop (mkF m 28 #[.val (.ref r0), .val (.int (5 : Int32)), .val (.int (5 : Int32))] []))
  refine gs (fun t => XS.goto X38.here hx rfl (pc0 := 28) (pc' := 13) rfl (hb hby d1_28) (by decide) (by decide)) ?_
  show Go p e below s QQ 1 5 (T38.setTop (mkF m 13 #[.val (.ref r0), .val (.int (5 : Int32)), .val (.int (5 : Int32))] []))
  refine gs (fun t => XS.iloadN X38.here hx rfl (hb hby d1_13) rfl) ?_
  show Go p e below s QQ 1 5 (T38.setTop (mkF m 14 #[.val (.ref r0), .val (.int (5 : Int32)), .val (.int (5 : Int32))] [(.int (5 : Int32))]))
  refine gs (fun t => XS.iloadN X38.here hx rfl (hb hby d1_14) rfl) ?_
  show Go p e below s QQ 1 5 (T38.setTop (mkF m 15 #[.val (.ref r0), .val (.int (5 : Int32)), .val (.int (5 : Int32))] [(.int (5 : Int32)), (.int (5 : Int32))]))
  refine gs (fun t => XS.icmpYes X38.here hx rfl (pc0 := 15) (pc' := 31) rfl (hb hby d1_15) rfl (flt (by decide : ¬ ((5 : Int32) < (5 : Int32)))).2.1 (by decide) (by decide)) ?_
  show Go p e below s QQ 1 5 (T38.setTop (mkF m 31 #[.val (.ref r0), .val (.int (5 : Int32)), .val (.int (5 : Int32))] []))
  replace V_b27 : Arf Z h38 b27 .int 5 (own_pf (1, 2, 3, 4)) := V_b27.congr (fun j hj => by rcases own_5 hj with rfl | rfl | rfl | rfl | rfl <;> rfl)
  exact goV X38 hx Bd.notSynchronized Bd.returns (hb hby d1_31) (by rw [← hQQ, e38]; exact ⟨b27, rfl, N0, KK, F_parents_r0, sz_b27, V_b27⟩) (by decide) (by decide)
theorem pn_0 : plainName "com/example/seshat/seshat/DisjointSetsRootPinLaw" = true := by first | (simp [plainName, overriddenIn]; done) | decide +kernel
def Qrm0 (Z : State) (p0 : Int32) (p1 : Int32) (p2 : Int32) (p3 : Int32) (p4 : Int32) (h0 : Heap) (n0 : Nat) (v : Option Value) (h : Heap) (L : List Loc) : Prop := v = some (.int 1) ∧ Fr n0 L
set_option maxRecDepth 65536 in
set_option maxHeartbeats 40000000 in
theorem rm0 (l : Launch) (Z : State) (a0 : Array Value) (hw : ∀ d ∈ tables_1, d.before a0 Z = true) (ws : List Jvm.Cond) (p0 : Int32) (p1 : Int32) (p2 : Int32) (p3 : Int32) (p4 : Int32) (h0 : Heap) (n0 : Nat) (Z0 : n0 ≤ h0.size) :
    MetFree l x (head1 (Jvm.Cond.code x code maxLocals ret :: ws) room_1) (fun a U => a = #[(.int p0), (.int p1), (.int p2), (.int p3), (.int p4)] ∧ Z.Warmed39 U.vm ∧ U.heap = h0) (fun _ _ _ _ _ => True) (fun _ U o U' => ∃ v L, o = .returned v ∧ Qrm0 Z p0 p1 p2 p3 p4 h0 n0 v U'.heap L ∧ FrameEnd U o U' L room_1.cells room_1.slots) := by
  refine MetFree.of_bodySF (plainFor_of_name pn_0) hisR ?_
  intro p e s m args below meth c s₁ Bd hml0 hP hK
  obtain ⟨rfl, hZ, hh⟩ := hP
  have hx := Bd.exec
  have hby := Bd.bytes
  have hml : c.maxLocals = 9 := hml0
  have hown : s.vm.findClass "com/example/seshat/seshat/DisjointSetsRootPinLaw" = some m.cls := findClass_of_methodNamed Bd.named
  have hnm := (name_of_methodNamed Bd.named Bd.method).1
  have X0 : Stand p l e room_1 s m #[(.int p0), (.int p1), (.int p2), (.int p3), (.int p4)] below meth c s₁ [] 0 0 := Stand.of_body Bd
  have e0 : s₁.heap = h0 := by rw [← hh, Bd.state]; rfl
  have N0 := Fr.nil n0
  have ZZ := Z0
  show Go p e below s (Qrm0 Z p0 p1 p2 p3 p4 h0 n0) room_1.cells room_1.slots (s₁.setTop (entryFrame m #[(.int p0), (.int p1), (.int p2), (.int p3), (.int p4)] maxLocals))
  generalize hQQ : (Qrm0 Z p0 p1 p2 p3 p4 h0 n0) = QQ
  refine gs (fun t k => castTop (g' := (mkF m 0 #[.val (.int p0), .val (.int p1), .val (.int p2), .val (.int p3), .val (.int p4), .unset, .unset, .unset, .unset] [])) (by first | (simp [entryFrame, mkF, argsToLocals, Value.category, maxLocals]; done) | rfl) k) ?_
  show Go p e below s QQ room_1.cells room_1.slots (s₁.setTop (mkF m 0 #[.val (.int p0), .val (.int p1), .val (.int p2), .val (.int p3), .val (.int p4), .unset, .unset, .unset, .unset] []))
  refine gs (fun t => XS.iconst X0.here hx rfl (hb hby at_0)) ?_
  show Go p e below s QQ room_1.cells room_1.slots (s₁.setTop (mkF m 1 #[.val (.int p0), .val (.int p1), .val (.int p2), .val (.int p3), .val (.int p4), .unset, .unset, .unset, .unset] [(.int (5 : Int32))]))
  obtain ⟨T39, h39, k39, X39, e39, E39, A39, st39⟩ := newP X0 hx hZ (hw _ (List.mem_of_getElem? (i := 0) rfl)) e0 (g := (mkF m 1 #[.val (.int p0), .val (.int p1), .val (.int p2), .val (.int p3), .val (.int p4), .unset, .unset, .unset, .unset] [(.int (5 : Int32))])) rfl (hb hby at_1) rfl (by decide) (cap := 5) (by decide) (by decide) (by decide) (by decide)
  obtain ⟨b39, g39⟩ : ∃ z, z = h0.size := ⟨_, rfl⟩
  rw [← g39] at A39 st39
  have ge_b39 : n0 ≤ b39 := by rw [g39]; exact ZZ
  refine gs st39 ?_
  show Go p e below s QQ room_1.cells room_1.slots (T39.setTop (mkF m 3 #[.val (.int p0), .val (.int p1), .val (.int p2), .val (.int p3), .val (.int p4), .unset, .unset, .unset, .unset] [(.ref b39)]))
  replace ZZ := Nat.le_trans ZZ E39.1
  have V_b39 : Arf Z h39 b39 .int 5 (fun _ => .int 0) := Arf.new A39
  refine gs (fun t => XS.dup X39.here hx rfl (hb hby at_3) rfl rfl) ?_
  show Go p e below s QQ room_1.cells room_1.slots (T39.setTop (mkF m 4 #[.val (.int p0), .val (.int p1), .val (.int p2), .val (.int p3), .val (.int p4), .unset, .unset, .unset, .unset] [(.ref b39), (.ref b39)]))
  refine gs (fun t => XS.iconst X39.here hx rfl (hb hby at_4)) ?_
  show Go p e below s QQ room_1.cells room_1.slots (T39.setTop (mkF m 5 #[.val (.int p0), .val (.int p1), .val (.int p2), .val (.int p3), .val (.int p4), .unset, .unset, .unset, .unset] [(.int (0 : Int32)), (.ref b39), (.ref b39)]))
  refine gs (fun t => XS.iconst X39.here hx rfl (hb hby at_5)) ?_
  show Go p e below s QQ room_1.cells room_1.slots (T39.setTop (mkF m 6 #[.val (.int p0), .val (.int p1), .val (.int p2), .val (.int p3), .val (.int p4), .unset, .unset, .unset, .unset] [(.int (0 : Int32)), (.int (0 : Int32)), (.ref b39), (.ref b39)]))
  obtain ⟨T40, h40, X40, e40, W40, V40, st40⟩ := stIf X39 hx hZ e39 V_b39 (j := (0 : Int32)) (by decide) (g := (mkF m 6 #[.val (.int p0), .val (.int p1), .val (.int p2), .val (.int p3), .val (.int p4), .unset, .unset, .unset, .unset] [(.int (0 : Int32)), (.int (0 : Int32)), (.ref b39), (.ref b39)])) rfl rfl (hb hby at_6)
  replace N0 := Fr.snoc X40 N0 ge_b39
  refine gs st40 ?_
  show Go p e below s QQ room_1.cells room_1.slots (T40.setTop (mkF m 7 #[.val (.int p0), .val (.int p1), .val (.int p2), .val (.int p3), .val (.int p4), .unset, .unset, .unset, .unset] [(.ref b39)]))
  replace ZZ : n0 ≤ h40.size := by rw [W40.size]; exact ZZ
  replace V_b39 : Arf Z h40 b39 .int 5 (updv (fun _ => .int 0) 0 (.int (0 : Int32))) := V40
  refine gs (fun t => XS.dup X40.here hx rfl (hb hby at_7) rfl rfl) ?_
  show Go p e below s QQ room_1.cells room_1.slots (T40.setTop (mkF m 8 #[.val (.int p0), .val (.int p1), .val (.int p2), .val (.int p3), .val (.int p4), .unset, .unset, .unset, .unset] [(.ref b39), (.ref b39)]))
  refine gs (fun t => XS.iconst X40.here hx rfl (hb hby at_8)) ?_
  show Go p e below s QQ room_1.cells room_1.slots (T40.setTop (mkF m 9 #[.val (.int p0), .val (.int p1), .val (.int p2), .val (.int p3), .val (.int p4), .unset, .unset, .unset, .unset] [(.int (1 : Int32)), (.ref b39), (.ref b39)]))
  refine gs (fun t => XS.iconst X40.here hx rfl (hb hby at_9)) ?_
  show Go p e below s QQ room_1.cells room_1.slots (T40.setTop (mkF m 10 #[.val (.int p0), .val (.int p1), .val (.int p2), .val (.int p3), .val (.int p4), .unset, .unset, .unset, .unset] [(.int (1 : Int32)), (.int (1 : Int32)), (.ref b39), (.ref b39)]))
  obtain ⟨T41, h41, X41, e41, W41, V41, st41⟩ := stIf X40 hx hZ e40 V_b39 (j := (1 : Int32)) (by decide) (g := (mkF m 10 #[.val (.int p0), .val (.int p1), .val (.int p2), .val (.int p3), .val (.int p4), .unset, .unset, .unset, .unset] [(.int (1 : Int32)), (.int (1 : Int32)), (.ref b39), (.ref b39)])) rfl rfl (hb hby at_10)
  replace N0 := Fr.snoc X41 N0 ge_b39
  refine gs st41 ?_
  show Go p e below s QQ room_1.cells room_1.slots (T41.setTop (mkF m 11 #[.val (.int p0), .val (.int p1), .val (.int p2), .val (.int p3), .val (.int p4), .unset, .unset, .unset, .unset] [(.ref b39)]))
  replace ZZ : n0 ≤ h41.size := by rw [W41.size]; exact ZZ
  replace V_b39 : Arf Z h41 b39 .int 5 (updv (updv (fun _ => .int 0) 0 (.int (0 : Int32))) 1 (.int (1 : Int32))) := V41
  refine gs (fun t => XS.dup X41.here hx rfl (hb hby at_11) rfl rfl) ?_
  show Go p e below s QQ room_1.cells room_1.slots (T41.setTop (mkF m 12 #[.val (.int p0), .val (.int p1), .val (.int p2), .val (.int p3), .val (.int p4), .unset, .unset, .unset, .unset] [(.ref b39), (.ref b39)]))
  refine gs (fun t => XS.iconst X41.here hx rfl (hb hby at_12)) ?_
  show Go p e below s QQ room_1.cells room_1.slots (T41.setTop (mkF m 13 #[.val (.int p0), .val (.int p1), .val (.int p2), .val (.int p3), .val (.int p4), .unset, .unset, .unset, .unset] [(.int (2 : Int32)), (.ref b39), (.ref b39)]))
  refine gs (fun t => XS.iconst X41.here hx rfl (hb hby at_13)) ?_
  show Go p e below s QQ room_1.cells room_1.slots (T41.setTop (mkF m 14 #[.val (.int p0), .val (.int p1), .val (.int p2), .val (.int p3), .val (.int p4), .unset, .unset, .unset, .unset] [(.int (2 : Int32)), (.int (2 : Int32)), (.ref b39), (.ref b39)]))
  obtain ⟨T42, h42, X42, e42, W42, V42, st42⟩ := stIf X41 hx hZ e41 V_b39 (j := (2 : Int32)) (by decide) (g := (mkF m 14 #[.val (.int p0), .val (.int p1), .val (.int p2), .val (.int p3), .val (.int p4), .unset, .unset, .unset, .unset] [(.int (2 : Int32)), (.int (2 : Int32)), (.ref b39), (.ref b39)])) rfl rfl (hb hby at_14)
  replace N0 := Fr.snoc X42 N0 ge_b39
  refine gs st42 ?_
  show Go p e below s QQ room_1.cells room_1.slots (T42.setTop (mkF m 15 #[.val (.int p0), .val (.int p1), .val (.int p2), .val (.int p3), .val (.int p4), .unset, .unset, .unset, .unset] [(.ref b39)]))
  replace ZZ : n0 ≤ h42.size := by rw [W42.size]; exact ZZ
  replace V_b39 : Arf Z h42 b39 .int 5 (updv (updv (updv (fun _ => .int 0) 0 (.int (0 : Int32))) 1 (.int (1 : Int32))) 2 (.int (2 : Int32))) := V42
  refine gs (fun t => XS.dup X42.here hx rfl (hb hby at_15) rfl rfl) ?_
  show Go p e below s QQ room_1.cells room_1.slots (T42.setTop (mkF m 16 #[.val (.int p0), .val (.int p1), .val (.int p2), .val (.int p3), .val (.int p4), .unset, .unset, .unset, .unset] [(.ref b39), (.ref b39)]))
  refine gs (fun t => XS.iconst X42.here hx rfl (hb hby at_16)) ?_
  show Go p e below s QQ room_1.cells room_1.slots (T42.setTop (mkF m 17 #[.val (.int p0), .val (.int p1), .val (.int p2), .val (.int p3), .val (.int p4), .unset, .unset, .unset, .unset] [(.int (3 : Int32)), (.ref b39), (.ref b39)]))
  refine gs (fun t => XS.iconst X42.here hx rfl (hb hby at_17)) ?_
  show Go p e below s QQ room_1.cells room_1.slots (T42.setTop (mkF m 18 #[.val (.int p0), .val (.int p1), .val (.int p2), .val (.int p3), .val (.int p4), .unset, .unset, .unset, .unset] [(.int (3 : Int32)), (.int (3 : Int32)), (.ref b39), (.ref b39)]))
  obtain ⟨T43, h43, X43, e43, W43, V43, st43⟩ := stIf X42 hx hZ e42 V_b39 (j := (3 : Int32)) (by decide) (g := (mkF m 18 #[.val (.int p0), .val (.int p1), .val (.int p2), .val (.int p3), .val (.int p4), .unset, .unset, .unset, .unset] [(.int (3 : Int32)), (.int (3 : Int32)), (.ref b39), (.ref b39)])) rfl rfl (hb hby at_18)
  replace N0 := Fr.snoc X43 N0 ge_b39
  refine gs st43 ?_
  show Go p e below s QQ room_1.cells room_1.slots (T43.setTop (mkF m 19 #[.val (.int p0), .val (.int p1), .val (.int p2), .val (.int p3), .val (.int p4), .unset, .unset, .unset, .unset] [(.ref b39)]))
  replace ZZ : n0 ≤ h43.size := by rw [W43.size]; exact ZZ
  replace V_b39 : Arf Z h43 b39 .int 5 (updv (updv (updv (updv (fun _ => .int 0) 0 (.int (0 : Int32))) 1 (.int (1 : Int32))) 2 (.int (2 : Int32))) 3 (.int (3 : Int32))) := V43
  refine gs (fun t => XS.dup X43.here hx rfl (hb hby at_19) rfl rfl) ?_
  show Go p e below s QQ room_1.cells room_1.slots (T43.setTop (mkF m 20 #[.val (.int p0), .val (.int p1), .val (.int p2), .val (.int p3), .val (.int p4), .unset, .unset, .unset, .unset] [(.ref b39), (.ref b39)]))
  refine gs (fun t => XS.iconst X43.here hx rfl (hb hby at_20)) ?_
  show Go p e below s QQ room_1.cells room_1.slots (T43.setTop (mkF m 21 #[.val (.int p0), .val (.int p1), .val (.int p2), .val (.int p3), .val (.int p4), .unset, .unset, .unset, .unset] [(.int (4 : Int32)), (.ref b39), (.ref b39)]))
  refine gs (fun t => XS.iconst X43.here hx rfl (hb hby at_21)) ?_
  show Go p e below s QQ room_1.cells room_1.slots (T43.setTop (mkF m 22 #[.val (.int p0), .val (.int p1), .val (.int p2), .val (.int p3), .val (.int p4), .unset, .unset, .unset, .unset] [(.int (4 : Int32)), (.int (4 : Int32)), (.ref b39), (.ref b39)]))
  obtain ⟨T44, h44, X44, e44, W44, V44, st44⟩ := stIf X43 hx hZ e43 V_b39 (j := (4 : Int32)) (by decide) (g := (mkF m 22 #[.val (.int p0), .val (.int p1), .val (.int p2), .val (.int p3), .val (.int p4), .unset, .unset, .unset, .unset] [(.int (4 : Int32)), (.int (4 : Int32)), (.ref b39), (.ref b39)])) rfl rfl (hb hby at_22)
  replace N0 := Fr.snoc X44 N0 ge_b39
  refine gs st44 ?_
  show Go p e below s QQ room_1.cells room_1.slots (T44.setTop (mkF m 23 #[.val (.int p0), .val (.int p1), .val (.int p2), .val (.int p3), .val (.int p4), .unset, .unset, .unset, .unset] [(.ref b39)]))
  replace ZZ : n0 ≤ h44.size := by rw [W44.size]; exact ZZ
  replace V_b39 : Arf Z h44 b39 .int 5 (updv (updv (updv (updv (updv (fun _ => .int 0) 0 (.int (0 : Int32))) 1 (.int (1 : Int32))) 2 (.int (2 : Int32))) 3 (.int (3 : Int32))) 4 (.int (4 : Int32))) := V44
  replace V_b39 : Arf Z h44 b39 .int 5 (own_nf (own_rt (1, 2, 3, 4))) := V_b39.congr (fun j hj => by rcases own_5 hj with rfl | rfl | rfl | rfl | rfl <;> rfl)
  refine gs (fun t => XS.astore X44.here hx rfl (hb hby at_23) rfl rfl (l' := #[.val (.int p0), .val (.int p1), .val (.int p2), .val (.int p3), .val (.int p4), .val (.ref b39), .unset, .unset, .unset]) rfl) ?_
  show Go p e below s QQ room_1.cells room_1.slots (T44.setTop (mkF m 25 #[.val (.int p0), .val (.int p1), .val (.int p2), .val (.int p3), .val (.int p4), .val (.ref b39), .unset, .unset, .unset] []))
  obtain ⟨T45, h45, X45, e45, E45, A45, D45, -, st45⟩ := newO X44 hx hZ hown (hw _ (List.mem_of_getElem? (i := 1) rfl)) (hw _ (List.mem_of_getElem? (i := 2) rfl)) (hw _ (List.mem_of_getElem? (i := 3) rfl)) e44 (g := (mkF m 25 #[.val (.int p0), .val (.int p1), .val (.int p2), .val (.int p3), .val (.int p4), .val (.ref b39), .unset, .unset, .unset] [])) rfl (hb hby at_25) (by decide) (by decide)
  obtain ⟨b45, g45⟩ : ∃ z, z = h44.size := ⟨_, rfl⟩
  rw [← g45] at A45 D45 st45
  have ge_b45 : n0 ≤ b45 := by rw [g45]; exact ZZ
  have ne_b39_b45 : b39 ≠ b45 := by rw [g45]; exact Nat.ne_of_lt V_b39.lt
  refine gs st45 ?_
  show Go p e below s QQ room_1.cells room_1.slots (T45.setTop (mkF m 28 #[.val (.int p0), .val (.int p1), .val (.int p2), .val (.int p3), .val (.int p4), .val (.ref b39), .unset, .unset, .unset] [(.ref b45)]))
  replace V_b39 := V_b39.ext E45
  replace ZZ := Nat.le_trans ZZ E45.1
  have Ex_b45 := A45
  have F_parents_b45 : Fld Z h45 b45 "com/example/seshat/seshat/DisjointSets" "parents" "[I" .null := D45 (Or.inr (hw _ (List.mem_of_getElem? (i := 11) rfl))) (ty := (.array .int)) (by decide)
  refine gs (fun t => XS.dup X45.here hx rfl (hb hby at_28) rfl rfl) ?_
  show Go p e below s QQ room_1.cells room_1.slots (T45.setTop (mkF m 29 #[.val (.int p0), .val (.int p1), .val (.int p2), .val (.int p3), .val (.int p4), .val (.ref b39), .unset, .unset, .unset] [(.ref b45), (.ref b45)]))
  refine gs (fun t => XS.iconst X45.here hx rfl (hb hby at_29)) ?_
  show Go p e below s QQ room_1.cells room_1.slots (T45.setTop (mkF m 30 #[.val (.int p0), .val (.int p1), .val (.int p2), .val (.int p3), .val (.int p4), .val (.ref b39), .unset, .unset, .unset] [(.int (5 : Int32)), (.ref b45), (.ref b45)]))
  have ZZm46 := ZZ
  have lt46_b39 := V_b39.lt
  have lt46_b45 := Ex_b45.lt
  obtain ⟨_, _, ⟨T47, L47, k47, n47⟩, -, X47, ⟨Lc47, hQ47, l47, y47, z47⟩, st47⟩ := X45.specialBack hx (y := (⟨"com/example/seshat/seshat/DisjointSets", "<init>", "(I)V"⟩ : MethodName)) rfl hown (mvT hZ (hw _ (List.mem_of_getElem? (i := 4) rfl))) (mvT hZ (hw _ (List.mem_of_getElem? (i := 5) rfl))) (mvT hZ (hw _ (List.mem_of_getElem? (i := 6) rfl))) (by decide) (backOf (W := 1) (rm1 l Z a0 hw [] b45 h45 n0 ZZ F_parents_b45 Ex_b45 ge_b45) hZ (hw _ (List.mem_of_getElem? (i := 6) rfl)) (hw _ (List.mem_of_getElem? (i := 3) rfl)) (by decide) (by decide)) (g := (mkF m 30 #[.val (.int p0), .val (.int p1), .val (.int p2), .val (.int p3), .val (.int p4), .val (.ref b39), .unset, .unset, .unset] [(.int (5 : Int32)), (.ref b45), (.ref b45)])) rfl (by rw [hml]; rfl) (Steps.refl _) (a := b45) (argsL := [(.int (5 : Int32))]) (rest := [(.ref b45)]) (lenOf pd_3 rfl) rfl (by show 2 * 0 + _ ≤ _; exact Nat.le_of_eq rfl) (hb hby at_30) (fun _ _ => ⟨rfl, e45, (by decide : 2 + 1 ≤ _), (by decide : 6 + 5 ≤ _)⟩)
  dsimp only [Pt.U, Pt.locs, Pt.cells, Pt.slots] at X47 l47 y47 z47 st47 hQ47
  subst l47 y47 z47
  obtain ⟨pa, rfl, N47q, K47, Fp47, gpa, V_pa⟩ := hQ47
  replace N0 := Fr.app N0 N47q
  refine gt st47 ?_
  show Go p e below s QQ room_1.cells room_1.slots (T47.setTop (mkF m 33 #[.val (.int p0), .val (.int p1), .val (.int p2), .val (.int p3), .val (.int p4), .val (.ref b39), .unset, .unset, .unset] [(.ref b45)]))
  replace V_b39 := V_b39.keep K47 (ninS ne_b39_b45 nin0)
  replace Ex_b45 := Ex_b45.keep K47
  replace ZZ := Nat.le_trans ZZ K47.1
  have ne_b39_pa : b39 ≠ pa := Nat.ne_of_lt (Nat.lt_of_lt_of_le lt46_b39 gpa)
  have ne_b45_pa : b45 ≠ pa := Nat.ne_of_lt (Nat.lt_of_lt_of_le lt46_b45 gpa)
  have ge_pa : n0 ≤ pa := Nat.le_trans ZZm46 gpa
  refine gs (fun t => XS.astore X47.here hx rfl (hb hby at_33) rfl rfl (l' := #[.val (.int p0), .val (.int p1), .val (.int p2), .val (.int p3), .val (.int p4), .val (.ref b39), .val (.ref b45), .unset, .unset]) rfl) ?_
  show Go p e below s QQ room_1.cells room_1.slots (T47.setTop (mkF m 35 #[.val (.int p0), .val (.int p1), .val (.int p2), .val (.int p3), .val (.int p4), .val (.ref b39), .val (.ref b45), .unset, .unset] []))
  refine gs (fun t => XS.aload X47.here hx rfl (hb hby at_35) rfl rfl) ?_
  show Go p e below s QQ room_1.cells room_1.slots (T47.setTop (mkF m 37 #[.val (.int p0), .val (.int p1), .val (.int p2), .val (.int p3), .val (.int p4), .val (.ref b39), .val (.ref b45), .unset, .unset] [(.ref b45)]))
  refine gs (fun t => XS.aload X47.here hx rfl (hb hby at_37) rfl rfl) ?_
  show Go p e below s QQ room_1.cells room_1.slots (T47.setTop (mkF m 39 #[.val (.int p0), .val (.int p1), .val (.int p2), .val (.int p3), .val (.int p4), .val (.ref b39), .val (.ref b45), .unset, .unset] [(.ref b39), (.ref b45)]))
  refine gs (fun t => XS.iloadN X47.here hx rfl (hb hby at_39) rfl) ?_
  show Go p e below s QQ room_1.cells room_1.slots (T47.setTop (mkF m 40 #[.val (.int p0), .val (.int p1), .val (.int p2), .val (.int p3), .val (.int p4), .val (.ref b39), .val (.ref b45), .unset, .unset] [(.int p0), (.ref b39), (.ref b45)]))
  obtain ⟨_, _, ⟨T48, L48, k48, n48⟩, -, X48, ⟨Lc48, hQ48, l48, y48, z48⟩, st48⟩ := Jvm.LawKit.callS X47 hx (y := (⟨"com/example/seshat/seshat/DisjointSetsRootPinLaw", "joinBoth", "(Lcom/example/seshat/seshat/DisjointSets;[II)V"⟩ : MethodName)) hown (mvT hZ (hw _ (List.mem_of_getElem? (i := 12) rfl))) (mvT hZ (hw _ (List.mem_of_getElem? (i := 13) rfl))) (mvT hZ (hw _ (List.mem_of_getElem? (i := 14) rfl))) (mvT hZ (hw _ (List.mem_of_getElem? (i := 15) rfl))) (by decide) (backOf (W := 0) (rm3 l Z a0 hw [] b45 b39 p0 pa (1, 2, 3, 4) T47.heap n0 ZZ Fp47 Ex_b45 V_pa V_b39 ge_pa ge_b39 (Ne.symm ne_b39_b45) ne_b45_pa ne_b39_pa) hZ (hw _ (List.mem_of_getElem? (i := 15) rfl)) (hw _ (List.mem_of_getElem? (i := 14) rfl)) (by decide) (by decide)) (g := (mkF m 40 #[.val (.int p0), .val (.int p1), .val (.int p2), .val (.int p3), .val (.int p4), .val (.ref b39), .val (.ref b45), .unset, .unset] [(.int p0), (.ref b39), (.ref b45)])) rfl (by rw [hml]; rfl) (argsL := [(.ref b45), (.ref b39), (.int p0)]) (rest := []) (lenOf pd_4 rfl) rfl (by show 2 * 0 + _ ≤ _; exact Nat.le_of_eq rfl) (hb hby at_40) (fun _ _ => ⟨rfl, rfl, (by decide : 3 + 0 ≤ _), (by decide : 11 + 0 ≤ _)⟩)
  dsimp only [Pt.U, Pt.locs, Pt.cells, Pt.slots] at X48 l48 y48 z48 st48 hQ48
  subst l48 y48 z48
  obtain ⟨rfl, N48q, K48, sj0, Va48, Vb48⟩ := hQ48
  replace N0 := Fr.app N0 N48q
  refine gs st48 ?_
  show Go p e below s QQ room_1.cells room_1.slots (T48.setTop (mkF m 43 #[.val (.int p0), .val (.int p1), .val (.int p2), .val (.int p3), .val (.int p4), .val (.ref b39), .val (.ref b45), .unset, .unset] []))
  replace Ex_b45 := Ex_b45.keep K48
  replace Fp47 := Fp47.keep K48 (ninS ne_b45_pa (ninS (Ne.symm ne_b39_b45) nin0))
  replace ZZ := Nat.le_trans ZZ K48.1
  have V_pa := Va48
  have V_b39 := Vb48
  refine gs (fun t => XS.aload X48.here hx rfl (hb hby at_43) rfl rfl) ?_
  show Go p e below s QQ room_1.cells room_1.slots (T48.setTop (mkF m 45 #[.val (.int p0), .val (.int p1), .val (.int p2), .val (.int p3), .val (.int p4), .val (.ref b39), .val (.ref b45), .unset, .unset] [(.ref b45)]))
  refine gs (fun t => XS.aload X48.here hx rfl (hb hby at_45) rfl rfl) ?_
  show Go p e below s QQ room_1.cells room_1.slots (T48.setTop (mkF m 47 #[.val (.int p0), .val (.int p1), .val (.int p2), .val (.int p3), .val (.int p4), .val (.ref b39), .val (.ref b45), .unset, .unset] [(.ref b39), (.ref b45)]))
  refine gs (fun t => XS.iloadN X48.here hx rfl (hb hby at_47) rfl) ?_
  show Go p e below s QQ room_1.cells room_1.slots (T48.setTop (mkF m 48 #[.val (.int p0), .val (.int p1), .val (.int p2), .val (.int p3), .val (.int p4), .val (.ref b39), .val (.ref b45), .unset, .unset] [(.int p1), (.ref b39), (.ref b45)]))
  obtain ⟨_, _, ⟨T49, L49, k49, n49⟩, -, X49, ⟨Lc49, hQ49, l49, y49, z49⟩, st49⟩ := Jvm.LawKit.callS X48 hx (y := (⟨"com/example/seshat/seshat/DisjointSetsRootPinLaw", "joinBoth", "(Lcom/example/seshat/seshat/DisjointSets;[II)V"⟩ : MethodName)) hown (mvT hZ (hw _ (List.mem_of_getElem? (i := 12) rfl))) (mvT hZ (hw _ (List.mem_of_getElem? (i := 13) rfl))) (mvT hZ (hw _ (List.mem_of_getElem? (i := 14) rfl))) (mvT hZ (hw _ (List.mem_of_getElem? (i := 15) rfl))) (by decide) (backOf (W := 0) (rm3 l Z a0 hw [] b45 b39 p1 pa sj0 T48.heap n0 ZZ Fp47 Ex_b45 V_pa V_b39 ge_pa ge_b39 (Ne.symm ne_b39_b45) ne_b45_pa ne_b39_pa) hZ (hw _ (List.mem_of_getElem? (i := 15) rfl)) (hw _ (List.mem_of_getElem? (i := 14) rfl)) (by decide) (by decide)) (g := (mkF m 48 #[.val (.int p0), .val (.int p1), .val (.int p2), .val (.int p3), .val (.int p4), .val (.ref b39), .val (.ref b45), .unset, .unset] [(.int p1), (.ref b39), (.ref b45)])) rfl (by rw [hml]; rfl) (argsL := [(.ref b45), (.ref b39), (.int p1)]) (rest := []) (lenOf pd_4 rfl) rfl (by show 2 * 0 + _ ≤ _; exact Nat.le_of_eq rfl) (hb hby at_48) (fun _ _ => ⟨rfl, rfl, (by decide : 3 + 0 ≤ _), (by decide : 11 + 0 ≤ _)⟩)
  dsimp only [Pt.U, Pt.locs, Pt.cells, Pt.slots] at X49 l49 y49 z49 st49 hQ49
  subst l49 y49 z49
  obtain ⟨rfl, N49q, K49, sj1, Va49, Vb49⟩ := hQ49
  replace N0 := Fr.app N0 N49q
  refine gs st49 ?_
  show Go p e below s QQ room_1.cells room_1.slots (T49.setTop (mkF m 51 #[.val (.int p0), .val (.int p1), .val (.int p2), .val (.int p3), .val (.int p4), .val (.ref b39), .val (.ref b45), .unset, .unset] []))
  replace Ex_b45 := Ex_b45.keep K49
  replace Fp47 := Fp47.keep K49 (ninS ne_b45_pa (ninS (Ne.symm ne_b39_b45) nin0))
  replace ZZ := Nat.le_trans ZZ K49.1
  have V_pa := Va49
  have V_b39 := Vb49
  refine gs (fun t => XS.aload X49.here hx rfl (hb hby at_51) rfl rfl) ?_
  show Go p e below s QQ room_1.cells room_1.slots (T49.setTop (mkF m 53 #[.val (.int p0), .val (.int p1), .val (.int p2), .val (.int p3), .val (.int p4), .val (.ref b39), .val (.ref b45), .unset, .unset] [(.ref b45)]))
  refine gs (fun t => XS.aload X49.here hx rfl (hb hby at_53) rfl rfl) ?_
  show Go p e below s QQ room_1.cells room_1.slots (T49.setTop (mkF m 55 #[.val (.int p0), .val (.int p1), .val (.int p2), .val (.int p3), .val (.int p4), .val (.ref b39), .val (.ref b45), .unset, .unset] [(.ref b39), (.ref b45)]))
  refine gs (fun t => XS.iloadN X49.here hx rfl (hb hby at_55) rfl) ?_
  show Go p e below s QQ room_1.cells room_1.slots (T49.setTop (mkF m 56 #[.val (.int p0), .val (.int p1), .val (.int p2), .val (.int p3), .val (.int p4), .val (.ref b39), .val (.ref b45), .unset, .unset] [(.int p2), (.ref b39), (.ref b45)]))
  obtain ⟨_, _, ⟨T50, L50, k50, n50⟩, -, X50, ⟨Lc50, hQ50, l50, y50, z50⟩, st50⟩ := Jvm.LawKit.callS X49 hx (y := (⟨"com/example/seshat/seshat/DisjointSetsRootPinLaw", "joinBoth", "(Lcom/example/seshat/seshat/DisjointSets;[II)V"⟩ : MethodName)) hown (mvT hZ (hw _ (List.mem_of_getElem? (i := 12) rfl))) (mvT hZ (hw _ (List.mem_of_getElem? (i := 13) rfl))) (mvT hZ (hw _ (List.mem_of_getElem? (i := 14) rfl))) (mvT hZ (hw _ (List.mem_of_getElem? (i := 15) rfl))) (by decide) (backOf (W := 0) (rm3 l Z a0 hw [] b45 b39 p2 pa sj1 T49.heap n0 ZZ Fp47 Ex_b45 V_pa V_b39 ge_pa ge_b39 (Ne.symm ne_b39_b45) ne_b45_pa ne_b39_pa) hZ (hw _ (List.mem_of_getElem? (i := 15) rfl)) (hw _ (List.mem_of_getElem? (i := 14) rfl)) (by decide) (by decide)) (g := (mkF m 56 #[.val (.int p0), .val (.int p1), .val (.int p2), .val (.int p3), .val (.int p4), .val (.ref b39), .val (.ref b45), .unset, .unset] [(.int p2), (.ref b39), (.ref b45)])) rfl (by rw [hml]; rfl) (argsL := [(.ref b45), (.ref b39), (.int p2)]) (rest := []) (lenOf pd_4 rfl) rfl (by show 2 * 0 + _ ≤ _; exact Nat.le_of_eq rfl) (hb hby at_56) (fun _ _ => ⟨rfl, rfl, (by decide : 3 + 0 ≤ _), (by decide : 11 + 0 ≤ _)⟩)
  dsimp only [Pt.U, Pt.locs, Pt.cells, Pt.slots] at X50 l50 y50 z50 st50 hQ50
  subst l50 y50 z50
  obtain ⟨rfl, N50q, K50, sj2, Va50, Vb50⟩ := hQ50
  replace N0 := Fr.app N0 N50q
  refine gs st50 ?_
  show Go p e below s QQ room_1.cells room_1.slots (T50.setTop (mkF m 59 #[.val (.int p0), .val (.int p1), .val (.int p2), .val (.int p3), .val (.int p4), .val (.ref b39), .val (.ref b45), .unset, .unset] []))
  replace Ex_b45 := Ex_b45.keep K50
  replace Fp47 := Fp47.keep K50 (ninS ne_b45_pa (ninS (Ne.symm ne_b39_b45) nin0))
  replace ZZ := Nat.le_trans ZZ K50.1
  have V_pa := Va50
  have V_b39 := Vb50
  refine gs (fun t => XS.aload X50.here hx rfl (hb hby at_59) rfl rfl) ?_
  show Go p e below s QQ room_1.cells room_1.slots (T50.setTop (mkF m 61 #[.val (.int p0), .val (.int p1), .val (.int p2), .val (.int p3), .val (.int p4), .val (.ref b39), .val (.ref b45), .unset, .unset] [(.ref b45)]))
  refine gs (fun t => XS.aload X50.here hx rfl (hb hby at_61) rfl rfl) ?_
  show Go p e below s QQ room_1.cells room_1.slots (T50.setTop (mkF m 63 #[.val (.int p0), .val (.int p1), .val (.int p2), .val (.int p3), .val (.int p4), .val (.ref b39), .val (.ref b45), .unset, .unset] [(.ref b39), (.ref b45)]))
  refine gs (fun t => XS.iloadN X50.here hx rfl (hb hby at_63) rfl) ?_
  show Go p e below s QQ room_1.cells room_1.slots (T50.setTop (mkF m 64 #[.val (.int p0), .val (.int p1), .val (.int p2), .val (.int p3), .val (.int p4), .val (.ref b39), .val (.ref b45), .unset, .unset] [(.int p3), (.ref b39), (.ref b45)]))
  obtain ⟨_, _, ⟨T51, L51, k51, n51⟩, -, X51, ⟨Lc51, hQ51, l51, y51, z51⟩, st51⟩ := Jvm.LawKit.callS X50 hx (y := (⟨"com/example/seshat/seshat/DisjointSetsRootPinLaw", "joinBoth", "(Lcom/example/seshat/seshat/DisjointSets;[II)V"⟩ : MethodName)) hown (mvT hZ (hw _ (List.mem_of_getElem? (i := 12) rfl))) (mvT hZ (hw _ (List.mem_of_getElem? (i := 13) rfl))) (mvT hZ (hw _ (List.mem_of_getElem? (i := 14) rfl))) (mvT hZ (hw _ (List.mem_of_getElem? (i := 15) rfl))) (by decide) (backOf (W := 0) (rm3 l Z a0 hw [] b45 b39 p3 pa sj2 T50.heap n0 ZZ Fp47 Ex_b45 V_pa V_b39 ge_pa ge_b39 (Ne.symm ne_b39_b45) ne_b45_pa ne_b39_pa) hZ (hw _ (List.mem_of_getElem? (i := 15) rfl)) (hw _ (List.mem_of_getElem? (i := 14) rfl)) (by decide) (by decide)) (g := (mkF m 64 #[.val (.int p0), .val (.int p1), .val (.int p2), .val (.int p3), .val (.int p4), .val (.ref b39), .val (.ref b45), .unset, .unset] [(.int p3), (.ref b39), (.ref b45)])) rfl (by rw [hml]; rfl) (argsL := [(.ref b45), (.ref b39), (.int p3)]) (rest := []) (lenOf pd_4 rfl) rfl (by show 2 * 0 + _ ≤ _; exact Nat.le_of_eq rfl) (hb hby at_64) (fun _ _ => ⟨rfl, rfl, (by decide : 3 + 0 ≤ _), (by decide : 11 + 0 ≤ _)⟩)
  dsimp only [Pt.U, Pt.locs, Pt.cells, Pt.slots] at X51 l51 y51 z51 st51 hQ51
  subst l51 y51 z51
  obtain ⟨rfl, N51q, K51, sj3, Va51, Vb51⟩ := hQ51
  replace N0 := Fr.app N0 N51q
  refine gs st51 ?_
  show Go p e below s QQ room_1.cells room_1.slots (T51.setTop (mkF m 67 #[.val (.int p0), .val (.int p1), .val (.int p2), .val (.int p3), .val (.int p4), .val (.ref b39), .val (.ref b45), .unset, .unset] []))
  replace Ex_b45 := Ex_b45.keep K51
  replace Fp47 := Fp47.keep K51 (ninS ne_b45_pa (ninS (Ne.symm ne_b39_b45) nin0))
  replace ZZ := Nat.le_trans ZZ K51.1
  have V_pa := Va51
  have V_b39 := Vb51
  obtain ⟨rr, hr5, hre⟩ := own_idx p4
  refine gs (fun t => XS.iload X51.here hx rfl (hb hby at_67) rfl) ?_
  show Go p e below s QQ room_1.cells room_1.slots (T51.setTop (mkF m 69 #[.val (.int p0), .val (.int p1), .val (.int p2), .val (.int p3), .val (.int p4), .val (.ref b39), .val (.ref b45), .unset, .unset] [(.int p4)]))
  obtain ⟨_, _, ⟨T52, L52, k52, n52⟩, -, X52, ⟨Lc52, hQ52, l52, y52, z52⟩, st52⟩ := Jvm.LawKit.callS X51 hx (y := (⟨"com/example/seshat/seshat/DisjointSetsRootPinLaw", "idx", "(I)I"⟩ : MethodName)) hown (mvT hZ (hw _ (List.mem_of_getElem? (i := 16) rfl))) (mvT hZ (hw _ (List.mem_of_getElem? (i := 17) rfl))) (mvT hZ (hw _ (List.mem_of_getElem? (i := 14) rfl))) (mvT hZ (hw _ (List.mem_of_getElem? (i := 18) rfl))) (by decide) (backOf (W := 0) (rm4 l Z a0 hw [] p4 T51.heap n0 ZZ ) hZ (hw _ (List.mem_of_getElem? (i := 18) rfl)) (hw _ (List.mem_of_getElem? (i := 14) rfl)) (by decide) (by decide)) (g := (mkF m 69 #[.val (.int p0), .val (.int p1), .val (.int p2), .val (.int p3), .val (.int p4), .val (.ref b39), .val (.ref b45), .unset, .unset] [(.int p4)])) rfl (by rw [hml]; rfl) (argsL := [(.int p4)]) (rest := []) (lenOf pd_0 rfl) rfl (by show 2 * 0 + _ ≤ _; exact Nat.le_of_eq rfl) (hb hby at_69) (fun _ _ => ⟨rfl, rfl, (by decide : 3 + 0 ≤ _), (by decide : 11 + 0 ≤ _)⟩)
  dsimp only [Pt.U, Pt.locs, Pt.cells, Pt.slots] at X52 l52 y52 z52 st52 hQ52
  subst l52 y52 z52
  obtain ⟨rfl, N52q, e52⟩ := hQ52
  replace N0 := Fr.app N0 N52q
  refine gs st52 ?_
  show Go p e below s QQ room_1.cells room_1.slots (T52.setTop (mkF m 72 #[.val (.int p0), .val (.int p1), .val (.int p2), .val (.int p3), .val (.int p4), .val (.ref b39), .val (.ref b45), .unset, .unset] [(.int ((p4 &&& (2147483647 : Int32)) % (5 : Int32)))]))
  rw [show ((p4 &&& (2147483647 : Int32)) % (5 : Int32)) = (oI rr) from hre]
  show Go p e below s QQ room_1.cells room_1.slots (T52.setTop (mkF m 72 #[.val (.int p0), .val (.int p1), .val (.int p2), .val (.int p3), .val (.int p4), .val (.ref b39), .val (.ref b45), .unset, .unset] [(.int (oI rr))]))
  refine gs (fun t => XS.istore X52.here hx rfl (hb hby at_72) rfl (l' := #[.val (.int p0), .val (.int p1), .val (.int p2), .val (.int p3), .val (.int p4), .val (.ref b39), .val (.ref b45), .val (.int (oI rr)), .unset]) rfl) ?_
  show Go p e below s QQ room_1.cells room_1.slots (T52.setTop (mkF m 74 #[.val (.int p0), .val (.int p1), .val (.int p2), .val (.int p3), .val (.int p4), .val (.ref b39), .val (.ref b45), .val (.int (oI rr)), .unset] []))
  refine gs (fun t => XS.iconst X52.here hx rfl (hb hby at_74)) ?_
  show Go p e below s QQ room_1.cells room_1.slots (T52.setTop (mkF m 75 #[.val (.int p0), .val (.int p1), .val (.int p2), .val (.int p3), .val (.int p4), .val (.ref b39), .val (.ref b45), .val (.int (oI rr)), .unset] [(.int (1 : Int32))]))
  refine gs (fun t => XS.istore X52.here hx rfl (hb hby at_75) rfl (l' := #[.val (.int p0), .val (.int p1), .val (.int p2), .val (.int p3), .val (.int p4), .val (.ref b39), .val (.ref b45), .val (.int (oI rr)), .val (.int (1 : Int32))]) rfl) ?_
  show Go p e below s QQ room_1.cells room_1.slots (T52.setTop (mkF m 77 #[.val (.int p0), .val (.int p1), .val (.int p2), .val (.int p3), .val (.int p4), .val (.ref b39), .val (.ref b45), .val (.int (oI rr)), .val (.int (1 : Int32))] []))
  refine gs (fun t => XS.aload X52.here hx rfl (hb hby at_77) rfl rfl) ?_
  show Go p e below s QQ room_1.cells room_1.slots (T52.setTop (mkF m 79 #[.val (.int p0), .val (.int p1), .val (.int p2), .val (.int p3), .val (.int p4), .val (.ref b39), .val (.ref b45), .val (.int (oI rr)), .val (.int (1 : Int32))] [(.ref b45)]))
  refine gs (fun t => XS.aload X52.here hx rfl (hb hby at_79) rfl rfl) ?_
  show Go p e below s QQ room_1.cells room_1.slots (T52.setTop (mkF m 81 #[.val (.int p0), .val (.int p1), .val (.int p2), .val (.int p3), .val (.int p4), .val (.ref b39), .val (.ref b45), .val (.int (oI rr)), .val (.int (1 : Int32))] [(.ref b39), (.ref b45)]))
  refine gs (fun t => XS.iload X52.here hx rfl (hb hby at_81) rfl) ?_
  show Go p e below s QQ room_1.cells room_1.slots (T52.setTop (mkF m 83 #[.val (.int p0), .val (.int p1), .val (.int p2), .val (.int p3), .val (.int p4), .val (.ref b39), .val (.ref b45), .val (.int (oI rr)), .val (.int (1 : Int32))] [(.int (oI rr)), (.ref b39), (.ref b45)]))
  obtain ⟨_, _, ⟨T53, L53, k53, n53⟩, -, X53, ⟨Lc53, hQ53, l53, y53, z53⟩, st53⟩ := Jvm.LawKit.callS X52 hx (y := (⟨"com/example/seshat/seshat/DisjointSetsRootPinLaw", "check", "(Lcom/example/seshat/seshat/DisjointSets;[II)Z"⟩ : MethodName)) hown (mvT hZ (hw _ (List.mem_of_getElem? (i := 41) rfl))) (mvT hZ (hw _ (List.mem_of_getElem? (i := 42) rfl))) (mvT hZ (hw _ (List.mem_of_getElem? (i := 14) rfl))) (mvT hZ (hw _ (List.mem_of_getElem? (i := 43) rfl))) (by decide) (backOf (W := 0) (rm10 l Z a0 hw [] b45 b39 rr pa sj3 T51.heap n0 ZZ Fp47 Ex_b45 V_pa V_b39 ge_pa ge_b39 (Ne.symm ne_b39_b45) ne_b45_pa ne_b39_pa hr5) hZ (hw _ (List.mem_of_getElem? (i := 43) rfl)) (hw _ (List.mem_of_getElem? (i := 14) rfl)) (by decide) (by decide)) (g := (mkF m 83 #[.val (.int p0), .val (.int p1), .val (.int p2), .val (.int p3), .val (.int p4), .val (.ref b39), .val (.ref b45), .val (.int (oI rr)), .val (.int (1 : Int32))] [(.int (oI rr)), (.ref b39), (.ref b45)])) rfl (by rw [hml]; rfl) (argsL := [(.ref b45), (.ref b39), (.int (oI rr))]) (rest := []) (lenOf pd_5 rfl) rfl (by show 2 * 0 + _ ≤ _; exact Nat.le_of_eq rfl) (hb hby at_83) (fun _ _ => ⟨rfl, e52, (by decide : 3 + 0 ≤ _), (by decide : 11 + 0 ≤ _)⟩)
  dsimp only [Pt.U, Pt.locs, Pt.cells, Pt.slots] at X53 l53 y53 z53 st53 hQ53
  subst l53 y53 z53
  obtain ⟨rfl, N53q, K53, sc0, Va53, Vb53⟩ := hQ53
  replace N0 := Fr.app N0 N53q
  refine gs st53 ?_
  show Go p e below s QQ room_1.cells room_1.slots (T53.setTop (mkF m 86 #[.val (.int p0), .val (.int p1), .val (.int p2), .val (.int p3), .val (.int p4), .val (.ref b39), .val (.ref b45), .val (.int (oI rr)), .val (.int (1 : Int32))] [(.int (1 : Int32))]))
  replace Ex_b45 := Ex_b45.keep K53
  replace Fp47 := Fp47.keep K53 (ninS ne_b45_pa nin0)
  replace V_b39 := V_b39.keep K53 (ninS ne_b39_pa nin0)
  replace ZZ := Nat.le_trans ZZ K53.1
  replace V_b39 := Vb53
  have V_pa := Va53
  refine gs (fun t => XS.ifNo X53.here hx rfl (hb hby at_86) rfl ((if0 _ _).trans (feq (by decide : ¬ ((1 : Int32) = (0 : Int32)))).1)) ?_
  show Go p e below s QQ room_1.cells room_1.slots (T53.setTop (mkF m 89 #[.val (.int p0), .val (.int p1), .val (.int p2), .val (.int p3), .val (.int p4), .val (.ref b39), .val (.ref b45), .val (.int (oI rr)), .val (.int (1 : Int32))] []))
  refine gs (fun t => XS.iload X53.here hx rfl (hb hby at_89) rfl) ?_
  show Go p e below s QQ room_1.cells room_1.slots (T53.setTop (mkF m 91 #[.val (.int p0), .val (.int p1), .val (.int p2), .val (.int p3), .val (.int p4), .val (.ref b39), .val (.ref b45), .val (.int (oI rr)), .val (.int (1 : Int32))] [(.int (1 : Int32))]))
  refine gs (fun t => XS.ifNo X53.here hx rfl (hb hby at_91) rfl ((if0 _ _).trans (feq (by decide : ¬ ((1 : Int32) = (0 : Int32)))).1)) ?_
  show Go p e below s QQ room_1.cells room_1.slots (T53.setTop (mkF m 94 #[.val (.int p0), .val (.int p1), .val (.int p2), .val (.int p3), .val (.int p4), .val (.ref b39), .val (.ref b45), .val (.int (oI rr)), .val (.int (1 : Int32))] []))
  refine gs (fun t => XS.iconst X53.here hx rfl (hb hby at_94)) ?_
  show Go p e below s QQ room_1.cells room_1.slots (T53.setTop (mkF m 95 #[.val (.int p0), .val (.int p1), .val (.int p2), .val (.int p3), .val (.int p4), .val (.ref b39), .val (.ref b45), .val (.int (oI rr)), .val (.int (1 : Int32))] [(.int (1 : Int32))]))
  refine gs (fun t => XS.goto X53.here hx rfl (pc0 := 95) (pc' := 99) rfl (hb hby at_95) (by decide) (by decide)) ?_
  show Go p e below s QQ room_1.cells room_1.slots (T53.setTop (mkF m 99 #[.val (.int p0), .val (.int p1), .val (.int p2), .val (.int p3), .val (.int p4), .val (.ref b39), .val (.ref b45), .val (.int (oI rr)), .val (.int (1 : Int32))] [(.int (1 : Int32))]))
  refine gs (fun t => XS.istore X53.here hx rfl (hb hby at_99) rfl (l' := #[.val (.int p0), .val (.int p1), .val (.int p2), .val (.int p3), .val (.int p4), .val (.ref b39), .val (.ref b45), .val (.int (oI rr)), .val (.int (1 : Int32))]) rfl) ?_
  show Go p e below s QQ room_1.cells room_1.slots (T53.setTop (mkF m 101 #[.val (.int p0), .val (.int p1), .val (.int p2), .val (.int p3), .val (.int p4), .val (.ref b39), .val (.ref b45), .val (.int (oI rr)), .val (.int (1 : Int32))] []))
  refine gs (fun t => XS.aload X53.here hx rfl (hb hby at_101) rfl rfl) ?_
  show Go p e below s QQ room_1.cells room_1.slots (T53.setTop (mkF m 103 #[.val (.int p0), .val (.int p1), .val (.int p2), .val (.int p3), .val (.int p4), .val (.ref b39), .val (.ref b45), .val (.int (oI rr)), .val (.int (1 : Int32))] [(.ref b45)]))
  refine gs (fun t => XS.aload X53.here hx rfl (hb hby at_103) rfl rfl) ?_
  show Go p e below s QQ room_1.cells room_1.slots (T53.setTop (mkF m 105 #[.val (.int p0), .val (.int p1), .val (.int p2), .val (.int p3), .val (.int p4), .val (.ref b39), .val (.ref b45), .val (.int (oI rr)), .val (.int (1 : Int32))] [(.ref b39), (.ref b45)]))
  refine gs (fun t => XS.iload X53.here hx rfl (hb hby at_105) rfl) ?_
  show Go p e below s QQ room_1.cells room_1.slots (T53.setTop (mkF m 107 #[.val (.int p0), .val (.int p1), .val (.int p2), .val (.int p3), .val (.int p4), .val (.ref b39), .val (.ref b45), .val (.int (oI rr)), .val (.int (1 : Int32))] [(.int (oI rr)), (.ref b39), (.ref b45)]))
  refine gs (fun t => XS.iconst X53.here hx rfl (hb hby at_107)) ?_
  show Go p e below s QQ room_1.cells room_1.slots (T53.setTop (mkF m 108 #[.val (.int p0), .val (.int p1), .val (.int p2), .val (.int p3), .val (.int p4), .val (.ref b39), .val (.ref b45), .val (.int (oI rr)), .val (.int (1 : Int32))] [(.int (1 : Int32)), (.int (oI rr)), (.ref b39), (.ref b45)]))
  refine gs (fun t => XS.iadd X53.here hx rfl (hb hby at_108) rfl) ?_
  show Go p e below s QQ room_1.cells room_1.slots (T53.setTop (mkF m 109 #[.val (.int p0), .val (.int p1), .val (.int p2), .val (.int p3), .val (.int p4), .val (.ref b39), .val (.ref b45), .val (.int (oI rr)), .val (.int (1 : Int32))] [(.int ((oI rr) + (1 : Int32))), (.ref b39), (.ref b45)]))
  refine gs (fun t => XS.iconst X53.here hx rfl (hb hby at_109)) ?_
  show Go p e below s QQ room_1.cells room_1.slots (T53.setTop (mkF m 110 #[.val (.int p0), .val (.int p1), .val (.int p2), .val (.int p3), .val (.int p4), .val (.ref b39), .val (.ref b45), .val (.int (oI rr)), .val (.int (1 : Int32))] [(.int (5 : Int32)), (.int ((oI rr) + (1 : Int32))), (.ref b39), (.ref b45)]))
  refine gs (fun t => iremM X53 hx (g := (mkF m 110 #[.val (.int p0), .val (.int p1), .val (.int p2), .val (.int p3), .val (.int p4), .val (.ref b39), .val (.ref b45), .val (.int (oI rr)), .val (.int (1 : Int32))] [(.int (5 : Int32)), (.int ((oI rr) + (1 : Int32))), (.ref b39), (.ref b45)])) rfl (hb hby at_110) rfl (by decide)) ?_
  show Go p e below s QQ room_1.cells room_1.slots (T53.setTop (mkF m 111 #[.val (.int p0), .val (.int p1), .val (.int p2), .val (.int p3), .val (.int p4), .val (.ref b39), .val (.ref b45), .val (.int (oI rr)), .val (.int (1 : Int32))] [(.int (((oI rr) + (1 : Int32)) % (5 : Int32))), (.ref b39), (.ref b45)]))
  rw [show (((oI rr) + (1 : Int32)) % (5 : Int32)) = (oI ((rr + 1) % 5)) from own_r rr 1 hr5 (by decide) rfl]
  show Go p e below s QQ room_1.cells room_1.slots (T53.setTop (mkF m 111 #[.val (.int p0), .val (.int p1), .val (.int p2), .val (.int p3), .val (.int p4), .val (.ref b39), .val (.ref b45), .val (.int (oI rr)), .val (.int (1 : Int32))] [(.int (oI ((rr + 1) % 5))), (.ref b39), (.ref b45)]))
  obtain ⟨_, _, ⟨T54, L54, k54, n54⟩, -, X54, ⟨Lc54, hQ54, l54, y54, z54⟩, st54⟩ := Jvm.LawKit.callS X53 hx (y := (⟨"com/example/seshat/seshat/DisjointSetsRootPinLaw", "check", "(Lcom/example/seshat/seshat/DisjointSets;[II)Z"⟩ : MethodName)) hown (mvT hZ (hw _ (List.mem_of_getElem? (i := 41) rfl))) (mvT hZ (hw _ (List.mem_of_getElem? (i := 42) rfl))) (mvT hZ (hw _ (List.mem_of_getElem? (i := 14) rfl))) (mvT hZ (hw _ (List.mem_of_getElem? (i := 43) rfl))) (by decide) (backOf (W := 0) (rm10 l Z a0 hw [] b45 b39 ((rr + 1) % 5) pa sc0 T53.heap n0 ZZ Fp47 Ex_b45 V_pa V_b39 ge_pa ge_b39 (Ne.symm ne_b39_b45) ne_b45_pa ne_b39_pa (Nat.mod_lt _ (by decide))) hZ (hw _ (List.mem_of_getElem? (i := 43) rfl)) (hw _ (List.mem_of_getElem? (i := 14) rfl)) (by decide) (by decide)) (g := (mkF m 111 #[.val (.int p0), .val (.int p1), .val (.int p2), .val (.int p3), .val (.int p4), .val (.ref b39), .val (.ref b45), .val (.int (oI rr)), .val (.int (1 : Int32))] [(.int (oI ((rr + 1) % 5))), (.ref b39), (.ref b45)])) rfl (by rw [hml]; rfl) (argsL := [(.ref b45), (.ref b39), (.int (oI ((rr + 1) % 5)))]) (rest := []) (lenOf pd_5 rfl) rfl (by show 2 * 0 + _ ≤ _; exact Nat.le_of_eq rfl) (hb hby at_111) (fun _ _ => ⟨rfl, rfl, (by decide : 3 + 0 ≤ _), (by decide : 11 + 0 ≤ _)⟩)
  dsimp only [Pt.U, Pt.locs, Pt.cells, Pt.slots] at X54 l54 y54 z54 st54 hQ54
  subst l54 y54 z54
  obtain ⟨rfl, N54q, K54, sc1, Va54, Vb54⟩ := hQ54
  replace N0 := Fr.app N0 N54q
  refine gs st54 ?_
  show Go p e below s QQ room_1.cells room_1.slots (T54.setTop (mkF m 114 #[.val (.int p0), .val (.int p1), .val (.int p2), .val (.int p3), .val (.int p4), .val (.ref b39), .val (.ref b45), .val (.int (oI rr)), .val (.int (1 : Int32))] [(.int (1 : Int32))]))
  replace Ex_b45 := Ex_b45.keep K54
  replace Fp47 := Fp47.keep K54 (ninS ne_b45_pa nin0)
  replace V_b39 := V_b39.keep K54 (ninS ne_b39_pa nin0)
  replace ZZ := Nat.le_trans ZZ K54.1
  replace V_b39 := Vb54
  have V_pa := Va54
  refine gs (fun t => XS.ifNo X54.here hx rfl (hb hby at_114) rfl ((if0 _ _).trans (feq (by decide : ¬ ((1 : Int32) = (0 : Int32)))).1)) ?_
  show Go p e below s QQ room_1.cells room_1.slots (T54.setTop (mkF m 117 #[.val (.int p0), .val (.int p1), .val (.int p2), .val (.int p3), .val (.int p4), .val (.ref b39), .val (.ref b45), .val (.int (oI rr)), .val (.int (1 : Int32))] []))
  refine gs (fun t => XS.iload X54.here hx rfl (hb hby at_117) rfl) ?_
  show Go p e below s QQ room_1.cells room_1.slots (T54.setTop (mkF m 119 #[.val (.int p0), .val (.int p1), .val (.int p2), .val (.int p3), .val (.int p4), .val (.ref b39), .val (.ref b45), .val (.int (oI rr)), .val (.int (1 : Int32))] [(.int (1 : Int32))]))
  refine gs (fun t => XS.ifNo X54.here hx rfl (hb hby at_119) rfl ((if0 _ _).trans (feq (by decide : ¬ ((1 : Int32) = (0 : Int32)))).1)) ?_
  show Go p e below s QQ room_1.cells room_1.slots (T54.setTop (mkF m 122 #[.val (.int p0), .val (.int p1), .val (.int p2), .val (.int p3), .val (.int p4), .val (.ref b39), .val (.ref b45), .val (.int (oI rr)), .val (.int (1 : Int32))] []))
  refine gs (fun t => XS.iconst X54.here hx rfl (hb hby at_122)) ?_
  show Go p e below s QQ room_1.cells room_1.slots (T54.setTop (mkF m 123 #[.val (.int p0), .val (.int p1), .val (.int p2), .val (.int p3), .val (.int p4), .val (.ref b39), .val (.ref b45), .val (.int (oI rr)), .val (.int (1 : Int32))] [(.int (1 : Int32))]))
  refine gs (fun t => XS.goto X54.here hx rfl (pc0 := 123) (pc' := 127) rfl (hb hby at_123) (by decide) (by decide)) ?_
  show Go p e below s QQ room_1.cells room_1.slots (T54.setTop (mkF m 127 #[.val (.int p0), .val (.int p1), .val (.int p2), .val (.int p3), .val (.int p4), .val (.ref b39), .val (.ref b45), .val (.int (oI rr)), .val (.int (1 : Int32))] [(.int (1 : Int32))]))
  refine gs (fun t => XS.istore X54.here hx rfl (hb hby at_127) rfl (l' := #[.val (.int p0), .val (.int p1), .val (.int p2), .val (.int p3), .val (.int p4), .val (.ref b39), .val (.ref b45), .val (.int (oI rr)), .val (.int (1 : Int32))]) rfl) ?_
  show Go p e below s QQ room_1.cells room_1.slots (T54.setTop (mkF m 129 #[.val (.int p0), .val (.int p1), .val (.int p2), .val (.int p3), .val (.int p4), .val (.ref b39), .val (.ref b45), .val (.int (oI rr)), .val (.int (1 : Int32))] []))
  refine gs (fun t => XS.aload X54.here hx rfl (hb hby at_129) rfl rfl) ?_
  show Go p e below s QQ room_1.cells room_1.slots (T54.setTop (mkF m 131 #[.val (.int p0), .val (.int p1), .val (.int p2), .val (.int p3), .val (.int p4), .val (.ref b39), .val (.ref b45), .val (.int (oI rr)), .val (.int (1 : Int32))] [(.ref b45)]))
  refine gs (fun t => XS.aload X54.here hx rfl (hb hby at_131) rfl rfl) ?_
  show Go p e below s QQ room_1.cells room_1.slots (T54.setTop (mkF m 133 #[.val (.int p0), .val (.int p1), .val (.int p2), .val (.int p3), .val (.int p4), .val (.ref b39), .val (.ref b45), .val (.int (oI rr)), .val (.int (1 : Int32))] [(.ref b39), (.ref b45)]))
  refine gs (fun t => XS.iload X54.here hx rfl (hb hby at_133) rfl) ?_
  show Go p e below s QQ room_1.cells room_1.slots (T54.setTop (mkF m 135 #[.val (.int p0), .val (.int p1), .val (.int p2), .val (.int p3), .val (.int p4), .val (.ref b39), .val (.ref b45), .val (.int (oI rr)), .val (.int (1 : Int32))] [(.int (oI rr)), (.ref b39), (.ref b45)]))
  refine gs (fun t => XS.iconst X54.here hx rfl (hb hby at_135)) ?_
  show Go p e below s QQ room_1.cells room_1.slots (T54.setTop (mkF m 136 #[.val (.int p0), .val (.int p1), .val (.int p2), .val (.int p3), .val (.int p4), .val (.ref b39), .val (.ref b45), .val (.int (oI rr)), .val (.int (1 : Int32))] [(.int (2 : Int32)), (.int (oI rr)), (.ref b39), (.ref b45)]))
  refine gs (fun t => XS.iadd X54.here hx rfl (hb hby at_136) rfl) ?_
  show Go p e below s QQ room_1.cells room_1.slots (T54.setTop (mkF m 137 #[.val (.int p0), .val (.int p1), .val (.int p2), .val (.int p3), .val (.int p4), .val (.ref b39), .val (.ref b45), .val (.int (oI rr)), .val (.int (1 : Int32))] [(.int ((oI rr) + (2 : Int32))), (.ref b39), (.ref b45)]))
  refine gs (fun t => XS.iconst X54.here hx rfl (hb hby at_137)) ?_
  show Go p e below s QQ room_1.cells room_1.slots (T54.setTop (mkF m 138 #[.val (.int p0), .val (.int p1), .val (.int p2), .val (.int p3), .val (.int p4), .val (.ref b39), .val (.ref b45), .val (.int (oI rr)), .val (.int (1 : Int32))] [(.int (5 : Int32)), (.int ((oI rr) + (2 : Int32))), (.ref b39), (.ref b45)]))
  refine gs (fun t => iremM X54 hx (g := (mkF m 138 #[.val (.int p0), .val (.int p1), .val (.int p2), .val (.int p3), .val (.int p4), .val (.ref b39), .val (.ref b45), .val (.int (oI rr)), .val (.int (1 : Int32))] [(.int (5 : Int32)), (.int ((oI rr) + (2 : Int32))), (.ref b39), (.ref b45)])) rfl (hb hby at_138) rfl (by decide)) ?_
  show Go p e below s QQ room_1.cells room_1.slots (T54.setTop (mkF m 139 #[.val (.int p0), .val (.int p1), .val (.int p2), .val (.int p3), .val (.int p4), .val (.ref b39), .val (.ref b45), .val (.int (oI rr)), .val (.int (1 : Int32))] [(.int (((oI rr) + (2 : Int32)) % (5 : Int32))), (.ref b39), (.ref b45)]))
  rw [show (((oI rr) + (2 : Int32)) % (5 : Int32)) = (oI ((rr + 2) % 5)) from own_r rr 2 hr5 (by decide) rfl]
  show Go p e below s QQ room_1.cells room_1.slots (T54.setTop (mkF m 139 #[.val (.int p0), .val (.int p1), .val (.int p2), .val (.int p3), .val (.int p4), .val (.ref b39), .val (.ref b45), .val (.int (oI rr)), .val (.int (1 : Int32))] [(.int (oI ((rr + 2) % 5))), (.ref b39), (.ref b45)]))
  obtain ⟨_, _, ⟨T55, L55, k55, n55⟩, -, X55, ⟨Lc55, hQ55, l55, y55, z55⟩, st55⟩ := Jvm.LawKit.callS X54 hx (y := (⟨"com/example/seshat/seshat/DisjointSetsRootPinLaw", "check", "(Lcom/example/seshat/seshat/DisjointSets;[II)Z"⟩ : MethodName)) hown (mvT hZ (hw _ (List.mem_of_getElem? (i := 41) rfl))) (mvT hZ (hw _ (List.mem_of_getElem? (i := 42) rfl))) (mvT hZ (hw _ (List.mem_of_getElem? (i := 14) rfl))) (mvT hZ (hw _ (List.mem_of_getElem? (i := 43) rfl))) (by decide) (backOf (W := 0) (rm10 l Z a0 hw [] b45 b39 ((rr + 2) % 5) pa sc1 T54.heap n0 ZZ Fp47 Ex_b45 V_pa V_b39 ge_pa ge_b39 (Ne.symm ne_b39_b45) ne_b45_pa ne_b39_pa (Nat.mod_lt _ (by decide))) hZ (hw _ (List.mem_of_getElem? (i := 43) rfl)) (hw _ (List.mem_of_getElem? (i := 14) rfl)) (by decide) (by decide)) (g := (mkF m 139 #[.val (.int p0), .val (.int p1), .val (.int p2), .val (.int p3), .val (.int p4), .val (.ref b39), .val (.ref b45), .val (.int (oI rr)), .val (.int (1 : Int32))] [(.int (oI ((rr + 2) % 5))), (.ref b39), (.ref b45)])) rfl (by rw [hml]; rfl) (argsL := [(.ref b45), (.ref b39), (.int (oI ((rr + 2) % 5)))]) (rest := []) (lenOf pd_5 rfl) rfl (by show 2 * 0 + _ ≤ _; exact Nat.le_of_eq rfl) (hb hby at_139) (fun _ _ => ⟨rfl, rfl, (by decide : 3 + 0 ≤ _), (by decide : 11 + 0 ≤ _)⟩)
  dsimp only [Pt.U, Pt.locs, Pt.cells, Pt.slots] at X55 l55 y55 z55 st55 hQ55
  subst l55 y55 z55
  obtain ⟨rfl, N55q, K55, sc2, Va55, Vb55⟩ := hQ55
  replace N0 := Fr.app N0 N55q
  refine gs st55 ?_
  show Go p e below s QQ room_1.cells room_1.slots (T55.setTop (mkF m 142 #[.val (.int p0), .val (.int p1), .val (.int p2), .val (.int p3), .val (.int p4), .val (.ref b39), .val (.ref b45), .val (.int (oI rr)), .val (.int (1 : Int32))] [(.int (1 : Int32))]))
  replace Ex_b45 := Ex_b45.keep K55
  replace Fp47 := Fp47.keep K55 (ninS ne_b45_pa nin0)
  replace V_b39 := V_b39.keep K55 (ninS ne_b39_pa nin0)
  replace ZZ := Nat.le_trans ZZ K55.1
  replace V_b39 := Vb55
  have V_pa := Va55
  refine gs (fun t => XS.ifNo X55.here hx rfl (hb hby at_142) rfl ((if0 _ _).trans (feq (by decide : ¬ ((1 : Int32) = (0 : Int32)))).1)) ?_
  show Go p e below s QQ room_1.cells room_1.slots (T55.setTop (mkF m 145 #[.val (.int p0), .val (.int p1), .val (.int p2), .val (.int p3), .val (.int p4), .val (.ref b39), .val (.ref b45), .val (.int (oI rr)), .val (.int (1 : Int32))] []))
  refine gs (fun t => XS.iload X55.here hx rfl (hb hby at_145) rfl) ?_
  show Go p e below s QQ room_1.cells room_1.slots (T55.setTop (mkF m 147 #[.val (.int p0), .val (.int p1), .val (.int p2), .val (.int p3), .val (.int p4), .val (.ref b39), .val (.ref b45), .val (.int (oI rr)), .val (.int (1 : Int32))] [(.int (1 : Int32))]))
  refine gs (fun t => XS.ifNo X55.here hx rfl (hb hby at_147) rfl ((if0 _ _).trans (feq (by decide : ¬ ((1 : Int32) = (0 : Int32)))).1)) ?_
  show Go p e below s QQ room_1.cells room_1.slots (T55.setTop (mkF m 150 #[.val (.int p0), .val (.int p1), .val (.int p2), .val (.int p3), .val (.int p4), .val (.ref b39), .val (.ref b45), .val (.int (oI rr)), .val (.int (1 : Int32))] []))
  refine gs (fun t => XS.iconst X55.here hx rfl (hb hby at_150)) ?_
  show Go p e below s QQ room_1.cells room_1.slots (T55.setTop (mkF m 151 #[.val (.int p0), .val (.int p1), .val (.int p2), .val (.int p3), .val (.int p4), .val (.ref b39), .val (.ref b45), .val (.int (oI rr)), .val (.int (1 : Int32))] [(.int (1 : Int32))]))
  refine gs (fun t => XS.goto X55.here hx rfl (pc0 := 151) (pc' := 155) rfl (hb hby at_151) (by decide) (by decide)) ?_
  show Go p e below s QQ room_1.cells room_1.slots (T55.setTop (mkF m 155 #[.val (.int p0), .val (.int p1), .val (.int p2), .val (.int p3), .val (.int p4), .val (.ref b39), .val (.ref b45), .val (.int (oI rr)), .val (.int (1 : Int32))] [(.int (1 : Int32))]))
  refine gs (fun t => XS.istore X55.here hx rfl (hb hby at_155) rfl (l' := #[.val (.int p0), .val (.int p1), .val (.int p2), .val (.int p3), .val (.int p4), .val (.ref b39), .val (.ref b45), .val (.int (oI rr)), .val (.int (1 : Int32))]) rfl) ?_
  show Go p e below s QQ room_1.cells room_1.slots (T55.setTop (mkF m 157 #[.val (.int p0), .val (.int p1), .val (.int p2), .val (.int p3), .val (.int p4), .val (.ref b39), .val (.ref b45), .val (.int (oI rr)), .val (.int (1 : Int32))] []))
  refine gs (fun t => XS.aload X55.here hx rfl (hb hby at_157) rfl rfl) ?_
  show Go p e below s QQ room_1.cells room_1.slots (T55.setTop (mkF m 159 #[.val (.int p0), .val (.int p1), .val (.int p2), .val (.int p3), .val (.int p4), .val (.ref b39), .val (.ref b45), .val (.int (oI rr)), .val (.int (1 : Int32))] [(.ref b45)]))
  refine gs (fun t => XS.aload X55.here hx rfl (hb hby at_159) rfl rfl) ?_
  show Go p e below s QQ room_1.cells room_1.slots (T55.setTop (mkF m 161 #[.val (.int p0), .val (.int p1), .val (.int p2), .val (.int p3), .val (.int p4), .val (.ref b39), .val (.ref b45), .val (.int (oI rr)), .val (.int (1 : Int32))] [(.ref b39), (.ref b45)]))
  refine gs (fun t => XS.iload X55.here hx rfl (hb hby at_161) rfl) ?_
  show Go p e below s QQ room_1.cells room_1.slots (T55.setTop (mkF m 163 #[.val (.int p0), .val (.int p1), .val (.int p2), .val (.int p3), .val (.int p4), .val (.ref b39), .val (.ref b45), .val (.int (oI rr)), .val (.int (1 : Int32))] [(.int (oI rr)), (.ref b39), (.ref b45)]))
  refine gs (fun t => XS.iconst X55.here hx rfl (hb hby at_163)) ?_
  show Go p e below s QQ room_1.cells room_1.slots (T55.setTop (mkF m 164 #[.val (.int p0), .val (.int p1), .val (.int p2), .val (.int p3), .val (.int p4), .val (.ref b39), .val (.ref b45), .val (.int (oI rr)), .val (.int (1 : Int32))] [(.int (3 : Int32)), (.int (oI rr)), (.ref b39), (.ref b45)]))
  refine gs (fun t => XS.iadd X55.here hx rfl (hb hby at_164) rfl) ?_
  show Go p e below s QQ room_1.cells room_1.slots (T55.setTop (mkF m 165 #[.val (.int p0), .val (.int p1), .val (.int p2), .val (.int p3), .val (.int p4), .val (.ref b39), .val (.ref b45), .val (.int (oI rr)), .val (.int (1 : Int32))] [(.int ((oI rr) + (3 : Int32))), (.ref b39), (.ref b45)]))
  refine gs (fun t => XS.iconst X55.here hx rfl (hb hby at_165)) ?_
  show Go p e below s QQ room_1.cells room_1.slots (T55.setTop (mkF m 166 #[.val (.int p0), .val (.int p1), .val (.int p2), .val (.int p3), .val (.int p4), .val (.ref b39), .val (.ref b45), .val (.int (oI rr)), .val (.int (1 : Int32))] [(.int (5 : Int32)), (.int ((oI rr) + (3 : Int32))), (.ref b39), (.ref b45)]))
  refine gs (fun t => iremM X55 hx (g := (mkF m 166 #[.val (.int p0), .val (.int p1), .val (.int p2), .val (.int p3), .val (.int p4), .val (.ref b39), .val (.ref b45), .val (.int (oI rr)), .val (.int (1 : Int32))] [(.int (5 : Int32)), (.int ((oI rr) + (3 : Int32))), (.ref b39), (.ref b45)])) rfl (hb hby at_166) rfl (by decide)) ?_
  show Go p e below s QQ room_1.cells room_1.slots (T55.setTop (mkF m 167 #[.val (.int p0), .val (.int p1), .val (.int p2), .val (.int p3), .val (.int p4), .val (.ref b39), .val (.ref b45), .val (.int (oI rr)), .val (.int (1 : Int32))] [(.int (((oI rr) + (3 : Int32)) % (5 : Int32))), (.ref b39), (.ref b45)]))
  rw [show (((oI rr) + (3 : Int32)) % (5 : Int32)) = (oI ((rr + 3) % 5)) from own_r rr 3 hr5 (by decide) rfl]
  show Go p e below s QQ room_1.cells room_1.slots (T55.setTop (mkF m 167 #[.val (.int p0), .val (.int p1), .val (.int p2), .val (.int p3), .val (.int p4), .val (.ref b39), .val (.ref b45), .val (.int (oI rr)), .val (.int (1 : Int32))] [(.int (oI ((rr + 3) % 5))), (.ref b39), (.ref b45)]))
  obtain ⟨_, _, ⟨T56, L56, k56, n56⟩, -, X56, ⟨Lc56, hQ56, l56, y56, z56⟩, st56⟩ := Jvm.LawKit.callS X55 hx (y := (⟨"com/example/seshat/seshat/DisjointSetsRootPinLaw", "check", "(Lcom/example/seshat/seshat/DisjointSets;[II)Z"⟩ : MethodName)) hown (mvT hZ (hw _ (List.mem_of_getElem? (i := 41) rfl))) (mvT hZ (hw _ (List.mem_of_getElem? (i := 42) rfl))) (mvT hZ (hw _ (List.mem_of_getElem? (i := 14) rfl))) (mvT hZ (hw _ (List.mem_of_getElem? (i := 43) rfl))) (by decide) (backOf (W := 0) (rm10 l Z a0 hw [] b45 b39 ((rr + 3) % 5) pa sc2 T55.heap n0 ZZ Fp47 Ex_b45 V_pa V_b39 ge_pa ge_b39 (Ne.symm ne_b39_b45) ne_b45_pa ne_b39_pa (Nat.mod_lt _ (by decide))) hZ (hw _ (List.mem_of_getElem? (i := 43) rfl)) (hw _ (List.mem_of_getElem? (i := 14) rfl)) (by decide) (by decide)) (g := (mkF m 167 #[.val (.int p0), .val (.int p1), .val (.int p2), .val (.int p3), .val (.int p4), .val (.ref b39), .val (.ref b45), .val (.int (oI rr)), .val (.int (1 : Int32))] [(.int (oI ((rr + 3) % 5))), (.ref b39), (.ref b45)])) rfl (by rw [hml]; rfl) (argsL := [(.ref b45), (.ref b39), (.int (oI ((rr + 3) % 5)))]) (rest := []) (lenOf pd_5 rfl) rfl (by show 2 * 0 + _ ≤ _; exact Nat.le_of_eq rfl) (hb hby at_167) (fun _ _ => ⟨rfl, rfl, (by decide : 3 + 0 ≤ _), (by decide : 11 + 0 ≤ _)⟩)
  dsimp only [Pt.U, Pt.locs, Pt.cells, Pt.slots] at X56 l56 y56 z56 st56 hQ56
  subst l56 y56 z56
  obtain ⟨rfl, N56q, K56, sc3, Va56, Vb56⟩ := hQ56
  replace N0 := Fr.app N0 N56q
  refine gs st56 ?_
  show Go p e below s QQ room_1.cells room_1.slots (T56.setTop (mkF m 170 #[.val (.int p0), .val (.int p1), .val (.int p2), .val (.int p3), .val (.int p4), .val (.ref b39), .val (.ref b45), .val (.int (oI rr)), .val (.int (1 : Int32))] [(.int (1 : Int32))]))
  replace Ex_b45 := Ex_b45.keep K56
  replace Fp47 := Fp47.keep K56 (ninS ne_b45_pa nin0)
  replace V_b39 := V_b39.keep K56 (ninS ne_b39_pa nin0)
  replace ZZ := Nat.le_trans ZZ K56.1
  replace V_b39 := Vb56
  have V_pa := Va56
  refine gs (fun t => XS.ifNo X56.here hx rfl (hb hby at_170) rfl ((if0 _ _).trans (feq (by decide : ¬ ((1 : Int32) = (0 : Int32)))).1)) ?_
  show Go p e below s QQ room_1.cells room_1.slots (T56.setTop (mkF m 173 #[.val (.int p0), .val (.int p1), .val (.int p2), .val (.int p3), .val (.int p4), .val (.ref b39), .val (.ref b45), .val (.int (oI rr)), .val (.int (1 : Int32))] []))
  refine gs (fun t => XS.iload X56.here hx rfl (hb hby at_173) rfl) ?_
  show Go p e below s QQ room_1.cells room_1.slots (T56.setTop (mkF m 175 #[.val (.int p0), .val (.int p1), .val (.int p2), .val (.int p3), .val (.int p4), .val (.ref b39), .val (.ref b45), .val (.int (oI rr)), .val (.int (1 : Int32))] [(.int (1 : Int32))]))
  refine gs (fun t => XS.ifNo X56.here hx rfl (hb hby at_175) rfl ((if0 _ _).trans (feq (by decide : ¬ ((1 : Int32) = (0 : Int32)))).1)) ?_
  show Go p e below s QQ room_1.cells room_1.slots (T56.setTop (mkF m 178 #[.val (.int p0), .val (.int p1), .val (.int p2), .val (.int p3), .val (.int p4), .val (.ref b39), .val (.ref b45), .val (.int (oI rr)), .val (.int (1 : Int32))] []))
  refine gs (fun t => XS.iconst X56.here hx rfl (hb hby at_178)) ?_
  show Go p e below s QQ room_1.cells room_1.slots (T56.setTop (mkF m 179 #[.val (.int p0), .val (.int p1), .val (.int p2), .val (.int p3), .val (.int p4), .val (.ref b39), .val (.ref b45), .val (.int (oI rr)), .val (.int (1 : Int32))] [(.int (1 : Int32))]))
  refine gs (fun t => XS.goto X56.here hx rfl (pc0 := 179) (pc' := 183) rfl (hb hby at_179) (by decide) (by decide)) ?_
  show Go p e below s QQ room_1.cells room_1.slots (T56.setTop (mkF m 183 #[.val (.int p0), .val (.int p1), .val (.int p2), .val (.int p3), .val (.int p4), .val (.ref b39), .val (.ref b45), .val (.int (oI rr)), .val (.int (1 : Int32))] [(.int (1 : Int32))]))
  refine gs (fun t => XS.istore X56.here hx rfl (hb hby at_183) rfl (l' := #[.val (.int p0), .val (.int p1), .val (.int p2), .val (.int p3), .val (.int p4), .val (.ref b39), .val (.ref b45), .val (.int (oI rr)), .val (.int (1 : Int32))]) rfl) ?_
  show Go p e below s QQ room_1.cells room_1.slots (T56.setTop (mkF m 185 #[.val (.int p0), .val (.int p1), .val (.int p2), .val (.int p3), .val (.int p4), .val (.ref b39), .val (.ref b45), .val (.int (oI rr)), .val (.int (1 : Int32))] []))
  refine gs (fun t => XS.aload X56.here hx rfl (hb hby at_185) rfl rfl) ?_
  show Go p e below s QQ room_1.cells room_1.slots (T56.setTop (mkF m 187 #[.val (.int p0), .val (.int p1), .val (.int p2), .val (.int p3), .val (.int p4), .val (.ref b39), .val (.ref b45), .val (.int (oI rr)), .val (.int (1 : Int32))] [(.ref b45)]))
  refine gs (fun t => XS.aload X56.here hx rfl (hb hby at_187) rfl rfl) ?_
  show Go p e below s QQ room_1.cells room_1.slots (T56.setTop (mkF m 189 #[.val (.int p0), .val (.int p1), .val (.int p2), .val (.int p3), .val (.int p4), .val (.ref b39), .val (.ref b45), .val (.int (oI rr)), .val (.int (1 : Int32))] [(.ref b39), (.ref b45)]))
  refine gs (fun t => XS.iload X56.here hx rfl (hb hby at_189) rfl) ?_
  show Go p e below s QQ room_1.cells room_1.slots (T56.setTop (mkF m 191 #[.val (.int p0), .val (.int p1), .val (.int p2), .val (.int p3), .val (.int p4), .val (.ref b39), .val (.ref b45), .val (.int (oI rr)), .val (.int (1 : Int32))] [(.int (oI rr)), (.ref b39), (.ref b45)]))
  refine gs (fun t => XS.iconst X56.here hx rfl (hb hby at_191)) ?_
  show Go p e below s QQ room_1.cells room_1.slots (T56.setTop (mkF m 192 #[.val (.int p0), .val (.int p1), .val (.int p2), .val (.int p3), .val (.int p4), .val (.ref b39), .val (.ref b45), .val (.int (oI rr)), .val (.int (1 : Int32))] [(.int (4 : Int32)), (.int (oI rr)), (.ref b39), (.ref b45)]))
  refine gs (fun t => XS.iadd X56.here hx rfl (hb hby at_192) rfl) ?_
  show Go p e below s QQ room_1.cells room_1.slots (T56.setTop (mkF m 193 #[.val (.int p0), .val (.int p1), .val (.int p2), .val (.int p3), .val (.int p4), .val (.ref b39), .val (.ref b45), .val (.int (oI rr)), .val (.int (1 : Int32))] [(.int ((oI rr) + (4 : Int32))), (.ref b39), (.ref b45)]))
  refine gs (fun t => XS.iconst X56.here hx rfl (hb hby at_193)) ?_
  show Go p e below s QQ room_1.cells room_1.slots (T56.setTop (mkF m 194 #[.val (.int p0), .val (.int p1), .val (.int p2), .val (.int p3), .val (.int p4), .val (.ref b39), .val (.ref b45), .val (.int (oI rr)), .val (.int (1 : Int32))] [(.int (5 : Int32)), (.int ((oI rr) + (4 : Int32))), (.ref b39), (.ref b45)]))
  refine gs (fun t => iremM X56 hx (g := (mkF m 194 #[.val (.int p0), .val (.int p1), .val (.int p2), .val (.int p3), .val (.int p4), .val (.ref b39), .val (.ref b45), .val (.int (oI rr)), .val (.int (1 : Int32))] [(.int (5 : Int32)), (.int ((oI rr) + (4 : Int32))), (.ref b39), (.ref b45)])) rfl (hb hby at_194) rfl (by decide)) ?_
  show Go p e below s QQ room_1.cells room_1.slots (T56.setTop (mkF m 195 #[.val (.int p0), .val (.int p1), .val (.int p2), .val (.int p3), .val (.int p4), .val (.ref b39), .val (.ref b45), .val (.int (oI rr)), .val (.int (1 : Int32))] [(.int (((oI rr) + (4 : Int32)) % (5 : Int32))), (.ref b39), (.ref b45)]))
  rw [show (((oI rr) + (4 : Int32)) % (5 : Int32)) = (oI ((rr + 4) % 5)) from own_r rr 4 hr5 (by decide) rfl]
  show Go p e below s QQ room_1.cells room_1.slots (T56.setTop (mkF m 195 #[.val (.int p0), .val (.int p1), .val (.int p2), .val (.int p3), .val (.int p4), .val (.ref b39), .val (.ref b45), .val (.int (oI rr)), .val (.int (1 : Int32))] [(.int (oI ((rr + 4) % 5))), (.ref b39), (.ref b45)]))
  obtain ⟨_, _, ⟨T57, L57, k57, n57⟩, -, X57, ⟨Lc57, hQ57, l57, y57, z57⟩, st57⟩ := Jvm.LawKit.callS X56 hx (y := (⟨"com/example/seshat/seshat/DisjointSetsRootPinLaw", "check", "(Lcom/example/seshat/seshat/DisjointSets;[II)Z"⟩ : MethodName)) hown (mvT hZ (hw _ (List.mem_of_getElem? (i := 41) rfl))) (mvT hZ (hw _ (List.mem_of_getElem? (i := 42) rfl))) (mvT hZ (hw _ (List.mem_of_getElem? (i := 14) rfl))) (mvT hZ (hw _ (List.mem_of_getElem? (i := 43) rfl))) (by decide) (backOf (W := 0) (rm10 l Z a0 hw [] b45 b39 ((rr + 4) % 5) pa sc3 T56.heap n0 ZZ Fp47 Ex_b45 V_pa V_b39 ge_pa ge_b39 (Ne.symm ne_b39_b45) ne_b45_pa ne_b39_pa (Nat.mod_lt _ (by decide))) hZ (hw _ (List.mem_of_getElem? (i := 43) rfl)) (hw _ (List.mem_of_getElem? (i := 14) rfl)) (by decide) (by decide)) (g := (mkF m 195 #[.val (.int p0), .val (.int p1), .val (.int p2), .val (.int p3), .val (.int p4), .val (.ref b39), .val (.ref b45), .val (.int (oI rr)), .val (.int (1 : Int32))] [(.int (oI ((rr + 4) % 5))), (.ref b39), (.ref b45)])) rfl (by rw [hml]; rfl) (argsL := [(.ref b45), (.ref b39), (.int (oI ((rr + 4) % 5)))]) (rest := []) (lenOf pd_5 rfl) rfl (by show 2 * 0 + _ ≤ _; exact Nat.le_of_eq rfl) (hb hby at_195) (fun _ _ => ⟨rfl, rfl, (by decide : 3 + 0 ≤ _), (by decide : 11 + 0 ≤ _)⟩)
  dsimp only [Pt.U, Pt.locs, Pt.cells, Pt.slots] at X57 l57 y57 z57 st57 hQ57
  subst l57 y57 z57
  obtain ⟨rfl, N57q, K57, sc4, Va57, Vb57⟩ := hQ57
  replace N0 := Fr.app N0 N57q
  refine gs st57 ?_
  show Go p e below s QQ room_1.cells room_1.slots (T57.setTop (mkF m 198 #[.val (.int p0), .val (.int p1), .val (.int p2), .val (.int p3), .val (.int p4), .val (.ref b39), .val (.ref b45), .val (.int (oI rr)), .val (.int (1 : Int32))] [(.int (1 : Int32))]))
  replace Ex_b45 := Ex_b45.keep K57
  replace Fp47 := Fp47.keep K57 (ninS ne_b45_pa nin0)
  replace V_b39 := V_b39.keep K57 (ninS ne_b39_pa nin0)
  replace ZZ := Nat.le_trans ZZ K57.1
  replace V_b39 := Vb57
  have V_pa := Va57
  refine gs (fun t => XS.ifNo X57.here hx rfl (hb hby at_198) rfl ((if0 _ _).trans (feq (by decide : ¬ ((1 : Int32) = (0 : Int32)))).1)) ?_
  show Go p e below s QQ room_1.cells room_1.slots (T57.setTop (mkF m 201 #[.val (.int p0), .val (.int p1), .val (.int p2), .val (.int p3), .val (.int p4), .val (.ref b39), .val (.ref b45), .val (.int (oI rr)), .val (.int (1 : Int32))] []))
  refine gs (fun t => XS.iload X57.here hx rfl (hb hby at_201) rfl) ?_
  show Go p e below s QQ room_1.cells room_1.slots (T57.setTop (mkF m 203 #[.val (.int p0), .val (.int p1), .val (.int p2), .val (.int p3), .val (.int p4), .val (.ref b39), .val (.ref b45), .val (.int (oI rr)), .val (.int (1 : Int32))] [(.int (1 : Int32))]))
  refine gs (fun t => XS.ifNo X57.here hx rfl (hb hby at_203) rfl ((if0 _ _).trans (feq (by decide : ¬ ((1 : Int32) = (0 : Int32)))).1)) ?_
  show Go p e below s QQ room_1.cells room_1.slots (T57.setTop (mkF m 206 #[.val (.int p0), .val (.int p1), .val (.int p2), .val (.int p3), .val (.int p4), .val (.ref b39), .val (.ref b45), .val (.int (oI rr)), .val (.int (1 : Int32))] []))
  refine gs (fun t => XS.iconst X57.here hx rfl (hb hby at_206)) ?_
  show Go p e below s QQ room_1.cells room_1.slots (T57.setTop (mkF m 207 #[.val (.int p0), .val (.int p1), .val (.int p2), .val (.int p3), .val (.int p4), .val (.ref b39), .val (.ref b45), .val (.int (oI rr)), .val (.int (1 : Int32))] [(.int (1 : Int32))]))
  refine gs (fun t => XS.goto X57.here hx rfl (pc0 := 207) (pc' := 211) rfl (hb hby at_207) (by decide) (by decide)) ?_
  show Go p e below s QQ room_1.cells room_1.slots (T57.setTop (mkF m 211 #[.val (.int p0), .val (.int p1), .val (.int p2), .val (.int p3), .val (.int p4), .val (.ref b39), .val (.ref b45), .val (.int (oI rr)), .val (.int (1 : Int32))] [(.int (1 : Int32))]))
  refine gs (fun t => XS.istore X57.here hx rfl (hb hby at_211) rfl (l' := #[.val (.int p0), .val (.int p1), .val (.int p2), .val (.int p3), .val (.int p4), .val (.ref b39), .val (.ref b45), .val (.int (oI rr)), .val (.int (1 : Int32))]) rfl) ?_
  show Go p e below s QQ room_1.cells room_1.slots (T57.setTop (mkF m 213 #[.val (.int p0), .val (.int p1), .val (.int p2), .val (.int p3), .val (.int p4), .val (.ref b39), .val (.ref b45), .val (.int (oI rr)), .val (.int (1 : Int32))] []))
  refine gs (fun t => XS.iload X57.here hx rfl (hb hby at_213) rfl) ?_
  show Go p e below s QQ room_1.cells room_1.slots (T57.setTop (mkF m 215 #[.val (.int p0), .val (.int p1), .val (.int p2), .val (.int p3), .val (.int p4), .val (.ref b39), .val (.ref b45), .val (.int (oI rr)), .val (.int (1 : Int32))] [(.int (1 : Int32))]))
  exact goB X57 hx Bd.notSynchronized Bd.returns (by simp) (w := (1 : Int32)) (by first | rfl | decide) (hb hby at_215) (by rw [← hQQ]; exact ⟨rfl, N0⟩) (by decide) (by decide)
set_option maxRecDepth 65536 in
set_option maxHeartbeats 40000000 in
theorem comes_1 {Post : Tables → Env → Array Value → State → Outcome → State → Prop} (hpost : ∀ tb e args s v u, (limb_1_1.after args s (.returned v) u = true ∧ limb_1_2.after args s (.returned v) u = true ∧ True) → FrameEnd s (.returned v) u (Jvm.fieldLocs frame_1_writes args s ++ Jvm.arrayLocs frame_1_arrays args s ++ Jvm.staticLocs frame_1_statics s) 16 128 → Post tb e args s (.returned v) u) :
    ArmFor flags0 classFile x code maxLocals ret World_1 tables_1 room_1 Calls_1 rest_1 Pre_1 Post := by
  intro l hfl _ _ p e ha hc hk s m args below hf hA hF happ hP
  obtain ⟨hcalls, hrest, hpre⟩ := hP
  obtain ⟨-, -, -, hnamed, -, -, -, hat⟩ := (Spec.applies_iff hf).mp happ
  obtain ⟨hg, hn⟩ := and_e (Cond.before_iff.mp (show (Jvm.Cond.and given_1 narrow_1).before args s = true from hpre))
  obtain ⟨gc, hg0⟩ := and_e hg
  obtain ⟨w0, w1, w2, w3, w4, rfl⟩ : ∃ w0 w1 w2 w3 w4 : Value, args = #[w0, w1, w2, w3, w4] := by
    have hs : args.size = 5 := by simpa [Cond.value, given_1] using gc
    obtain ⟨L⟩ := args
    match L, hs with
    | [w0, w1, w2, w3, w4], _ => exact ⟨w0, w1, w2, w3, w4, rfl⟩
  obtain ⟨ga0, hg1⟩ := and_e hg0
  obtain ⟨i0, ei0⟩ := is_v ga0
  obtain rfl : w0 = (.int i0) := Option.some.inj ei0
  obtain ⟨ga1, hg2⟩ := and_e hg1
  obtain ⟨i1, ei1⟩ := is_v ga1
  obtain rfl : w1 = (.int i1) := Option.some.inj ei1
  obtain ⟨ga2, hg3⟩ := and_e hg2
  obtain ⟨i2, ei2⟩ := is_v ga2
  obtain rfl : w2 = (.int i2) := Option.some.inj ei2
  obtain ⟨ga3, hg4⟩ := and_e hg3
  obtain ⟨i3, ei3⟩ := is_v ga3
  obtain rfl : w3 = (.int i3) := Option.some.inj ei3
  obtain ⟨i4, ei4⟩ := is_v hg4
  obtain rfl : w4 = (.int i4) := Option.some.inj ei4
  have hw := fun d (hd : d ∈ tables_1) => atoms_spec (ws := Jvm.Cond.code x code maxLocals ret :: tables_1) hat d (List.mem_cons_of_mem _ hd)
  have hfit : Fit s := fun {y c} hc i hi => by
    obtain ⟨ha, rfl⟩ := Array.getElem?_eq_some_iff.mp hc
    have q := List.all_eq_true.mp ((Array.all_eq_true_iff_forall_mem.mp hF) _ (Array.getElem_mem ha)) i (List.mem_range.mpr hi)
    simpa [Array.getElem?_eq_getElem hi] using q
  obtain ⟨n, o, h1, h2, h3, _, L, rfl, ⟨rfl, N⟩, hq⟩ := rm0 l s _ hw tables_1 i0 i1 i2 i3 i4 s.heap s.heap.size (Nat.le_refl _)  p e ha hc hk s m _ below hf ((Spec.applies_iff_loose hf).mp happ).1 ⟨rfl, State.Warmed39.refl s, rfl⟩ trivial
  refine ⟨n, _, h1, h2, h3, hpost _ _ _ _ _ _ ⟨Cond.after_iff.mpr rfl, Cond.after_iff.mpr (eq_i res_at (Term.int_eval (1)) rfl), trivial⟩ ⟨hq.1, hq.2.1, (hq.2.2.sift fun y hy => Or.inr (N y hy)).mono (by decide) (by decide)⟩⟩
theorem main_1_1 : Claimed_1_1 := comes_1 fun _ _ _ _ _ _ h hF => ⟨h.1, hF⟩
theorem main_1_2 : Claimed_1_2 := comes_1 fun _ _ _ _ _ _ h hF => ⟨h.2.1, hF⟩
end Jvm.Pilot.@@N@@
namespace Jvm.Pilot.@@N@@
open Jvm Jvm.ClassFile Sem Op Lib Jvm.Free Jvm.Stand Jvm.Pilot.@@N@@.Jvm.D
/-! MADE BY PROGRAM (witnessworld.py) out of the Statement's table words and the real class files: 10 classes; the members and pool entries that the words name. The judged class is class 1, her method 1. -/
namespace start1
open Jvm.ClassFile
def u (s : String) : CpInfo := .utf8 (stringToUtf16 s)
/-- a pool by its gaps: so many unusable entries, then the entry; so many at the end -/
def gap : Nat → List CpInfo → List CpInfo
  | 0, r => r
  | n + 1, r => .unusable :: gap n r
def poolList (es : List (Nat × CpInfo)) (last : Nat) : List CpInfo := es.foldr (fun e r => gap e.1 (e.2 :: r)) (gap last [])
def pool (es : List (Nat × CpInfo)) (last : Nat) : Array CpInfo := ⟨poolList es last⟩
def fileOf (pool : Array CpInfo) (this : Nat) (attrs : Array Attribute := #[]) (ms : Array MethodInfo := #[]) (fl : Nat := 33) (sup : Nat := 0) (ifs : Array Nat := #[]) (fds : Array FieldInfo := #[]) : ClassFile where
  minorVersion := 0
  majorVersion := 65
  constantPool := pool
  accessFlags := fl
  thisClass := this
  superClass := sup
  interfaces := ifs
  fields := fds
  methods := ms
  attributes := attrs
def plain (name : String) (sup : Option ClassId) : Class where
  name := name
  kind := .ordinary
  loader := none
  accessFlags := 33
  super := sup
  interfaces := #[]
  cf := none
  fields := #[]
  methods := #[]
  instanceTypes := #[]
  staticTypes := #[]
  resolved := #[]
  callSites := []
  init := .initialized
  statics := none
  mirror := none

def pool0 : Array CpInfo := pool [(5, u "<init>"), (0, u "()V"), (1, .class_ 10), (1, u "java/lang/Object")] 113

def k0c0 : Code := { maxStack := 0, maxLocals := 1, code := object_method_1_code, exceptionTable := #[], attributes := #[] }
def k0m0 : Method := { name := "<init>", desc := "()V", sig := { parameters := [], returnType := none }, accessFlags := 1, code := some k0c0 }
/-- java/lang/Object -/
def k0 : Class := { plain "java/lang/Object" none with
  accessFlags := 33
  interfaces := #[]
  cf := some (fileOf pool0 8 #[] #[{ accessFlags := 1, nameIndex := 5, descriptorIndex := 6, attributes := #[] }] 33 0 #[] #[])
  fields := #[]
  methods := #[k0m0]
  instanceTypes := #[]
  staticTypes := #[]
  resolved := Array.replicate 124 none
  statics := none }

def pool1 : Array CpInfo := pool [(2, .class_ 4), (1, u "java/lang/Object"), (0, u "<init>"), (0, u "()V"), (0, .class_ 8), (0, u "com/example/seshat/seshat/DisjointSets"), (0, .methodref 7 10), (0, .nameAndType 5 11), (0, u "(I)V"), (0, .methodref 13 14), (0, .class_ 15), (0, .nameAndType 16 17), (0, u "com/example/seshat/seshat/DisjointSetsRootPinLaw"), (0, u "joinBoth"), (0, u "(Lcom/example/seshat/seshat/DisjointSets;[II)V"), (0, .methodref 13 19), (0, .nameAndType 20 21), (0, u "idx"), (0, u "(I)I"), (0, .methodref 13 23), (0, .nameAndType 24 25), (0, u "check"), (0, u "(Lcom/example/seshat/seshat/DisjointSets;[II)Z"), (0, .integer 2147483647), (0, .methodref 7 28), (0, .nameAndType 29 30), (0, u "join"), (0, u "(II)I"), (0, .methodref 32 33), (0, .class_ 34), (0, .nameAndType 35 30), (0, u "java/lang/Math"), (0, u "min"), (0, .methodref 13 37), (0, .nameAndType 38 39), (0, u "relabel"), (0, u "([IIIII)V"), (0, .methodref 7 41), (0, .nameAndType 42 21), (0, u "root"), (2, u "law"), (0, u "(IIIII)Z")] 5

def k1m0 : Method := { name := "<init>", desc := "()V", sig := { parameters := [], returnType := none }, accessFlags := 1, code := none }
def k1c1 : Code := { maxStack := 4, maxLocals := 9, code := code, exceptionTable := #[], attributes := #[] }
def k1m1 : Method := { name := "law", desc := "(IIIII)Z", sig := { parameters := [.int, .int, .int, .int, .int], returnType := some .boolean }, accessFlags := 9, code := some k1c1 }
def k1c2 : Code := { maxStack := 2, maxLocals := 1, code := method_3_code, exceptionTable := #[], attributes := #[] }
def k1m2 : Method := { name := "idx", desc := "(I)I", sig := { parameters := [.int], returnType := some .int }, accessFlags := 10, code := some k1c2 }
def k1c3 : Code := { maxStack := 5, maxLocals := 8, code := method_4_code, exceptionTable := #[], attributes := #[] }
def k1m3 : Method := { name := "joinBoth", desc := "(Lcom/example/seshat/seshat/DisjointSets;[II)V", sig := { parameters := [(.object "com/example/seshat/seshat/DisjointSets"), (.array .int), .int], returnType := none }, accessFlags := 10, code := some k1c3 }
def k1c4 : Code := { maxStack := 3, maxLocals := 5, code := method_5_code, exceptionTable := #[], attributes := #[] }
def k1m4 : Method := { name := "relabel", desc := "([IIIII)V", sig := { parameters := [(.array .int), .int, .int, .int, .int], returnType := none }, accessFlags := 10, code := some k1c4 }
def k1c5 : Code := { maxStack := 3, maxLocals := 3, code := method_6_code, exceptionTable := #[], attributes := #[] }
def k1m5 : Method := { name := "check", desc := "(Lcom/example/seshat/seshat/DisjointSets;[II)Z", sig := { parameters := [(.object "com/example/seshat/seshat/DisjointSets"), (.array .int), .int], returnType := some .boolean }, accessFlags := 10, code := some k1c5 }
/-- com/example/seshat/seshat/DisjointSetsRootPinLaw -/
def k1 : Class := { plain "com/example/seshat/seshat/DisjointSetsRootPinLaw" (some 0) with
  accessFlags := 49
  interfaces := #[]
  cf := some (fileOf pool1 13 #[] #[{ accessFlags := 1, nameIndex := 5, descriptorIndex := 6, attributes := #[] }, { accessFlags := 9, nameIndex := 45, descriptorIndex := 46, attributes := #[] }, { accessFlags := 10, nameIndex := 20, descriptorIndex := 21, attributes := #[] }, { accessFlags := 10, nameIndex := 16, descriptorIndex := 17, attributes := #[] }, { accessFlags := 10, nameIndex := 38, descriptorIndex := 39, attributes := #[] }, { accessFlags := 10, nameIndex := 24, descriptorIndex := 25, attributes := #[] }] 49 2 #[] #[])
  fields := #[]
  methods := #[k1m0, k1m1, k1m2, k1m3, k1m4, k1m5]
  instanceTypes := #[]
  staticTypes := #[]
  resolved := Array.replicate 52 none
  statics := none }

def pool2 : Array CpInfo := pool [(1, .methodref 2 3), (0, .class_ 4), (0, .nameAndType 5 6), (0, u "java/lang/Object"), (0, u "<init>"), (0, u "()V"), (0, .fieldref 8 9), (0, .class_ 10), (0, .nameAndType 11 12), (0, u "com/example/seshat/seshat/DisjointSets"), (0, u "parents"), (0, u "[I"), (0, .methodref 8 14), (0, .nameAndType 15 16), (0, u "root"), (0, u "(I)I"), (0, .methodref 18 19), (0, .class_ 20), (0, .nameAndType 21 22), (0, u "java/lang/Math"), (0, u "min"), (0, u "(II)I"), (0, .methodref 18 24), (0, .nameAndType 25 22), (0, u "max"), (0, u "(I)V"), (3, u "join")] 2

def k2c0 : Code := { maxStack := 3, maxLocals := 3, code := prog_5_method_1_code, exceptionTable := #[], attributes := #[] }
def k2m0 : Method := { name := "<init>", desc := "(I)V", sig := { parameters := [.int], returnType := none }, accessFlags := 0, code := some k2c0 }
def k2c1 : Code := { maxStack := 5, maxLocals := 3, code := prog_5_method_2_code, exceptionTable := #[], attributes := #[] }
def k2m1 : Method := { name := "root", desc := "(I)I", sig := { parameters := [.int], returnType := some .int }, accessFlags := 0, code := some k2c1 }
def k2c2 : Code := { maxStack := 3, maxLocals := 6, code := prog_5_method_3_code, exceptionTable := #[], attributes := #[] }
def k2m2 : Method := { name := "join", desc := "(II)I", sig := { parameters := [.int, .int], returnType := some .int }, accessFlags := 0, code := some k2c2 }
/-- com/example/seshat/seshat/DisjointSets -/
def k2 : Class := { plain "com/example/seshat/seshat/DisjointSets" (some 0) with
  accessFlags := 48
  interfaces := #[]
  cf := some (fileOf pool2 8 #[] #[{ accessFlags := 0, nameIndex := 5, descriptorIndex := 26, attributes := #[] }, { accessFlags := 0, nameIndex := 15, descriptorIndex := 16, attributes := #[] }, { accessFlags := 0, nameIndex := 30, descriptorIndex := 22, attributes := #[] }] 48 2 #[] #[{ accessFlags := 18, nameIndex := 11, descriptorIndex := 12, attributes := #[] }])
  fields := #[{ name := "parents", type := (.array .int), accessFlags := 18, slot := 0, constantValue := 0 }]
  methods := #[k2m0, k2m1, k2m2]
  instanceTypes := #[(.array .int)]
  staticTypes := #[]
  resolved := Array.replicate 33 none
  statics := none }

def pool3 : Array CpInfo := pool [(1, .class_ 2), (0, u "java/lang/Math"), (1, .class_ 6), (1, u "java/lang/Object"), (0, u "<init>"), (0, u "()V"), (89, .class_ 100), (1, u "java/lang/Math$RandomNumberGeneratorHolder"), (71, u "negativeZeroFloatBits"), (0, u "J"), (2, u "negativeZeroDoubleBits"), (21, u "max"), (2, u "min"), (43, u "$assertionsDisabled"), (0, u "Z"), (88, u "(II)I"), (2, u "twoToTheDoubleScaleDown"), (0, u "D"), (4, u "twoToTheDoubleScaleUp"), (9, u "E"), (3, u "PI"), (2, u "TAU"), (2, u "DEGREES_TO_RADIANS"), (0, u "RADIANS_TO_DEGREES")] 94

def k3m0 : Method := { name := "<init>", desc := "()V", sig := { parameters := [], returnType := none }, accessFlags := 2, code := none }
def k3c1 : Code := { maxStack := 2, maxLocals := 2, code := jdk_29_method_65_code, exceptionTable := #[], attributes := #[] }
def k3m1 : Method := { name := "max", desc := "(II)I", sig := { parameters := [.int, .int], returnType := some .int }, accessFlags := 9, code := some k3c1 }
def k3c2 : Code := { maxStack := 2, maxLocals := 2, code := jdk_29_method_69_code, exceptionTable := #[], attributes := #[] }
def k3m2 : Method := { name := "min", desc := "(II)I", sig := { parameters := [.int, .int], returnType := some .int }, accessFlags := 9, code := some k3c2 }
/-- java/lang/Math -/
def k3 : Class := { plain "java/lang/Math" (some 0) with
  accessFlags := 49
  interfaces := #[]
  cf := some (fileOf pool3 1 #[.nestMembers #[98]] #[{ accessFlags := 2, nameIndex := 7, descriptorIndex := 8, attributes := #[] }, { accessFlags := 9, nameIndex := 198, descriptorIndex := 335, attributes := #[] }, { accessFlags := 9, nameIndex := 201, descriptorIndex := 335, attributes := #[] }] 49 4 #[] #[{ accessFlags := 25, nameIndex := 354, descriptorIndex := 339, attributes := #[] }, { accessFlags := 25, nameIndex := 358, descriptorIndex := 339, attributes := #[] }, { accessFlags := 25, nameIndex := 361, descriptorIndex := 339, attributes := #[] }, { accessFlags := 26, nameIndex := 364, descriptorIndex := 339, attributes := #[] }, { accessFlags := 26, nameIndex := 365, descriptorIndex := 339, attributes := #[] }, { accessFlags := 26, nameIndex := 172, descriptorIndex := 173, attributes := #[] }, { accessFlags := 26, nameIndex := 176, descriptorIndex := 173, attributes := #[] }, { accessFlags := 8, nameIndex := 344, descriptorIndex := 339, attributes := #[] }, { accessFlags := 8, nameIndex := 338, descriptorIndex := 339, attributes := #[] }, { accessFlags := 4120, nameIndex := 245, descriptorIndex := 246, attributes := #[] }])
  fields := #[{ name := "E", type := .double, accessFlags := 25, slot := 0, constantValue := 0 }, { name := "PI", type := .double, accessFlags := 25, slot := 1, constantValue := 0 }, { name := "TAU", type := .double, accessFlags := 25, slot := 2, constantValue := 0 }, { name := "DEGREES_TO_RADIANS", type := .double, accessFlags := 26, slot := 3, constantValue := 0 }, { name := "RADIANS_TO_DEGREES", type := .double, accessFlags := 26, slot := 4, constantValue := 0 }, { name := "negativeZeroFloatBits", type := .long, accessFlags := 26, slot := 5, constantValue := 0 }, { name := "negativeZeroDoubleBits", type := .long, accessFlags := 26, slot := 6, constantValue := 0 }, { name := "twoToTheDoubleScaleUp", type := .double, accessFlags := 8, slot := 7, constantValue := 0 }, { name := "twoToTheDoubleScaleDown", type := .double, accessFlags := 8, slot := 8, constantValue := 0 }, { name := "$assertionsDisabled", type := .boolean, accessFlags := 4120, slot := 9, constantValue := 0 }]
  methods := #[k3m0, k3m1, k3m2]
  instanceTypes := #[]
  staticTypes := #[.double, .double, .double, .double, .double, .long, .long, .double, .double, .boolean]
  resolved := Array.replicate 460 none
  statics := none }

def pool4 : Array CpInfo := pool [(1, u "java/lang/Cloneable"), (0, .class_ 1), (0, u "java/lang/Object"), (0, .class_ 3)] 3

/-- java/lang/Cloneable -/
def k4 : Class := { plain "java/lang/Cloneable" (some 0) with
  accessFlags := 1537
  interfaces := #[]
  cf := some (fileOf pool4 2 #[] #[] 1537 4 #[] #[])
  fields := #[]
  methods := #[]
  instanceTypes := #[]
  staticTypes := #[]
  resolved := Array.replicate 8 none
  statics := none }

def pool5 : Array CpInfo := pool [(1, u "java/io/Serializable"), (0, .class_ 1), (0, u "java/lang/Object"), (0, .class_ 3)] 3

/-- java/io/Serializable -/
def k5 : Class := { plain "java/io/Serializable" (some 0) with
  accessFlags := 1537
  interfaces := #[]
  cf := some (fileOf pool5 2 #[] #[] 1537 4 #[] #[])
  fields := #[]
  methods := #[]
  instanceTypes := #[]
  staticTypes := #[]
  resolved := Array.replicate 8 none
  statics := none }

/-- the primitive byte -/
def k6 : Class := { plain "byte" none with kind := .primitive 'B', accessFlags := 0x411 }
/-- [B -/
def k7 : Class := { plain "[B" (some 0) with kind := .array 6 .byte, interfaces := #[4, 5], accessFlags := 1041 }

/-- the primitive int -/
def k8 : Class := { plain "int" none with kind := .primitive 'I', accessFlags := 0x411 }
/-- [I -/
def k9 : Class := { plain "[I" (some 0) with kind := .array 8 .int, interfaces := #[4, 5], accessFlags := 1041 }

def heap : Heap := #[]
def classes : Array Class := #[k0, k1, k2, k3, k4, k5, k6, k7, k8, k9]
def interned : List (Array UInt16 × Addr) := []
def slotsUsed : Nat := 0
def theMethod : MethodId := ⟨1, 1⟩
def args0 : Array Value := #[.int 1, .int 2, .int 3, .int 4, .int 5]
def aboutOver (below : List Frame) : State where
  vm := { classes := classes, interned := interned.toArray }
  heap := heap
  slotsUsed := slotsUsed
  threads := #[{ frames := .invoking theMethod args0 :: below }]
def below0 : List Frame := [.native { method := ⟨0, 0⟩, args := #[] }]
def about1 : State := aboutOver below0
def p0 : Program := .bare "" "" ""
def e0 : Env := launch0.env 0 0 0
theorem w_frames : about1.frames = Frame.invoking theMethod args0 :: below0 := rfl
set_option maxRecDepth 65536 in
theorem w_args : argsFit about1.vm theMethod args0 = true := by decide +kernel
set_option maxRecDepth 65536 in
theorem w_heap : heapFits about1 = true := by decide +kernel
set_option maxRecDepth 65536 in
theorem w_runnable : about1.curStatus? = some .runnable := by decide +kernel
set_option maxRecDepth 65536 in
theorem w_alone : about1.alone = true := by decide +kernel
set_option maxRecDepth 65536 in
theorem w_named : about1.methodNamed? x = some theMethod := by decide +kernel
set_option maxRecDepth 65536 in
theorem w_hears : about1.hears theMethod below0 = true := by decide +kernel
set_option maxRecDepth 65536 in
theorem w_ripe : about1.ripe theMethod args0 below0 = true := by decide +kernel
theorem w_running : about1.status = .running := rfl
set_option maxRecDepth 65536 in
theorem w_room : about1.hasRoom e0.platform room_1 = true :=
  launch0.hasRoom_least _ room_1 (by decide +kernel) (by decide +kernel) (by decide +kernel) (by decide +kernel) (by decide +kernel) (by decide +kernel)
theorem allAtoms_all (ts : List Jvm.Cond) (a : Array Jvm.Value) (st : Jvm.State) : (allAtoms ts).before a st = ts.all (fun c => c.before a st) := by
  induction ts with
  | nil => rfl
  | cons c t ih =>
    show (Jvm.Cond.and c (allAtoms t)).before a st = _
    rw [Jvm.Cond.before_and, ih, List.all_cons]
def words1 : List Jvm.Cond := Jvm.Cond.code x code maxLocals ret :: tables_1
/-- a 'code' word, met by the world's own term for the bytes: nothing is compared byte by byte -/
theorem code_word {y : MethodName} {bytes : ByteArray} {mx : Nat} {rt : Option FieldType} {a : Array Value} {s : State} {m : MethodId} {meth : Method} {c : Code} (h1 : s.methodNamed? y = some m) (h2 : s.vm.method? m = some meth) (h3 : meth.code = some c) (h4 : c.code = bytes)
    (h5 : (c.maxLocals == mx && c.exceptionTable.isEmpty && decide (c.maxStack ≤ mostOperands) && decide (meth.sig.returnType = rt) && !meth.locks && decide (parseMethodDescriptor y.desc = some meth.sig)) = true) : (Jvm.Cond.code y bytes mx rt).before a s = true := by
  simp only [Bool.and_eq_true, beq_iff_eq, Bool.not_eq_true', decide_eq_true_eq] at h5
  obtain ⟨⟨⟨⟨⟨g1, g2⟩, g3⟩, g4⟩, g5⟩, g6⟩ := h5
  simp [Cond.before, Cond.holds, Cond.value, h1, h2, h3, h4, g1, g2, g3, g4, g5, g6]
def isCode : Jvm.Cond → Bool
  | .code _ _ _ _ => true
  | _ => false
theorem all_split {L : List Jvm.Cond} {P : Jvm.Cond → Bool} (h1 : L.all (fun c => isCode c || P c) = true) (h2 : ∀ c ∈ L.filter isCode, P c = true) : L.all P = true := by
  refine List.all_eq_true.mpr fun c hc => ?_
  have h := List.all_eq_true.mp h1 c hc
  rcases Bool.eq_false_or_eq_true (isCode c) with hi | hi
  · exact h2 c (List.mem_filter.mpr ⟨hc, hi⟩)
  · simpa [hi] using h
set_option maxRecDepth 65536 in
theorem w_c0 : (Jvm.Cond.code x code maxLocals ret).before args0 about1 = true := code_word (m := ⟨1, 1⟩) (meth := k1m1) (c := k1c1) (by decide +kernel) rfl rfl rfl (by decide +kernel)
set_option maxRecDepth 65536 in
theorem w_c1 : (Jvm.Cond.code ({ cls := "com/example/seshat/seshat/DisjointSets", name := "<init>", desc := "(I)V" } : Jvm.MethodName) prog_5_method_1_code (3 : Nat) (Option.none : Option Jvm.ClassFile.FieldType)).before args0 about1 = true := code_word (m := ⟨2, 0⟩) (meth := k2m0) (c := k2c0) (by decide +kernel) rfl rfl rfl (by decide +kernel)
set_option maxRecDepth 65536 in
theorem w_c2 : (Jvm.Cond.code ({ cls := "java/lang/Object", name := "<init>", desc := "()V" } : Jvm.MethodName) object_method_1_code (1 : Nat) (Option.none : Option Jvm.ClassFile.FieldType)).before args0 about1 = true := code_word (m := ⟨0, 0⟩) (meth := k0m0) (c := k0c0) (by decide +kernel) rfl rfl rfl (by decide +kernel)
set_option maxRecDepth 65536 in
theorem w_c3 : (Jvm.Cond.code ({ cls := "com/example/seshat/seshat/DisjointSetsRootPinLaw", name := "joinBoth", desc := "(Lcom/example/seshat/seshat/DisjointSets;[II)V" } : Jvm.MethodName) method_4_code (8 : Nat) (Option.none : Option Jvm.ClassFile.FieldType)).before args0 about1 = true := code_word (m := ⟨1, 3⟩) (meth := k1m3) (c := k1c3) (by decide +kernel) rfl rfl rfl (by decide +kernel)
set_option maxRecDepth 65536 in
theorem w_c4 : (Jvm.Cond.code ({ cls := "com/example/seshat/seshat/DisjointSetsRootPinLaw", name := "idx", desc := "(I)I" } : Jvm.MethodName) method_3_code (1 : Nat) (Option.some Jvm.ClassFile.FieldType.int)).before args0 about1 = true := code_word (m := ⟨1, 2⟩) (meth := k1m2) (c := k1c2) (by decide +kernel) rfl rfl rfl (by decide +kernel)
set_option maxRecDepth 65536 in
theorem w_c5 : (Jvm.Cond.code ({ cls := "com/example/seshat/seshat/DisjointSets", name := "join", desc := "(II)I" } : Jvm.MethodName) prog_5_method_3_code (6 : Nat) (Option.some Jvm.ClassFile.FieldType.int)).before args0 about1 = true := code_word (m := ⟨2, 2⟩) (meth := k2m2) (c := k2c2) (by decide +kernel) rfl rfl rfl (by decide +kernel)
set_option maxRecDepth 65536 in
theorem w_c6 : (Jvm.Cond.code ({ cls := "com/example/seshat/seshat/DisjointSets", name := "root", desc := "(I)I" } : Jvm.MethodName) prog_5_method_2_code (3 : Nat) (Option.some Jvm.ClassFile.FieldType.int)).before args0 about1 = true := code_word (m := ⟨2, 1⟩) (meth := k2m1) (c := k2c1) (by decide +kernel) rfl rfl rfl (by decide +kernel)
set_option maxRecDepth 65536 in
theorem w_c7 : (Jvm.Cond.code ({ cls := "java/lang/Math", name := "min", desc := "(II)I" } : Jvm.MethodName) jdk_29_method_69_code (2 : Nat) (Option.some Jvm.ClassFile.FieldType.int)).before args0 about1 = true := code_word (m := ⟨3, 2⟩) (meth := k3m2) (c := k3c2) (by decide +kernel) rfl rfl rfl (by decide +kernel)
set_option maxRecDepth 65536 in
theorem w_c8 : (Jvm.Cond.code ({ cls := "java/lang/Math", name := "max", desc := "(II)I" } : Jvm.MethodName) jdk_29_method_65_code (2 : Nat) (Option.some Jvm.ClassFile.FieldType.int)).before args0 about1 = true := code_word (m := ⟨3, 1⟩) (meth := k3m1) (c := k3c1) (by decide +kernel) rfl rfl rfl (by decide +kernel)
set_option maxRecDepth 65536 in
theorem w_c9 : (Jvm.Cond.code ({ cls := "com/example/seshat/seshat/DisjointSetsRootPinLaw", name := "relabel", desc := "([IIIII)V" } : Jvm.MethodName) method_5_code (5 : Nat) (Option.none : Option Jvm.ClassFile.FieldType)).before args0 about1 = true := code_word (m := ⟨1, 4⟩) (meth := k1m4) (c := k1c4) (by decide +kernel) rfl rfl rfl (by decide +kernel)
set_option maxRecDepth 65536 in
theorem w_c10 : (Jvm.Cond.code ({ cls := "com/example/seshat/seshat/DisjointSetsRootPinLaw", name := "check", desc := "(Lcom/example/seshat/seshat/DisjointSets;[II)Z" } : Jvm.MethodName) method_6_code (3 : Nat) (Option.some Jvm.ClassFile.FieldType.boolean)).before args0 about1 = true := code_word (m := ⟨1, 5⟩) (meth := k1m5) (c := k1c5) (by decide +kernel) rfl rfl rfl (by decide +kernel)
def codes1 : List Jvm.Cond := [Jvm.Cond.code x code maxLocals ret, Jvm.Cond.code ({ cls := "com/example/seshat/seshat/DisjointSets", name := "<init>", desc := "(I)V" } : Jvm.MethodName) prog_5_method_1_code (3 : Nat) (Option.none : Option Jvm.ClassFile.FieldType), Jvm.Cond.code ({ cls := "java/lang/Object", name := "<init>", desc := "()V" } : Jvm.MethodName) object_method_1_code (1 : Nat) (Option.none : Option Jvm.ClassFile.FieldType), Jvm.Cond.code ({ cls := "com/example/seshat/seshat/DisjointSetsRootPinLaw", name := "joinBoth", desc := "(Lcom/example/seshat/seshat/DisjointSets;[II)V" } : Jvm.MethodName) method_4_code (8 : Nat) (Option.none : Option Jvm.ClassFile.FieldType), Jvm.Cond.code ({ cls := "com/example/seshat/seshat/DisjointSetsRootPinLaw", name := "idx", desc := "(I)I" } : Jvm.MethodName) method_3_code (1 : Nat) (Option.some Jvm.ClassFile.FieldType.int), Jvm.Cond.code ({ cls := "com/example/seshat/seshat/DisjointSets", name := "join", desc := "(II)I" } : Jvm.MethodName) prog_5_method_3_code (6 : Nat) (Option.some Jvm.ClassFile.FieldType.int), Jvm.Cond.code ({ cls := "com/example/seshat/seshat/DisjointSets", name := "root", desc := "(I)I" } : Jvm.MethodName) prog_5_method_2_code (3 : Nat) (Option.some Jvm.ClassFile.FieldType.int), Jvm.Cond.code ({ cls := "java/lang/Math", name := "min", desc := "(II)I" } : Jvm.MethodName) jdk_29_method_69_code (2 : Nat) (Option.some Jvm.ClassFile.FieldType.int), Jvm.Cond.code ({ cls := "java/lang/Math", name := "max", desc := "(II)I" } : Jvm.MethodName) jdk_29_method_65_code (2 : Nat) (Option.some Jvm.ClassFile.FieldType.int), Jvm.Cond.code ({ cls := "com/example/seshat/seshat/DisjointSetsRootPinLaw", name := "relabel", desc := "([IIIII)V" } : Jvm.MethodName) method_5_code (5 : Nat) (Option.none : Option Jvm.ClassFile.FieldType), Jvm.Cond.code ({ cls := "com/example/seshat/seshat/DisjointSetsRootPinLaw", name := "check", desc := "(Lcom/example/seshat/seshat/DisjointSets;[II)Z" } : Jvm.MethodName) method_6_code (3 : Nat) (Option.some Jvm.ClassFile.FieldType.boolean)]
set_option maxRecDepth 65536 in
theorem codes_eq : words1.filter isCode = codes1 := rfl
theorem w_codes : ∀ c ∈ words1.filter isCode, c.before args0 about1 = true := by
  rw [codes_eq]
  intro c hc
  simp only [codes1, List.mem_cons, List.not_mem_nil, or_false] at hc
  rcases hc with rfl | rfl | rfl | rfl | rfl | rfl | rfl | rfl | rfl | rfl | rfl
  · exact w_c0
  · exact w_c1
  · exact w_c2
  · exact w_c3
  · exact w_c4
  · exact w_c5
  · exact w_c6
  · exact w_c7
  · exact w_c8
  · exact w_c9
  · exact w_c10
set_option maxRecDepth 65536 in
theorem w_t1 : (words1.take 24).all (fun c => isCode c || c.before args0 about1) = true := by decide +kernel
set_option maxRecDepth 65536 in
theorem w_t2 : (words1.drop 24).all (fun c => isCode c || c.before args0 about1) = true := by decide +kernel
theorem w_tables : (allAtoms (Jvm.Cond.code x code maxLocals ret :: tables_1)).before args0 about1 = true := by
  rw [allAtoms_all]
  show words1.all (fun c => c.before args0 about1) = true
  refine all_split ?_ w_codes
  rw [← List.take_append_drop 24 words1, List.all_append, w_t1, w_t2]
  rfl
set_option maxRecDepth 65536 in
theorem w_case : (Jvm.Cond.and given_1 narrow_1).before args0 about1 = true := by decide +kernel
theorem w_applies : (headSpec (Jvm.Cond.code x code maxLocals ret :: tables_1) room_1).applies x e0.platform about1 = true :=
  (Spec.applies_iff w_frames).mpr ⟨w_running, w_runnable, w_alone, w_named, w_hears, w_ripe, w_room, w_tables⟩
theorem atStart : AtStart classFile x code maxLocals ret World_1 tables_1 room_1 Calls_1 rest_1 Pre_1 launch0 p0 e0 about1 theMethod args0 below0 :=
  ⟨lists_1, trivial, launch0.admits_env _ _ _, launch0.least_env, fairChoices_fair.cas, fairChoices_fair.clock, w_frames, w_args, w_heap, w_applies, trivial, trivial, w_case⟩
end start1
theorem witness_1 : WitnessClaimed_1 := ⟨start1.p0, start1.e0, start1.about1, start1.theMethod, start1.args0, start1.below0, start1.atStart⟩
end Jvm.Pilot.@@N@@
