import JvmDerived
import JvmDerived.Pilot.@@N@@Statement
import JvmDerived.Pilot.@@N@@Code
set_option linter.unusedVariables false
set_option linter.unusedSimpArgs false
namespace Jvm.RoadKit
open Sem ClassFile Op Lib Jvm.Stand Jvm.Free Jvm.LawKit
section Own
variable {p : Program} {l : Launch} {e : Env} {R : Room} {s : State} {m : MethodId} {args : Array Value} {below : List Frame} {meth : Method} {c : Code} {T : State} {locs : List Loc} {cells slots : Nat} {Z : State} {h h' : Heap} {a b : Addr} {ty : FieldType} {ws : List Addr}
/-- from the state S the run comes to an end that Q allows -/
def Go (p : Program) (e : Env) (below : List Frame) (s : State) (Q : Option Value → Heap → List Loc → Prop) (K N : Nat) (S : State) : Prop :=
  ∃ (t : State) (o : Outcome), Steps p.tables e below S t ∧ t.status = .running ∧ Ended t below o ∧ ∃ v L, o = .returned v ∧ Q v t.heap L ∧ FrameEnd s o t L K N
variable {Q : Option Value → Heap → List Loc → Prop} {K N : Nat} {S S' : State}
theorem gs (h : ∀ t, Steps p.tables e below S' t → Steps p.tables e below S t) (k : Go p e below s Q K N S') : Go p e below s Q K N S := by
  obtain ⟨t, o, a, b⟩ := k
  exact ⟨t, o, h t a, b⟩
theorem gt (h : Steps p.tables e below S S') (k : Go p e below s Q K N S') : Go p e below s Q K N S := gs (fun _ => h.trans) k
theorem goEnd (X : Stand p l e R s m args below meth c T locs cells slots) {v : Option Value} (hlocks : meth.locks = false) (hv : meth.sig.returnType = none → v = none)
    (hs : ∀ fs, (∀ (f : JFrame) (acts : List Action), f.method = m → f.locked = none → f.entered = [] → (doReturn e (T.setTop f) acts v).1 = T.setFrames fs) → Steps p.tables e below S (T.setFrames fs))
    (hQ : Q v T.heap locs) (hk : cells ≤ K) (hn : slots ≤ N) : Go p e below s Q K N S := by
  obtain ⟨fs, hr, hrun, hended, hW, hsame⟩ := X.leave (v := v) hv hlocks
  exact ⟨_, _, hs fs hr, hrun, hended, v, locs, rfl, hQ, ⟨_, rfl⟩, hW, hsame.mono hk hn⟩
theorem goV (X : Stand p l e R s m args below meth c T locs cells slots) (hx : p.tables.exec = Jvm.exec) (hlocks : meth.locks = false) (hret : meth.sig.returnType = none) {pc : Nat} {Ls : Array Slot} (hd : decode c.code pc = .ok (.return_, 1)) (hQ : Q none T.heap locs) (hk : cells ≤ K) (hn : slots ≤ N) :
    Go p e below s Q K N (T.setTop (mkF m pc Ls [])) := goEnd X hlocks (fun _ => rfl) (fun _ hr => X.returnOut hx hret hd hr) hQ hk hn
theorem goW (X : Stand p l e R s m args below meth c T locs cells slots) (hx : p.tables.exec = Jvm.exec) (hlocks : meth.locks = false) {t : FieldType} (hret : meth.sig.returnType = some t) {pc : Nat} {Ls : Array Slot} {w : Value} {i : Instr} {rest : List Value} (hn0 : narrow t w = w)
    (hi : (i = .ireturn ∧ (t = .int ∨ t = .boolean ∨ t = .byte ∨ t = .char ∨ t = .short) ∧ ∃ z, w = .int z) ∨ (i = .lreturn ∧ t = .long ∧ ∃ z, w = .long z) ∨ (i = .dreturn ∧ t = .double ∧ ∃ z, w = .double z) ∨ (i = .freturn ∧ t = .float ∧ ∃ z, w = .float z) ∨ (i = .areturn ∧ t.isReference = true ∧ w.isRef = true))
    (hd : decode c.code pc = .ok (i, 1)) (hQ : Q (some w) T.heap locs) (hk : cells ≤ K) (hn : slots ≤ N) : Go p e below s Q K N (T.setTop (mkF m pc Ls (w :: rest))) :=
  goEnd X hlocks (fun q => by rw [hret] at q; cases q) (fun _ hr => retOut X hx hret hn0 hi hd hr) hQ hk hn
theorem goI (X : Stand p l e R s m args below meth c T locs cells slots) (hx : p.tables.exec = Jvm.exec) (hlocks : meth.locks = false) (hret : meth.sig.returnType = some .int) {pc : Nat} {Ls : Array Slot} {w : Int32} {rest : List Value} (hd : decode c.code pc = .ok (.ireturn, 1)) (hQ : Q (some (.int w)) T.heap locs) (hk : cells ≤ K) (hn : slots ≤ N) :
    Go p e below s Q K N (T.setTop (mkF m pc Ls (.int w :: rest))) := goW X hx hlocks hret rfl (Or.inl ⟨rfl, Or.inl rfl, w, rfl⟩) hd hQ hk hn
theorem goJ (X : Stand p l e R s m args below meth c T locs cells slots) (hx : p.tables.exec = Jvm.exec) (hlocks : meth.locks = false) (hret : meth.sig.returnType = some .long) {pc : Nat} {Ls : Array Slot} {w : Int64} {rest : List Value} (hd : decode c.code pc = .ok (.lreturn, 1)) (hQ : Q (some (.long w)) T.heap locs) (hk : cells ≤ K) (hn : slots ≤ N) :
    Go p e below s Q K N (T.setTop (mkF m pc Ls (.long w :: rest))) := goW X hx hlocks hret rfl (Or.inr (Or.inl ⟨rfl, rfl, w, rfl⟩)) hd hQ hk hn
theorem goR (X : Stand p l e R s m args below meth c T locs cells slots) (hx : p.tables.exec = Jvm.exec) (hlocks : meth.locks = false) {t : FieldType} (hret : meth.sig.returnType = some t) (ht : t.isReference = true) {pc : Nat} {Ls : Array Slot} {w : Value} (hw : w.isRef = true) {rest : List Value} (hd : decode c.code pc = .ok (.areturn, 1)) (hQ : Q (some w) T.heap locs) (hk : cells ≤ K) (hn : slots ≤ N) :
    Go p e below s Q K N (T.setTop (mkF m pc Ls (w :: rest))) :=
  goW X hx hlocks hret (by cases t <;> simp [FieldType.isReference] at ht <;> rfl) (Or.inr (Or.inr (Or.inr (Or.inr ⟨rfl, ht, hw⟩)))) hd hQ hk hn
theorem goB (X : Stand p l e R s m args below meth c T locs cells slots) (hx : p.tables.exec = Jvm.exec) (hlocks : meth.locks = false) {t : FieldType} (hret : meth.sig.returnType = some t) (ht : t = .boolean ∨ t = .byte ∨ t = .char ∨ t = .short) {pc : Nat} {Ls : Array Slot} {z w : Int32} {rest : List Value} (hz : nar t z = w) (hd : decode c.code pc = .ok (.ireturn, 1)) (hQ : Q (some (.int w)) T.heap locs) (hk : cells ≤ K) (hn : slots ≤ N) :
    Go p e below s Q K N (T.setTop (mkF m pc Ls (.int z :: rest))) := by
  subst hz
  exact goEnd X hlocks (fun q => by rw [hret] at q; cases q) (fun _ hr => retN X hx hret ht hd hr) hQ hk hn
/-- an array of n places; the place i holds f i -/
def Arf (Z : State) (h : Heap) (a : Addr) (ty : FieldType) (n : Nat) (f : Nat → Value) : Prop := ∃ c : Cell, Arr Z h a c ty ∧ c.slots.size = n ∧ n < 2 ^ 31 ∧ ∀ i, i < n → c.slots[i]? = some (f i)
def updv (f : Nat → Value) (j : Nat) (v : Value) : Nat → Value := fun i => if i = j then v else f i
variable {n : Nat} {f g : Nat → Value} {sl : Nat} {v : Value}
theorem Arf.lt (F : Arf Z h a ty n f) : a < h.size := by obtain ⟨c, A, -⟩ := F; exact A.lt
theorem Arf.ext (F : Arf Z h a ty n f) (E : Ext h h') : Arf Z h' a ty n f := by obtain ⟨c, A, r⟩ := F; exact ⟨c, A.ext E, r⟩
theorem Arf.other (F : Arf Z h b ty n f) (W : Wr h h' a sl v) (q : b ≠ a) : Arf Z h' b ty n f := by obtain ⟨c, A, r⟩ := F; exact ⟨c, A.other W q, r⟩
theorem Arf.keep (F : Arf Z h a ty n f) (K : Keep h h' ws) (q : a ∉ ws) : Arf Z h' a ty n f := by obtain ⟨c, A, r⟩ := F; exact ⟨c, ⟨K.2.1 a c A.1 q, A.2⟩, r⟩
theorem Arf.congr (F : Arf Z h a ty n f) (q : ∀ i, i < n → f i = g i) : Arf Z h a ty n g := by
  obtain ⟨c, A, r1, r2, r3⟩ := F
  exact ⟨c, A, r1, r2, fun i hi => by rw [← q i hi]; exact r3 i hi⟩
theorem clampLt (z : Int32) : z.toNatClampNeg < 2 ^ 31 := by
  have h1 := z.toInt_lt
  have h2 : z.toNatClampNeg = z.toInt.toNat := rfl
  omega
theorem clampOf {j : Int32} (h0 : 0 ≤ j.toInt) : (j.toNatClampNeg : Int) = j.toInt := by
  have h2 : j.toNatClampNeg = j.toInt.toNat := rfl
  omega
theorem Arf.new {k : ClassId} {z : Int32} (A : Arr Z h a (newA k ty z) ty) : Arf Z h a ty z.toNatClampNeg (fun _ => defaultValue ty) := by
  refine ⟨_, A, sz_new _ _ _, clampLt z, fun i hi => ?_⟩
  simp [newA, hi]
theorem Arf.set (F : Arf Z h a ty n f) {j : Nat} (W : Wr h h' a j v) (hj : j < n) : Arf Z h' a ty n (updv f j v) := by
  obtain ⟨c, A, r1, r2, r3⟩ := F
  refine ⟨_, A.same W, by rw [sz_set]; exact r1, r2, fun i hi => ?_⟩
  by_cases q : i = j
  · subst q
    simp [Cell.setSlot, updv, r1, hi]
  · have q' : ¬ j = i := fun x => q x.symm
    simp [Cell.setSlot, updv, q, Array.getElem?_setIfInBounds_ne q', r3 i hi]
theorem inI {cl : Cell} (S : cl.slots.size = n) {j : Int32} (hj : 0 ≤ j.toInt ∧ j.toInt < n) : ¬ (j < 0 ∨ cl.slots.size ≤ j.toNatClampNeg) := by
  have q := clampOf hj.1
  rintro (h1 | h1)
  · rw [Int32.lt_iff_toInt_lt] at h1
    have : (0 : Int32).toInt = 0 := rfl
    omega
  · omega
theorem stIf (X : Stand p l e R s m args below meth c T locs cells slots) (hx : p.tables.exec = Jvm.exec) (hZ : Z.Warmed39 s.vm) (eT : T.heap = h) (F : Arf Z h a .int n f) {j x : Int32} (hj : 0 ≤ j.toInt ∧ j.toInt < n) {g : JFrame} (hg : g.method = m) {rest : List Value} (hs : g.stack = .int x :: .int j :: .ref a :: rest) (hd : decode c.code g.pc = .ok (.iastore, 1)) :
    ∃ T' h', Stand p l e R s m args below meth c T' (locs ++ [⟨a, j.toNatClampNeg⟩]) cells slots ∧ T'.heap = h' ∧ Wr h h' a j.toNatClampNeg (.int x) ∧ Arf Z h' a .int n (updv f j.toNatClampNeg (.int x)) ∧ ∀ target, Steps p.tables e below (T'.setTop { g with pc := g.pc + 1, stack := rest }) target → Steps p.tables e below (T.setTop g) target := by
  obtain ⟨cl, A, r1, r2, r3⟩ := id F
  obtain ⟨T', h', X', e', W, st⟩ := stI X hx hZ eT A (j := j) (x := x) (inI r1 hj) hg hs hd
  have q := clampOf hj.1
  exact ⟨T', h', X', e', W, F.set W (by omega), st⟩
theorem stJf (X : Stand p l e R s m args below meth c T locs cells slots) (hx : p.tables.exec = Jvm.exec) (hZ : Z.Warmed39 s.vm) (eT : T.heap = h) (F : Arf Z h a .long n f) {j : Int32} {x : Int64} (hj : 0 ≤ j.toInt ∧ j.toInt < n) {g : JFrame} (hg : g.method = m) {rest : List Value} (hs : g.stack = .long x :: .int j :: .ref a :: rest) (hd : decode c.code g.pc = .ok (.lastore, 1)) :
    ∃ T' h', Stand p l e R s m args below meth c T' (locs ++ [⟨a, j.toNatClampNeg⟩]) cells slots ∧ T'.heap = h' ∧ Wr h h' a j.toNatClampNeg (.long x) ∧ Arf Z h' a .long n (updv f j.toNatClampNeg (.long x)) ∧ ∀ target, Steps p.tables e below (T'.setTop { g with pc := g.pc + 1, stack := rest }) target → Steps p.tables e below (T.setTop g) target := by
  obtain ⟨cl, A, r1, r2, r3⟩ := id F
  obtain ⟨T', h', X', e', W, st⟩ := stJ X hx hZ eT A (j := j) (x := x) (inI r1 hj) hg hs hd
  have q := clampOf hj.1
  exact ⟨T', h', X', e', W, F.set W (by omega), st⟩
theorem stBf (X : Stand p l e R s m args below meth c T locs cells slots) (hx : p.tables.exec = Jvm.exec) (hZ : Z.Warmed39 s.vm) (eT : T.heap = h) (F : Arf Z h a .byte n f) {j x : Int32} (hj : 0 ≤ j.toInt ∧ j.toInt < n) {g : JFrame} (hg : g.method = m) {rest : List Value} (hs : g.stack = .int x :: .int j :: .ref a :: rest) (hd : decode c.code g.pc = .ok (.bastore, 1)) :
    ∃ T' h', Stand p l e R s m args below meth c T' (locs ++ [⟨a, j.toNatClampNeg⟩]) cells slots ∧ T'.heap = h' ∧ Wr h h' a j.toNatClampNeg (.int (nar .byte x)) ∧ Arf Z h' a .byte n (updv f j.toNatClampNeg (.int (nar .byte x))) ∧ ∀ target, Steps p.tables e below (T'.setTop { g with pc := g.pc + 1, stack := rest }) target → Steps p.tables e below (T.setTop g) target := by
  obtain ⟨cl, A, r1, r2, r3⟩ := id F
  obtain ⟨T', h', X', e', W, st⟩ := stB X hx hZ eT A (j := j) (x := x) (inI r1 hj) hg hs hd
  have q := clampOf hj.1
  exact ⟨T', h', X', e', W, F.set W (by omega), st⟩
theorem stZf (X : Stand p l e R s m args below meth c T locs cells slots) (hx : p.tables.exec = Jvm.exec) (hZ : Z.Warmed39 s.vm) (eT : T.heap = h) (F : Arf Z h a .boolean n f) {j x : Int32} (hj : 0 ≤ j.toInt ∧ j.toInt < n) {g : JFrame} (hg : g.method = m) {rest : List Value} (hs : g.stack = .int x :: .int j :: .ref a :: rest) (hd : decode c.code g.pc = .ok (.bastore, 1)) :
    ∃ T' h', Stand p l e R s m args below meth c T' (locs ++ [⟨a, j.toNatClampNeg⟩]) cells slots ∧ T'.heap = h' ∧ Wr h h' a j.toNatClampNeg (.int (nar .boolean x)) ∧ Arf Z h' a .boolean n (updv f j.toNatClampNeg (.int (nar .boolean x))) ∧ ∀ target, Steps p.tables e below (T'.setTop { g with pc := g.pc + 1, stack := rest }) target → Steps p.tables e below (T.setTop g) target := by
  obtain ⟨cl, A, r1, r2, r3⟩ := id F
  obtain ⟨T', h', X', e', W, st⟩ := stZ X hx hZ eT A (j := j) (x := x) (inI r1 hj) hg hs hd
  have q := clampOf hj.1
  exact ⟨T', h', X', e', W, F.set W (by omega), st⟩
theorem stCf (X : Stand p l e R s m args below meth c T locs cells slots) (hx : p.tables.exec = Jvm.exec) (hZ : Z.Warmed39 s.vm) (eT : T.heap = h) (F : Arf Z h a .char n f) {j x : Int32} (hj : 0 ≤ j.toInt ∧ j.toInt < n) {g : JFrame} (hg : g.method = m) {rest : List Value} (hs : g.stack = .int x :: .int j :: .ref a :: rest) (hd : decode c.code g.pc = .ok (.castore, 1)) :
    ∃ T' h', Stand p l e R s m args below meth c T' (locs ++ [⟨a, j.toNatClampNeg⟩]) cells slots ∧ T'.heap = h' ∧ Wr h h' a j.toNatClampNeg (.int (nar .char x)) ∧ Arf Z h' a .char n (updv f j.toNatClampNeg (.int (nar .char x))) ∧ ∀ target, Steps p.tables e below (T'.setTop { g with pc := g.pc + 1, stack := rest }) target → Steps p.tables e below (T.setTop g) target := by
  obtain ⟨cl, A, r1, r2, r3⟩ := id F
  obtain ⟨T', h', X', e', W, st⟩ := stC X hx hZ eT A (j := j) (x := x) (inI r1 hj) hg hs hd
  have q := clampOf hj.1
  exact ⟨T', h', X', e', W, F.set W (by omega), st⟩
theorem stRf (X : Stand p l e R s m args below meth c T locs cells slots) (hx : p.tables.exec = Jvm.exec) (hZ : Z.Warmed39 s.vm) (eT : T.heap = h) (F : Arf Z h a ty n f) (hty : ty.isReference = true) {j : Int32} {v : Value} (hv : Sto Z h a v) (hj : 0 ≤ j.toInt ∧ j.toInt < n) {g : JFrame} (hg : g.method = m) {rest : List Value} (hs : g.stack = v :: .int j :: .ref a :: rest) (hd : decode c.code g.pc = .ok (.aastore, 1)) :
    ∃ T' h', Stand p l e R s m args below meth c T' (locs ++ [⟨a, j.toNatClampNeg⟩]) cells slots ∧ T'.heap = h' ∧ Wr h h' a j.toNatClampNeg v ∧ Arf Z h' a ty n (updv f j.toNatClampNeg v) ∧ ∀ target, Steps p.tables e below (T'.setTop { g with pc := g.pc + 1, stack := rest }) target → Steps p.tables e below (T.setTop g) target := by
  obtain ⟨cl, A, r1, r2, r3⟩ := id F
  obtain ⟨T', h', X', e', W, st⟩ := stR X hx hZ eT A (j := j) (v := v) (inI r1 hj) hty hv hg hs hd
  have q := clampOf hj.1
  exact ⟨T', h', X', e', W, F.set W (by omega), st⟩
theorem ldIf (X : Stand p l e R s m args below meth c T locs cells slots) (hx : p.tables.exec = Jvm.exec) (hZ : Z.Warmed39 s.vm) (eT : T.heap = h) (F : Arf Z h a .int n f) {j : Int32} {v : Value} (hj : 0 ≤ j.toInt ∧ j.toInt < n) (hv : f j.toNatClampNeg = v) {g : JFrame} (hg : g.method = m) {rest : List Value} (hs : g.stack = .int j :: .ref a :: rest) (hd : decode c.code g.pc = .ok (.iaload, 1)) :
    ∀ target, Steps p.tables e below (T.setTop { g with pc := g.pc + 1, stack := v :: rest }) target → Steps p.tables e below (T.setTop g) target := by
  obtain ⟨cl, A, r1, r2, r3⟩ := F
  have q := clampOf hj.1
  exact fun t => X.iaload hx (by rw [eT]; exact A.1) (State.isArrayOf_alike hZ.alike A.2.1) A.2.2 (inI r1 hj) (by rw [← hv]; exact r3 _ (by omega)) hg hs hd t
theorem ldJf (X : Stand p l e R s m args below meth c T locs cells slots) (hx : p.tables.exec = Jvm.exec) (hZ : Z.Warmed39 s.vm) (eT : T.heap = h) (F : Arf Z h a .long n f) {j : Int32} {v : Value} (hj : 0 ≤ j.toInt ∧ j.toInt < n) (hv : f j.toNatClampNeg = v) {g : JFrame} (hg : g.method = m) {rest : List Value} (hs : g.stack = .int j :: .ref a :: rest) (hd : decode c.code g.pc = .ok (.laload, 1)) :
    ∀ target, Steps p.tables e below (T.setTop { g with pc := g.pc + 1, stack := v :: rest }) target → Steps p.tables e below (T.setTop g) target := by
  obtain ⟨cl, A, r1, r2, r3⟩ := F
  have q := clampOf hj.1
  exact fun t => X.laload hx (by rw [eT]; exact A.1) (State.isArrayOf_alike hZ.alike A.2.1) A.2.2 (inI r1 hj) (by rw [← hv]; exact r3 _ (by omega)) hg hs hd t
theorem ldCf (X : Stand p l e R s m args below meth c T locs cells slots) (hx : p.tables.exec = Jvm.exec) (hZ : Z.Warmed39 s.vm) (eT : T.heap = h) (F : Arf Z h a .char n f) {j : Int32} {v : Value} (hj : 0 ≤ j.toInt ∧ j.toInt < n) (hv : f j.toNatClampNeg = v) {g : JFrame} (hg : g.method = m) {rest : List Value} (hs : g.stack = .int j :: .ref a :: rest) (hd : decode c.code g.pc = .ok (.caload, 1)) :
    ∀ target, Steps p.tables e below (T.setTop { g with pc := g.pc + 1, stack := v :: rest }) target → Steps p.tables e below (T.setTop g) target := by
  obtain ⟨cl, A, r1, r2, r3⟩ := F
  have q := clampOf hj.1
  exact fun t => X.caload hx (by rw [eT]; exact A.1) (State.isArrayOf_alike hZ.alike A.2.1) A.2.2 (inI r1 hj) (by rw [← hv]; exact r3 _ (by omega)) hg hs hd t
theorem ldBf (X : Stand p l e R s m args below meth c T locs cells slots) (hx : p.tables.exec = Jvm.exec) (hZ : Z.Warmed39 s.vm) (eT : T.heap = h) (F : Arf Z h a .byte n f) {j : Int32} {v : Value} (hj : 0 ≤ j.toInt ∧ j.toInt < n) (hv : f j.toNatClampNeg = v) {g : JFrame} (hg : g.method = m) {rest : List Value} (hs : g.stack = .int j :: .ref a :: rest) (hd : decode c.code g.pc = .ok (.baload, 1)) :
    ∀ target, Steps p.tables e below (T.setTop { g with pc := g.pc + 1, stack := v :: rest }) target → Steps p.tables e below (T.setTop g) target := by
  obtain ⟨cl, A, r1, r2, r3⟩ := F
  have q := clampOf hj.1
  exact fun t => X.baloadBytes hx (by rw [eT]; exact A.1) (State.isArrayOf_alike hZ.alike A.2.1) A.2.2 (inI r1 hj) (by rw [← hv]; exact r3 _ (by omega)) hg hs hd t
theorem ldZf (X : Stand p l e R s m args below meth c T locs cells slots) (hx : p.tables.exec = Jvm.exec) (hZ : Z.Warmed39 s.vm) (eT : T.heap = h) (F : Arf Z h a .boolean n f) {j : Int32} {v : Value} (hj : 0 ≤ j.toInt ∧ j.toInt < n) (hv : f j.toNatClampNeg = v) {g : JFrame} (hg : g.method = m) {rest : List Value} (hs : g.stack = .int j :: .ref a :: rest) (hd : decode c.code g.pc = .ok (.baload, 1)) :
    ∀ target, Steps p.tables e below (T.setTop { g with pc := g.pc + 1, stack := v :: rest }) target → Steps p.tables e below (T.setTop g) target := by
  obtain ⟨cl, A, r1, r2, r3⟩ := F
  have q := clampOf hj.1
  exact fun t => X.baloadBooleans hx (by rw [eT]; exact A.1) (State.isArrayOf_alike hZ.alike A.2.1) A.2.2 (inI r1 hj) (by rw [← hv]; exact r3 _ (by omega)) hg hs hd t
theorem ldRf (X : Stand p l e R s m args below meth c T locs cells slots) (hx : p.tables.exec = Jvm.exec) (hZ : Z.Warmed39 s.vm) (eT : T.heap = h) (F : Arf Z h a ty n f) (hty : ty.isReference = true) {j : Int32} {v : Value} (hj : 0 ≤ j.toInt ∧ j.toInt < n) (hv : f j.toNatClampNeg = v) {g : JFrame} (hg : g.method = m) {rest : List Value} (hs : g.stack = .int j :: .ref a :: rest) (hd : decode c.code g.pc = .ok (.aaload, 1)) :
    ∀ target, Steps p.tables e below (T.setTop { g with pc := g.pc + 1, stack := v :: rest }) target → Steps p.tables e below (T.setTop g) target := by
  obtain ⟨cl, A, r1, r2, r3⟩ := F
  have q := clampOf hj.1
  exact fun t => X.aaload hx (by rw [eT]; exact A.1) (State.isArrayOf_alike hZ.alike A.2.1) hty A.2.2 (inI r1 hj) (by rw [← hv]; exact r3 _ (by omega)) hg hs hd t
theorem lenf (X : Stand p l e R s m args below meth c T locs cells slots) (hx : p.tables.exec = Jvm.exec) (hZ : Z.Warmed39 s.vm) (eT : T.heap = h) (F : Arf Z h a ty n f) {z : Int32} (hz : n.toInt32 = z) {g : JFrame} (hg : g.method = m) {rest : List Value} (hs : g.stack = .ref a :: rest) (hd : decode c.code g.pc = .ok (.arraylength, 1)) :
    ∀ target, Steps p.tables e below (T.setTop { g with pc := g.pc + 1, stack := .int z :: rest }) target → Steps p.tables e below (T.setTop g) target := by
  obtain ⟨cl, A, r1, r2, r3⟩ := F
  subst hz r1
  exact fun t => X.arraylength hx (by rw [eT]; exact A.1) (State.isArrayOf_alike hZ.alike A.2.1) hg hs hd t
theorem toClamp {z : Int32} (q : 0 ≤ z.toInt) : z.toNatClampNeg.toInt32 = z := (back32 (fun h => by rw [Int32.lt_iff_toInt_lt] at h; have : (0 : Int32).toInt = 0 := rfl; omega)).1
theorem refCat {v : Value} (h : v.isRef = true) : v.category = 1 := by rcases ref_cases h with rfl | ⟨_, rfl⟩ <;> rfl
/-- an array that takes every object of the class C -/
def Tak (Z : State) (h : Heap) (a : Addr) (C : String) : Prop := ∃ (cell : Cell) (k kc : Class) (comp : ClassId) (t : FieldType), h[a]? = some cell ∧ Z.vm.classes[cell.cls]? = some k ∧ k.kind = .array comp t ∧ Z.vm.classes[comp]? = some kc ∧ Z.vm.findClass C = some comp
variable {C : String}
theorem Tak.ext (F : Tak Z h a C) (E : Ext h h') : Tak Z h' a C := by obtain ⟨cell, k, kc, comp, t, h1, r⟩ := F; exact ⟨cell, k, kc, comp, t, E.2 _ _ h1, r⟩
theorem Tak.wr (F : Tak Z h a C) (W : Wr h h' b sl v) : Tak Z h' a C := by
  obtain ⟨cell, k, kc, comp, t, h1, h2, r⟩ := F
  obtain ⟨c', e1, e2, -⟩ := wr_at W h1
  exact ⟨c', k, kc, comp, t, e1, by rw [e2]; exact h2, r⟩
theorem Tak.keep (F : Tak Z h a C) (K : Keep h h' ws) : Tak Z h' a C := by
  obtain ⟨cell, k, kc, comp, t, h1, h2, r⟩ := F
  obtain ⟨c', e1, e2, -⟩ := K.2.2 _ _ h1
  exact ⟨c', k, kc, comp, t, e1, by rw [e2]; exact h2, r⟩
theorem Tak.sto (F : Tak Z h a C) {y : Addr} (I : Ins Z h y C true) : Sto Z h a (.ref y) := by
  obtain ⟨cell, k, kc, comp, t, h1, h2, h3, h4, h5⟩ := F
  obtain ⟨cv, cT, g1, g2, g3⟩ := I
  cases h5.symm.trans g2
  simp only [Bool.and_eq_true, Bool.not_eq_true'] at g3
  have hv : ∃ kv, Z.vm.classes[cv.cls]? = some kv := by
    cases q : Z.vm.classes[cv.cls]? with
    | some kv => exact ⟨kv, rfl⟩
    | none =>
      by_cases e : cv.cls = comp
      · rw [e, h4] at q; cases q
      · have := g3.2
        simp [Vm.assignable, Vm.assignableAux, e, q] at this
  obtain ⟨kv, hkv⟩ := hv
  exact Or.inr ⟨cell, cv, k, kv, kc, comp, t, y, h1, h2, h3, h4, rfl, g1, g3.1, hkv, g3.2⟩
theorem Tak.of {cA : ClassId} {n : Int32} (A : Arr Z h a (newA cA ty n) ty) (O : Ovr Z cA C) : Tak Z h a C := by
  obtain ⟨k, comp, o1, o2, o3⟩ := O
  obtain ⟨kc, q, -⟩ := Vm.findClass_spec o3
  exact ⟨_, k, kc, comp, _, A.1, o1, o2, q, o3⟩
theorem Tak.ofA {cA : ClassId} {n : Int32} {ty' : FieldType} (A : Arr Z h a (newA cA ty n) ty) (O : OvrA Z cA ty' C) : Tak Z h a C := by
  obtain ⟨k, comp, o1, o2, o3⟩ := O
  obtain ⟨kc, q, -⟩ := Vm.findClass_spec o3
  exact ⟨_, k, kc, comp, _, A.1, o1, o2, q, o3⟩
theorem own_eqI {t : Term} {k : Int32} {args : Array Value} {first s : State} {o : Option Outcome} {idx : List Nat} (h : (Cond.eq t (.int k)).value args first o s idx = some true) : t.eval args first o idx s = some (.int k) := by
  simp only [Cond.value, Term.eval] at h
  cases ht : t.eval args first o idx s with
  | none => simp [ht] at h
  | some x => cases x <;> simp [ht] at h ⊢ <;> exact h
end Own
end Jvm.RoadKit
namespace Jvm.Pilot.@@N@@
open Jvm Jvm.ClassFile Sem Op Lib Jvm.Free Jvm.Stand Jvm.LawKit Jvm.RoadKit Bundle Jvm.Pilot.@@N@@.Jvm.D
theorem pd_0 : parseMethodDescriptor "(Z)D" = some ⟨[.boolean], some .double⟩ := by decide +kernel
theorem d1_0 : decode prog_1_method_2_code 0 = .ok (.iload_n 0, 1) := by decide +kernel
theorem d1_1 : decode prog_1_method_2_code 1 = .ok (.ifCond .eq 9, 3) := by decide +kernel
theorem d1_4 : decode prog_1_method_2_code 4 = .ok (.ldc2_w 26, 3) := by decide +kernel
theorem d1_7 : decode prog_1_method_2_code 7 = .ok (.goto 6, 3) := by decide +kernel
theorem d1_10 : decode prog_1_method_2_code 10 = .ok (.ldc2_w 28, 3) := by decide +kernel
theorem d1_13 : decode prog_1_method_2_code 13 = .ok (.dreturn, 1) := by decide +kernel
theorem pn_1 : plainName "com/example/seshat/seshat/ActivationConstraint" = true := by first | (simp [plainName, overriddenIn]; done) | decide +kernel
def Qrm1 (Z : State) (p0 : Int32) (h0 : Heap) (n0 : Nat) (v : Option Value) (h : Heap) (L : List Loc) : Prop := v = some (.double (if p0 = 0 then (4591870180066957722 : UInt64) else (4576918229304087675 : UInt64))) ∧ Fr n0 L ∧ h = h0
set_option maxRecDepth 65536 in
set_option maxHeartbeats 40000000 in
theorem rm1 (l : Launch) (Z : State) (a0 : Array Value) (hw : ∀ d ∈ tables_1, d.before a0 Z = true) (ws : List Jvm.Cond) (p0 : Int32) (h0 : Heap) (n0 : Nat) (Z0 : n0 ≤ h0.size) :
    MetFree l (⟨"com/example/seshat/seshat/ActivationConstraint", "defaultThreshold", "(Z)D"⟩ : MethodName) (head1 (Jvm.Cond.code (⟨"com/example/seshat/seshat/ActivationConstraint", "defaultThreshold", "(Z)D"⟩ : MethodName) prog_1_method_2_code 1 (some .double) :: ws) ({ frames := 0, cells := 0, slots := 0, locals := 0 } : Room)) (fun a U => a = #[(.int p0)] ∧ Z.Warmed39 U.vm ∧ U.heap = h0) (fun _ _ _ _ _ => True) (fun _ U o U' => ∃ v L, o = .returned v ∧ Qrm1 Z p0 h0 n0 v U'.heap L ∧ FrameEnd U o U' L ({ frames := 0, cells := 0, slots := 0, locals := 0 } : Room).cells ({ frames := 0, cells := 0, slots := 0, locals := 0 } : Room).slots) := by
  refine MetFree.of_bodySF (plainFor_of_name pn_1) hisR ?_
  intro p e s m args below meth c s₁ Bd hml0 hP hK
  obtain ⟨rfl, hZ, hh⟩ := hP
  have hx := Bd.exec
  have hby := Bd.bytes
  have hml : c.maxLocals = 1 := hml0
  have hown : s.vm.findClass "com/example/seshat/seshat/ActivationConstraint" = some m.cls := findClass_of_methodNamed Bd.named
  have hnm := (name_of_methodNamed Bd.named Bd.method).1
  have X0 : Stand p l e ({ frames := 0, cells := 0, slots := 0, locals := 0 } : Room) s m #[(.int p0)] below meth c s₁ [] 0 0 := Stand.of_body Bd
  have e0 : s₁.heap = h0 := by rw [← hh, Bd.state]; rfl
  have N0 := Fr.nil n0
  have ZZ := Z0
  show Go p e below s (Qrm1 Z p0 h0 n0) 0 0 (s₁.setTop (entryFrame m #[(.int p0)] 1))
  generalize hQQ : (Qrm1 Z p0 h0 n0) = QQ
  refine gs (fun t k => castTop (g' := (mkF m 0 #[.val (.int p0)] [])) (by first | (simp [entryFrame, mkF, argsToLocals, Value.category, maxLocals]; done) | rfl) k) ?_
  show Go p e below s QQ 0 0 (s₁.setTop (mkF m 0 #[.val (.int p0)] []))
  refine gs (fun t => XS.iloadN X0.here hx rfl (hb hby d1_0) rfl) ?_
  show Go p e below s QQ 0 0 (s₁.setTop (mkF m 1 #[.val (.int p0)] [(.int p0)]))
  by_cases hc : p0 = (0 : Int32)
  · skip
    refine gs (fun t => XS.ifYes X0.here hx rfl (pc0 := 1) (pc' := 10) rfl (hb hby d1_1) rfl ((if0 _ _).trans (teq hc).1) (by decide) (by decide)) ?_
    show Go p e below s QQ 0 0 (s₁.setTop (mkF m 10 #[.val (.int p0)] []))
    refine gs (fun t => X0.ldc2DoubleC hx hown (mvT hZ (hw _ (List.mem_of_getElem? (i := 4) rfl))) (g := (mkF m 10 #[.val (.int p0)] [])) rfl (hb hby d1_10) t) ?_
    show Go p e below s QQ 0 0 (s₁.setTop (mkF m 13 #[.val (.int p0)] [(.double (4591870180066957722 : UInt64))]))
    exact goW X0 hx Bd.notSynchronized Bd.returns rfl (Or.inr (Or.inr (Or.inl ⟨rfl, rfl, _, rfl⟩))) (hb hby d1_13) (by rw [← hQQ, e0]; exact ⟨by simp [hc], N0, rfl⟩) (by decide) (by decide)
  · skip
    refine gs (fun t => XS.ifNo X0.here hx rfl (hb hby d1_1) rfl ((if0 _ _).trans (feq hc).1)) ?_
    show Go p e below s QQ 0 0 (s₁.setTop (mkF m 4 #[.val (.int p0)] []))
    refine gs (fun t => X0.ldc2DoubleC hx hown (mvT hZ (hw _ (List.mem_of_getElem? (i := 5) rfl))) (g := (mkF m 4 #[.val (.int p0)] [])) rfl (hb hby d1_4) t) ?_
    show Go p e below s QQ 0 0 (s₁.setTop (mkF m 7 #[.val (.int p0)] [(.double (4576918229304087675 : UInt64))]))
    refine gs (fun t => XS.goto X0.here hx rfl (pc0 := 7) (pc' := 13) rfl (hb hby d1_7) (by decide) (by decide)) ?_
    show Go p e below s QQ 0 0 (s₁.setTop (mkF m 13 #[.val (.int p0)] [(.double (4576918229304087675 : UInt64))]))
    exact goW X0 hx Bd.notSynchronized Bd.returns rfl (Or.inr (Or.inr (Or.inl ⟨rfl, rfl, _, rfl⟩))) (hb hby d1_13) (by rw [← hQQ, e0]; exact ⟨by simp [hc], N0, rfl⟩) (by decide) (by decide)
theorem pn_0 : plainName "com/example/seshat/seshat/ActivationConstraintDefaultThresholdPinLaw" = true := by first | (simp [plainName, overriddenIn]; done) | decide +kernel
def Qrm0 (Z : State) (p0 : Int32) (h0 : Heap) (n0 : Nat) (v : Option Value) (h : Heap) (L : List Loc) : Prop := v = some (.int 1) ∧ Fr n0 L
set_option maxRecDepth 65536 in
set_option maxHeartbeats 40000000 in
theorem rm0 (l : Launch) (Z : State) (a0 : Array Value) (hw : ∀ d ∈ tables_1, d.before a0 Z = true) (ws : List Jvm.Cond) (p0 : Int32) (h0 : Heap) (n0 : Nat) (Z0 : n0 ≤ h0.size) :
    MetFree l x (head1 (Jvm.Cond.code x code maxLocals ret :: ws) room_1) (fun a U => a = #[(.int p0)] ∧ Z.Warmed39 U.vm ∧ U.heap = h0) (fun _ _ _ _ _ => True) (fun _ U o U' => ∃ v L, o = .returned v ∧ Qrm0 Z p0 h0 n0 v U'.heap L ∧ FrameEnd U o U' L room_1.cells room_1.slots) := by
  refine MetFree.of_bodySF (plainFor_of_name pn_0) hisR ?_
  intro p e s m args below meth c s₁ Bd hml0 hP hK
  obtain ⟨rfl, hZ, hh⟩ := hP
  have hx := Bd.exec
  have hby := Bd.bytes
  have hml : c.maxLocals = 11 := hml0
  have hown : s.vm.findClass "com/example/seshat/seshat/ActivationConstraintDefaultThresholdPinLaw" = some m.cls := findClass_of_methodNamed Bd.named
  have hnm := (name_of_methodNamed Bd.named Bd.method).1
  have X0 : Stand p l e room_1 s m #[(.int p0)] below meth c s₁ [] 0 0 := Stand.of_body Bd
  have e0 : s₁.heap = h0 := by rw [← hh, Bd.state]; rfl
  have N0 := Fr.nil n0
  have ZZ := Z0
  show Go p e below s (Qrm0 Z p0 h0 n0) room_1.cells room_1.slots (s₁.setTop (entryFrame m #[(.int p0)] maxLocals))
  generalize hQQ : (Qrm0 Z p0 h0 n0) = QQ
  refine gs (fun t k => castTop (g' := (mkF m 0 #[.val (.int p0), .unset, .unset, .unset, .unset, .unset, .unset, .unset, .unset, .unset, .unset] [])) (by first | (simp [entryFrame, mkF, argsToLocals, Value.category, maxLocals]; done) | rfl) k) ?_
  show Go p e below s QQ room_1.cells room_1.slots (s₁.setTop (mkF m 0 #[.val (.int p0), .unset, .unset, .unset, .unset, .unset, .unset, .unset, .unset, .unset, .unset] []))
  refine gs (fun t => XS.iloadN X0.here hx rfl (hb hby at_0) rfl) ?_
  show Go p e below s QQ room_1.cells room_1.slots (s₁.setTop (mkF m 1 #[.val (.int p0), .unset, .unset, .unset, .unset, .unset, .unset, .unset, .unset, .unset, .unset] [(.int p0)]))
  refine gs (fun t => XS.iconst X0.here hx rfl (hb hby at_1)) ?_
  show Go p e below s QQ room_1.cells room_1.slots (s₁.setTop (mkF m 2 #[.val (.int p0), .unset, .unset, .unset, .unset, .unset, .unset, .unset, .unset, .unset, .unset] [(.int (1 : Int32)), (.int p0)]))
  refine gs (fun t => XS.iand X0.here hx rfl (hb hby at_2) rfl) ?_
  show Go p e below s QQ room_1.cells room_1.slots (s₁.setTop (mkF m 3 #[.val (.int p0), .unset, .unset, .unset, .unset, .unset, .unset, .unset, .unset, .unset, .unset] [(.int (p0 &&& (1 : Int32)))]))
  by_cases hf : (p0 &&& (1 : Int32)) = (0 : Int32)
  · skip
    refine gs (fun t => XS.ifYes X0.here hx rfl (pc0 := 3) (pc' := 10) rfl (hb hby at_3) rfl ((if0 _ _).trans (teq hf).1) (by decide) (by decide)) ?_
    show Go p e below s QQ room_1.cells room_1.slots (s₁.setTop (mkF m 10 #[.val (.int p0), .unset, .unset, .unset, .unset, .unset, .unset, .unset, .unset, .unset, .unset] []))
    refine gs (fun t => XS.iconst X0.here hx rfl (hb hby at_10)) ?_
    show Go p e below s QQ room_1.cells room_1.slots (s₁.setTop (mkF m 11 #[.val (.int p0), .unset, .unset, .unset, .unset, .unset, .unset, .unset, .unset, .unset, .unset] [(.int (0 : Int32))]))
    refine gs (fun t => XS.istoreN X0.here hx rfl (hb hby at_11) rfl (l' := #[.val (.int p0), .val (.int (0 : Int32)), .unset, .unset, .unset, .unset, .unset, .unset, .unset, .unset, .unset]) rfl) ?_
    show Go p e below s QQ room_1.cells room_1.slots (s₁.setTop (mkF m 12 #[.val (.int p0), .val (.int (0 : Int32)), .unset, .unset, .unset, .unset, .unset, .unset, .unset, .unset, .unset] []))
    refine gs (fun t => XS.iloadN X0.here hx rfl (hb hby at_12) rfl) ?_
    show Go p e below s QQ room_1.cells room_1.slots (s₁.setTop (mkF m 13 #[.val (.int p0), .val (.int (0 : Int32)), .unset, .unset, .unset, .unset, .unset, .unset, .unset, .unset, .unset] [(.int (0 : Int32))]))
    obtain ⟨_, _, ⟨T1, L1, k1, n1⟩, -, X1, ⟨Lc1, hQ1, l1, y1, z1⟩, st1⟩ := Jvm.LawKit.callS X0 hx (y := (⟨"com/example/seshat/seshat/ActivationConstraint", "defaultThreshold", "(Z)D"⟩ : MethodName)) hown (mvT hZ (hw _ (List.mem_of_getElem? (i := 0) rfl))) (mvT hZ (hw _ (List.mem_of_getElem? (i := 1) rfl))) (mvT hZ (hw _ (List.mem_of_getElem? (i := 2) rfl))) (mvT hZ (hw _ (List.mem_of_getElem? (i := 3) rfl))) (by decide) (backOf (W := 0) (rm1 l Z a0 hw [] (0 : Int32) h0 n0 ZZ ) hZ (hw _ (List.mem_of_getElem? (i := 3) rfl)) (hw _ (List.mem_of_getElem? (i := 2) rfl)) (by decide) (by decide)) (g := (mkF m 13 #[.val (.int p0), .val (.int (0 : Int32)), .unset, .unset, .unset, .unset, .unset, .unset, .unset, .unset, .unset] [(.int (0 : Int32))])) rfl (by rw [hml]; rfl) (argsL := [(.int (0 : Int32))]) (rest := []) (lenOf pd_0 rfl) rfl (by show 2 * 0 + _ ≤ _; exact Nat.le_of_eq rfl) (hb hby at_13) (fun _ _ => ⟨rfl, e0, (by decide : 0 + 0 ≤ _), (by decide : 0 + 0 ≤ _)⟩)
    dsimp only [Pt.U, Pt.locs, Pt.cells, Pt.slots] at X1 l1 y1 z1 st1 hQ1
    subst l1 y1 z1
    obtain ⟨rfl, N1q, e1⟩ := hQ1
    replace N0 := Fr.app N0 N1q
    refine gs st1 ?_
    show Go p e below s QQ room_1.cells room_1.slots (T1.setTop (mkF m 16 #[.val (.int p0), .val (.int (0 : Int32)), .unset, .unset, .unset, .unset, .unset, .unset, .unset, .unset, .unset] [(.double (4591870180066957722 : UInt64))]))
    refine gs (fun t => XS.dstoreN X1.here hx rfl (hb hby at_16) rfl (l' := #[.val (.int p0), .val (.int (0 : Int32)), .val (.double (4591870180066957722 : UInt64)), .second, .unset, .unset, .unset, .unset, .unset, .unset, .unset]) rfl) ?_
    show Go p e below s QQ room_1.cells room_1.slots (T1.setTop (mkF m 17 #[.val (.int p0), .val (.int (0 : Int32)), .val (.double (4591870180066957722 : UInt64)), .second, .unset, .unset, .unset, .unset, .unset, .unset, .unset] []))
    refine gs (fun t => XS.iconst X1.here hx rfl (hb hby at_17)) ?_
    show Go p e below s QQ room_1.cells room_1.slots (T1.setTop (mkF m 18 #[.val (.int p0), .val (.int (0 : Int32)), .val (.double (4591870180066957722 : UInt64)), .second, .unset, .unset, .unset, .unset, .unset, .unset, .unset] [(.int (1 : Int32))]))
    obtain ⟨_, _, ⟨T2, L2, k2, n2⟩, -, X2, ⟨Lc2, hQ2, l2, y2, z2⟩, st2⟩ := Jvm.LawKit.callS X1 hx (y := (⟨"com/example/seshat/seshat/ActivationConstraint", "defaultThreshold", "(Z)D"⟩ : MethodName)) hown (mvT hZ (hw _ (List.mem_of_getElem? (i := 0) rfl))) (mvT hZ (hw _ (List.mem_of_getElem? (i := 1) rfl))) (mvT hZ (hw _ (List.mem_of_getElem? (i := 2) rfl))) (mvT hZ (hw _ (List.mem_of_getElem? (i := 3) rfl))) (by decide) (backOf (W := 0) (rm1 l Z a0 hw [] (1 : Int32) h0 n0 ZZ ) hZ (hw _ (List.mem_of_getElem? (i := 3) rfl)) (hw _ (List.mem_of_getElem? (i := 2) rfl)) (by decide) (by decide)) (g := (mkF m 18 #[.val (.int p0), .val (.int (0 : Int32)), .val (.double (4591870180066957722 : UInt64)), .second, .unset, .unset, .unset, .unset, .unset, .unset, .unset] [(.int (1 : Int32))])) rfl (by rw [hml]; rfl) (argsL := [(.int (1 : Int32))]) (rest := []) (lenOf pd_0 rfl) rfl (by show 2 * 0 + _ ≤ _; exact Nat.le_of_eq rfl) (hb hby at_18) (fun _ _ => ⟨rfl, e1, (by decide : 0 + 0 ≤ _), (by decide : 0 + 0 ≤ _)⟩)
    dsimp only [Pt.U, Pt.locs, Pt.cells, Pt.slots] at X2 l2 y2 z2 st2 hQ2
    subst l2 y2 z2
    obtain ⟨rfl, N2q, e2⟩ := hQ2
    replace N0 := Fr.app N0 N2q
    refine gs st2 ?_
    show Go p e below s QQ room_1.cells room_1.slots (T2.setTop (mkF m 21 #[.val (.int p0), .val (.int (0 : Int32)), .val (.double (4591870180066957722 : UInt64)), .second, .unset, .unset, .unset, .unset, .unset, .unset, .unset] [(.double (4576918229304087675 : UInt64))]))
    refine gs (fun t => XS.dstore X2.here hx rfl (hb hby at_21) rfl (l' := #[.val (.int p0), .val (.int (0 : Int32)), .val (.double (4591870180066957722 : UInt64)), .second, .val (.double (4576918229304087675 : UInt64)), .second, .unset, .unset, .unset, .unset, .unset]) rfl) ?_
    show Go p e below s QQ room_1.cells room_1.slots (T2.setTop (mkF m 23 #[.val (.int p0), .val (.int (0 : Int32)), .val (.double (4591870180066957722 : UInt64)), .second, .val (.double (4576918229304087675 : UInt64)), .second, .unset, .unset, .unset, .unset, .unset] []))
    refine gs (fun t => XS.iconst X2.here hx rfl (hb hby at_23)) ?_
    show Go p e below s QQ room_1.cells room_1.slots (T2.setTop (mkF m 24 #[.val (.int p0), .val (.int (0 : Int32)), .val (.double (4591870180066957722 : UInt64)), .second, .val (.double (4576918229304087675 : UInt64)), .second, .unset, .unset, .unset, .unset, .unset] [(.int (0 : Int32))]))
    obtain ⟨_, _, ⟨T3, L3, k3, n3⟩, -, X3, ⟨Lc3, hQ3, l3, y3, z3⟩, st3⟩ := Jvm.LawKit.callS X2 hx (y := (⟨"com/example/seshat/seshat/ActivationConstraint", "defaultThreshold", "(Z)D"⟩ : MethodName)) hown (mvT hZ (hw _ (List.mem_of_getElem? (i := 0) rfl))) (mvT hZ (hw _ (List.mem_of_getElem? (i := 1) rfl))) (mvT hZ (hw _ (List.mem_of_getElem? (i := 2) rfl))) (mvT hZ (hw _ (List.mem_of_getElem? (i := 3) rfl))) (by decide) (backOf (W := 0) (rm1 l Z a0 hw [] (0 : Int32) h0 n0 ZZ ) hZ (hw _ (List.mem_of_getElem? (i := 3) rfl)) (hw _ (List.mem_of_getElem? (i := 2) rfl)) (by decide) (by decide)) (g := (mkF m 24 #[.val (.int p0), .val (.int (0 : Int32)), .val (.double (4591870180066957722 : UInt64)), .second, .val (.double (4576918229304087675 : UInt64)), .second, .unset, .unset, .unset, .unset, .unset] [(.int (0 : Int32))])) rfl (by rw [hml]; rfl) (argsL := [(.int (0 : Int32))]) (rest := []) (lenOf pd_0 rfl) rfl (by show 2 * 0 + _ ≤ _; exact Nat.le_of_eq rfl) (hb hby at_24) (fun _ _ => ⟨rfl, e2, (by decide : 0 + 0 ≤ _), (by decide : 0 + 0 ≤ _)⟩)
    dsimp only [Pt.U, Pt.locs, Pt.cells, Pt.slots] at X3 l3 y3 z3 st3 hQ3
    subst l3 y3 z3
    obtain ⟨rfl, N3q, e3⟩ := hQ3
    replace N0 := Fr.app N0 N3q
    refine gs st3 ?_
    show Go p e below s QQ room_1.cells room_1.slots (T3.setTop (mkF m 27 #[.val (.int p0), .val (.int (0 : Int32)), .val (.double (4591870180066957722 : UInt64)), .second, .val (.double (4576918229304087675 : UInt64)), .second, .unset, .unset, .unset, .unset, .unset] [(.double (4591870180066957722 : UInt64))]))
    refine gs (fun t => XS.dstore X3.here hx rfl (hb hby at_27) rfl (l' := #[.val (.int p0), .val (.int (0 : Int32)), .val (.double (4591870180066957722 : UInt64)), .second, .val (.double (4576918229304087675 : UInt64)), .second, .val (.double (4591870180066957722 : UInt64)), .second, .unset, .unset, .unset]) rfl) ?_
    show Go p e below s QQ room_1.cells room_1.slots (T3.setTop (mkF m 29 #[.val (.int p0), .val (.int (0 : Int32)), .val (.double (4591870180066957722 : UInt64)), .second, .val (.double (4576918229304087675 : UInt64)), .second, .val (.double (4591870180066957722 : UInt64)), .second, .unset, .unset, .unset] []))
    refine gs (fun t => XS.dloadN X3.here hx rfl (hb hby at_29) rfl) ?_
    show Go p e below s QQ room_1.cells room_1.slots (T3.setTop (mkF m 30 #[.val (.int p0), .val (.int (0 : Int32)), .val (.double (4591870180066957722 : UInt64)), .second, .val (.double (4576918229304087675 : UInt64)), .second, .val (.double (4591870180066957722 : UInt64)), .second, .unset, .unset, .unset] [(.double (4591870180066957722 : UInt64))]))
    refine gs (fun t => XS.dconst0 X3.here hx rfl (v := (0 : UInt64)) (hb hby at_30) (by first | rfl | decide +kernel)) ?_
    show Go p e below s QQ room_1.cells room_1.slots (T3.setTop (mkF m 31 #[.val (.int p0), .val (.int (0 : Int32)), .val (.double (4591870180066957722 : UInt64)), .second, .val (.double (4576918229304087675 : UInt64)), .second, .val (.double (4591870180066957722 : UInt64)), .second, .unset, .unset, .unset] [(.double (0 : UInt64)), (.double (4591870180066957722 : UInt64))]))
    refine gs (fun t => XS.dcmpS X3.here hx rfl (v := (1 : Int32)) (hb hby at_31) rfl (by decide +kernel)) ?_
    show Go p e below s QQ room_1.cells room_1.slots (T3.setTop (mkF m 32 #[.val (.int p0), .val (.int (0 : Int32)), .val (.double (4591870180066957722 : UInt64)), .second, .val (.double (4576918229304087675 : UInt64)), .second, .val (.double (4591870180066957722 : UInt64)), .second, .unset, .unset, .unset] [(.int (1 : Int32))]))
    refine gs (fun t => XS.ifNo X3.here hx rfl (hb hby at_32) rfl ((if0 _ _).trans (flt (by decide : ¬ ((1 : Int32) < (0 : Int32)))).1)) ?_
    show Go p e below s QQ room_1.cells room_1.slots (T3.setTop (mkF m 35 #[.val (.int p0), .val (.int (0 : Int32)), .val (.double (4591870180066957722 : UInt64)), .second, .val (.double (4576918229304087675 : UInt64)), .second, .val (.double (4591870180066957722 : UInt64)), .second, .unset, .unset, .unset] []))
    refine gs (fun t => XS.dloadN X3.here hx rfl (hb hby at_35) rfl) ?_
    show Go p e below s QQ room_1.cells room_1.slots (T3.setTop (mkF m 36 #[.val (.int p0), .val (.int (0 : Int32)), .val (.double (4591870180066957722 : UInt64)), .second, .val (.double (4576918229304087675 : UInt64)), .second, .val (.double (4591870180066957722 : UInt64)), .second, .unset, .unset, .unset] [(.double (4591870180066957722 : UInt64))]))
    refine gs (fun t => X3.ldc2DoubleC hx hown (mvT hZ (hw _ (List.mem_of_getElem? (i := 6) rfl))) (g := (mkF m 36 #[.val (.int p0), .val (.int (0 : Int32)), .val (.double (4591870180066957722 : UInt64)), .second, .val (.double (4576918229304087675 : UInt64)), .second, .val (.double (4591870180066957722 : UInt64)), .second, .unset, .unset, .unset] [(.double (4591870180066957722 : UInt64))])) rfl (hb hby at_36) t) ?_
    show Go p e below s QQ room_1.cells room_1.slots (T3.setTop (mkF m 39 #[.val (.int p0), .val (.int (0 : Int32)), .val (.double (4591870180066957722 : UInt64)), .second, .val (.double (4576918229304087675 : UInt64)), .second, .val (.double (4591870180066957722 : UInt64)), .second, .unset, .unset, .unset] [(.double (9218868437227405312 : UInt64)), (.double (4591870180066957722 : UInt64))]))
    refine gs (fun t => XS.dcmpS X3.here hx rfl (v := (-1 : Int32)) (hb hby at_39) rfl (by decide +kernel)) ?_
    show Go p e below s QQ room_1.cells room_1.slots (T3.setTop (mkF m 40 #[.val (.int p0), .val (.int (0 : Int32)), .val (.double (4591870180066957722 : UInt64)), .second, .val (.double (4576918229304087675 : UInt64)), .second, .val (.double (4591870180066957722 : UInt64)), .second, .unset, .unset, .unset] [(.int (-1 : Int32))]))
    refine gs (fun t => XS.ifNo X3.here hx rfl (hb hby at_40) rfl ((if0 _ _).trans (tlt (by decide : (-1 : Int32) < (0 : Int32))).2.1)) ?_
    show Go p e below s QQ room_1.cells room_1.slots (T3.setTop (mkF m 43 #[.val (.int p0), .val (.int (0 : Int32)), .val (.double (4591870180066957722 : UInt64)), .second, .val (.double (4576918229304087675 : UInt64)), .second, .val (.double (4591870180066957722 : UInt64)), .second, .unset, .unset, .unset] []))
    refine gs (fun t => XS.iconst X3.here hx rfl (hb hby at_43)) ?_
    show Go p e below s QQ room_1.cells room_1.slots (T3.setTop (mkF m 44 #[.val (.int p0), .val (.int (0 : Int32)), .val (.double (4591870180066957722 : UInt64)), .second, .val (.double (4576918229304087675 : UInt64)), .second, .val (.double (4591870180066957722 : UInt64)), .second, .unset, .unset, .unset] [(.int (1 : Int32))]))
    refine gs (fun t => XS.goto X3.here hx rfl (pc0 := 44) (pc' := 48) rfl (hb hby at_44) (by decide) (by decide)) ?_
    show Go p e below s QQ room_1.cells room_1.slots (T3.setTop (mkF m 48 #[.val (.int p0), .val (.int (0 : Int32)), .val (.double (4591870180066957722 : UInt64)), .second, .val (.double (4576918229304087675 : UInt64)), .second, .val (.double (4591870180066957722 : UInt64)), .second, .unset, .unset, .unset] [(.int (1 : Int32))]))
    refine gs (fun t => XS.istore X3.here hx rfl (hb hby at_48) rfl (l' := #[.val (.int p0), .val (.int (0 : Int32)), .val (.double (4591870180066957722 : UInt64)), .second, .val (.double (4576918229304087675 : UInt64)), .second, .val (.double (4591870180066957722 : UInt64)), .second, .val (.int (1 : Int32)), .unset, .unset]) rfl) ?_
    show Go p e below s QQ room_1.cells room_1.slots (T3.setTop (mkF m 50 #[.val (.int p0), .val (.int (0 : Int32)), .val (.double (4591870180066957722 : UInt64)), .second, .val (.double (4576918229304087675 : UInt64)), .second, .val (.double (4591870180066957722 : UInt64)), .second, .val (.int (1 : Int32)), .unset, .unset] []))
    refine gs (fun t => XS.dload X3.here hx rfl (hb hby at_50) rfl) ?_
    show Go p e below s QQ room_1.cells room_1.slots (T3.setTop (mkF m 52 #[.val (.int p0), .val (.int (0 : Int32)), .val (.double (4591870180066957722 : UInt64)), .second, .val (.double (4576918229304087675 : UInt64)), .second, .val (.double (4591870180066957722 : UInt64)), .second, .val (.int (1 : Int32)), .unset, .unset] [(.double (4576918229304087675 : UInt64))]))
    refine gs (fun t => XS.dload X3.here hx rfl (hb hby at_52) rfl) ?_
    show Go p e below s QQ room_1.cells room_1.slots (T3.setTop (mkF m 54 #[.val (.int p0), .val (.int (0 : Int32)), .val (.double (4591870180066957722 : UInt64)), .second, .val (.double (4576918229304087675 : UInt64)), .second, .val (.double (4591870180066957722 : UInt64)), .second, .val (.int (1 : Int32)), .unset, .unset] [(.double (4591870180066957722 : UInt64)), (.double (4576918229304087675 : UInt64))]))
    refine gs (fun t => XS.dcmpS X3.here hx rfl (v := (-1 : Int32)) (hb hby at_54) rfl (by decide +kernel)) ?_
    show Go p e below s QQ room_1.cells room_1.slots (T3.setTop (mkF m 55 #[.val (.int p0), .val (.int (0 : Int32)), .val (.double (4591870180066957722 : UInt64)), .second, .val (.double (4576918229304087675 : UInt64)), .second, .val (.double (4591870180066957722 : UInt64)), .second, .val (.int (1 : Int32)), .unset, .unset] [(.int (-1 : Int32))]))
    refine gs (fun t => XS.ifNo X3.here hx rfl (hb hby at_55) rfl ((if0 _ _).trans (tlt (by decide : (-1 : Int32) < (0 : Int32))).2.1)) ?_
    show Go p e below s QQ room_1.cells room_1.slots (T3.setTop (mkF m 58 #[.val (.int p0), .val (.int (0 : Int32)), .val (.double (4591870180066957722 : UInt64)), .second, .val (.double (4576918229304087675 : UInt64)), .second, .val (.double (4591870180066957722 : UInt64)), .second, .val (.int (1 : Int32)), .unset, .unset] []))
    refine gs (fun t => XS.iconst X3.here hx rfl (hb hby at_58)) ?_
    show Go p e below s QQ room_1.cells room_1.slots (T3.setTop (mkF m 59 #[.val (.int p0), .val (.int (0 : Int32)), .val (.double (4591870180066957722 : UInt64)), .second, .val (.double (4576918229304087675 : UInt64)), .second, .val (.double (4591870180066957722 : UInt64)), .second, .val (.int (1 : Int32)), .unset, .unset] [(.int (1 : Int32))]))
    refine gs (fun t => XS.goto X3.here hx rfl (pc0 := 59) (pc' := 63) rfl (hb hby at_59) (by decide) (by decide)) ?_
    show Go p e below s QQ room_1.cells room_1.slots (T3.setTop (mkF m 63 #[.val (.int p0), .val (.int (0 : Int32)), .val (.double (4591870180066957722 : UInt64)), .second, .val (.double (4576918229304087675 : UInt64)), .second, .val (.double (4591870180066957722 : UInt64)), .second, .val (.int (1 : Int32)), .unset, .unset] [(.int (1 : Int32))]))
    refine gs (fun t => XS.istore X3.here hx rfl (hb hby at_63) rfl (l' := #[.val (.int p0), .val (.int (0 : Int32)), .val (.double (4591870180066957722 : UInt64)), .second, .val (.double (4576918229304087675 : UInt64)), .second, .val (.double (4591870180066957722 : UInt64)), .second, .val (.int (1 : Int32)), .val (.int (1 : Int32)), .unset]) rfl) ?_
    show Go p e below s QQ room_1.cells room_1.slots (T3.setTop (mkF m 65 #[.val (.int p0), .val (.int (0 : Int32)), .val (.double (4591870180066957722 : UInt64)), .second, .val (.double (4576918229304087675 : UInt64)), .second, .val (.double (4591870180066957722 : UInt64)), .second, .val (.int (1 : Int32)), .val (.int (1 : Int32)), .unset] []))
    refine gs (fun t => XS.iloadN X3.here hx rfl (hb hby at_65) rfl) ?_
    show Go p e below s QQ room_1.cells room_1.slots (T3.setTop (mkF m 66 #[.val (.int p0), .val (.int (0 : Int32)), .val (.double (4591870180066957722 : UInt64)), .second, .val (.double (4576918229304087675 : UInt64)), .second, .val (.double (4591870180066957722 : UInt64)), .second, .val (.int (1 : Int32)), .val (.int (1 : Int32)), .unset] [(.int (0 : Int32))]))
    refine gs (fun t => XS.ifYes X3.here hx rfl (pc0 := 66) (pc' := 85) rfl (hb hby at_66) rfl ((if0 _ _).trans (teq (by decide : (0 : Int32) = (0 : Int32))).1) (by decide) (by decide)) ?_
    show Go p e below s QQ room_1.cells room_1.slots (T3.setTop (mkF m 85 #[.val (.int p0), .val (.int (0 : Int32)), .val (.double (4591870180066957722 : UInt64)), .second, .val (.double (4576918229304087675 : UInt64)), .second, .val (.double (4591870180066957722 : UInt64)), .second, .val (.int (1 : Int32)), .val (.int (1 : Int32)), .unset] []))
    refine gs (fun t => XS.dloadN X3.here hx rfl (hb hby at_85) rfl) ?_
    show Go p e below s QQ room_1.cells room_1.slots (T3.setTop (mkF m 86 #[.val (.int p0), .val (.int (0 : Int32)), .val (.double (4591870180066957722 : UInt64)), .second, .val (.double (4576918229304087675 : UInt64)), .second, .val (.double (4591870180066957722 : UInt64)), .second, .val (.int (1 : Int32)), .val (.int (1 : Int32)), .unset] [(.double (4591870180066957722 : UInt64))]))
    refine gs (fun t => X3.ldc2DoubleC hx hown (mvT hZ (hw _ (List.mem_of_getElem? (i := 7) rfl))) (g := (mkF m 86 #[.val (.int p0), .val (.int (0 : Int32)), .val (.double (4591870180066957722 : UInt64)), .second, .val (.double (4576918229304087675 : UInt64)), .second, .val (.double (4591870180066957722 : UInt64)), .second, .val (.int (1 : Int32)), .val (.int (1 : Int32)), .unset] [(.double (4591870180066957722 : UInt64))])) rfl (hb hby at_86) t) ?_
    show Go p e below s QQ room_1.cells room_1.slots (T3.setTop (mkF m 89 #[.val (.int p0), .val (.int (0 : Int32)), .val (.double (4591870180066957722 : UInt64)), .second, .val (.double (4576918229304087675 : UInt64)), .second, .val (.double (4591870180066957722 : UInt64)), .second, .val (.int (1 : Int32)), .val (.int (1 : Int32)), .unset] [(.double (4591870180066957722 : UInt64)), (.double (4591870180066957722 : UInt64))]))
    refine gs (fun t => XS.dcmpS X3.here hx rfl (v := (0 : Int32)) (hb hby at_89) rfl (by decide +kernel)) ?_
    show Go p e below s QQ room_1.cells room_1.slots (T3.setTop (mkF m 90 #[.val (.int p0), .val (.int (0 : Int32)), .val (.double (4591870180066957722 : UInt64)), .second, .val (.double (4576918229304087675 : UInt64)), .second, .val (.double (4591870180066957722 : UInt64)), .second, .val (.int (1 : Int32)), .val (.int (1 : Int32)), .unset] [(.int (0 : Int32))]))
    refine gs (fun t => XS.ifNo X3.here hx rfl (hb hby at_90) rfl ((if0 _ _).trans (teq (by decide : (0 : Int32) = (0 : Int32))).2)) ?_
    show Go p e below s QQ room_1.cells room_1.slots (T3.setTop (mkF m 93 #[.val (.int p0), .val (.int (0 : Int32)), .val (.double (4591870180066957722 : UInt64)), .second, .val (.double (4576918229304087675 : UInt64)), .second, .val (.double (4591870180066957722 : UInt64)), .second, .val (.int (1 : Int32)), .val (.int (1 : Int32)), .unset] []))
    refine gs (fun t => XS.iconst X3.here hx rfl (hb hby at_93)) ?_
    show Go p e below s QQ room_1.cells room_1.slots (T3.setTop (mkF m 94 #[.val (.int p0), .val (.int (0 : Int32)), .val (.double (4591870180066957722 : UInt64)), .second, .val (.double (4576918229304087675 : UInt64)), .second, .val (.double (4591870180066957722 : UInt64)), .second, .val (.int (1 : Int32)), .val (.int (1 : Int32)), .unset] [(.int (1 : Int32))]))
    refine gs (fun t => XS.goto X3.here hx rfl (pc0 := 94) (pc' := 98) rfl (hb hby at_94) (by decide) (by decide)) ?_
    show Go p e below s QQ room_1.cells room_1.slots (T3.setTop (mkF m 98 #[.val (.int p0), .val (.int (0 : Int32)), .val (.double (4591870180066957722 : UInt64)), .second, .val (.double (4576918229304087675 : UInt64)), .second, .val (.double (4591870180066957722 : UInt64)), .second, .val (.int (1 : Int32)), .val (.int (1 : Int32)), .unset] [(.int (1 : Int32))]))
    refine gs (fun t => XS.istore X3.here hx rfl (hb hby at_98) rfl (l' := #[.val (.int p0), .val (.int (0 : Int32)), .val (.double (4591870180066957722 : UInt64)), .second, .val (.double (4576918229304087675 : UInt64)), .second, .val (.double (4591870180066957722 : UInt64)), .second, .val (.int (1 : Int32)), .val (.int (1 : Int32)), .val (.int (1 : Int32))]) rfl) ?_
    show Go p e below s QQ room_1.cells room_1.slots (T3.setTop (mkF m 100 #[.val (.int p0), .val (.int (0 : Int32)), .val (.double (4591870180066957722 : UInt64)), .second, .val (.double (4576918229304087675 : UInt64)), .second, .val (.double (4591870180066957722 : UInt64)), .second, .val (.int (1 : Int32)), .val (.int (1 : Int32)), .val (.int (1 : Int32))] []))
    refine gs (fun t => XS.iload X3.here hx rfl (hb hby at_100) rfl) ?_
    show Go p e below s QQ room_1.cells room_1.slots (T3.setTop (mkF m 102 #[.val (.int p0), .val (.int (0 : Int32)), .val (.double (4591870180066957722 : UInt64)), .second, .val (.double (4576918229304087675 : UInt64)), .second, .val (.double (4591870180066957722 : UInt64)), .second, .val (.int (1 : Int32)), .val (.int (1 : Int32)), .val (.int (1 : Int32))] [(.int (1 : Int32))]))
    refine gs (fun t => XS.ifNo X3.here hx rfl (hb hby at_102) rfl ((if0 _ _).trans (feq (by decide : ¬ ((1 : Int32) = (0 : Int32)))).1)) ?_
    show Go p e below s QQ room_1.cells room_1.slots (T3.setTop (mkF m 105 #[.val (.int p0), .val (.int (0 : Int32)), .val (.double (4591870180066957722 : UInt64)), .second, .val (.double (4576918229304087675 : UInt64)), .second, .val (.double (4591870180066957722 : UInt64)), .second, .val (.int (1 : Int32)), .val (.int (1 : Int32)), .val (.int (1 : Int32))] []))
    refine gs (fun t => XS.iload X3.here hx rfl (hb hby at_105) rfl) ?_
    show Go p e below s QQ room_1.cells room_1.slots (T3.setTop (mkF m 107 #[.val (.int p0), .val (.int (0 : Int32)), .val (.double (4591870180066957722 : UInt64)), .second, .val (.double (4576918229304087675 : UInt64)), .second, .val (.double (4591870180066957722 : UInt64)), .second, .val (.int (1 : Int32)), .val (.int (1 : Int32)), .val (.int (1 : Int32))] [(.int (1 : Int32))]))
    refine gs (fun t => XS.ifNo X3.here hx rfl (hb hby at_107) rfl ((if0 _ _).trans (feq (by decide : ¬ ((1 : Int32) = (0 : Int32)))).1)) ?_
    show Go p e below s QQ room_1.cells room_1.slots (T3.setTop (mkF m 110 #[.val (.int p0), .val (.int (0 : Int32)), .val (.double (4591870180066957722 : UInt64)), .second, .val (.double (4576918229304087675 : UInt64)), .second, .val (.double (4591870180066957722 : UInt64)), .second, .val (.int (1 : Int32)), .val (.int (1 : Int32)), .val (.int (1 : Int32))] []))
    refine gs (fun t => XS.iload X3.here hx rfl (hb hby at_110) rfl) ?_
    show Go p e below s QQ room_1.cells room_1.slots (T3.setTop (mkF m 112 #[.val (.int p0), .val (.int (0 : Int32)), .val (.double (4591870180066957722 : UInt64)), .second, .val (.double (4576918229304087675 : UInt64)), .second, .val (.double (4591870180066957722 : UInt64)), .second, .val (.int (1 : Int32)), .val (.int (1 : Int32)), .val (.int (1 : Int32))] [(.int (1 : Int32))]))
    refine gs (fun t => XS.ifNo X3.here hx rfl (hb hby at_112) rfl ((if0 _ _).trans (feq (by decide : ¬ ((1 : Int32) = (0 : Int32)))).1)) ?_
    show Go p e below s QQ room_1.cells room_1.slots (T3.setTop (mkF m 115 #[.val (.int p0), .val (.int (0 : Int32)), .val (.double (4591870180066957722 : UInt64)), .second, .val (.double (4576918229304087675 : UInt64)), .second, .val (.double (4591870180066957722 : UInt64)), .second, .val (.int (1 : Int32)), .val (.int (1 : Int32)), .val (.int (1 : Int32))] []))
    refine gs (fun t => XS.iconst X3.here hx rfl (hb hby at_115)) ?_
    show Go p e below s QQ room_1.cells room_1.slots (T3.setTop (mkF m 116 #[.val (.int p0), .val (.int (0 : Int32)), .val (.double (4591870180066957722 : UInt64)), .second, .val (.double (4576918229304087675 : UInt64)), .second, .val (.double (4591870180066957722 : UInt64)), .second, .val (.int (1 : Int32)), .val (.int (1 : Int32)), .val (.int (1 : Int32))] [(.int (1 : Int32))]))
    refine gs (fun t => XS.goto X3.here hx rfl (pc0 := 116) (pc' := 120) rfl (hb hby at_116) (by decide) (by decide)) ?_
    show Go p e below s QQ room_1.cells room_1.slots (T3.setTop (mkF m 120 #[.val (.int p0), .val (.int (0 : Int32)), .val (.double (4591870180066957722 : UInt64)), .second, .val (.double (4576918229304087675 : UInt64)), .second, .val (.double (4591870180066957722 : UInt64)), .second, .val (.int (1 : Int32)), .val (.int (1 : Int32)), .val (.int (1 : Int32))] [(.int (1 : Int32))]))
    exact goB X3 hx Bd.notSynchronized Bd.returns (by simp) (w := (1 : Int32)) (by first | rfl | decide) (hb hby at_120) (by rw [← hQQ, e3]; exact ⟨rfl, N0⟩) (by decide) (by decide)
  · skip
    refine gs (fun t => XS.ifNo X0.here hx rfl (hb hby at_3) rfl ((if0 _ _).trans (feq hf).1)) ?_
    show Go p e below s QQ room_1.cells room_1.slots (s₁.setTop (mkF m 6 #[.val (.int p0), .unset, .unset, .unset, .unset, .unset, .unset, .unset, .unset, .unset, .unset] []))
    refine gs (fun t => XS.iconst X0.here hx rfl (hb hby at_6)) ?_
    show Go p e below s QQ room_1.cells room_1.slots (s₁.setTop (mkF m 7 #[.val (.int p0), .unset, .unset, .unset, .unset, .unset, .unset, .unset, .unset, .unset, .unset] [(.int (1 : Int32))]))
    refine gs (fun t => XS.goto X0.here hx rfl (pc0 := 7) (pc' := 11) rfl (hb hby at_7) (by decide) (by decide)) ?_
    show Go p e below s QQ room_1.cells room_1.slots (s₁.setTop (mkF m 11 #[.val (.int p0), .unset, .unset, .unset, .unset, .unset, .unset, .unset, .unset, .unset, .unset] [(.int (1 : Int32))]))
    refine gs (fun t => XS.istoreN X0.here hx rfl (hb hby at_11) rfl (l' := #[.val (.int p0), .val (.int (1 : Int32)), .unset, .unset, .unset, .unset, .unset, .unset, .unset, .unset, .unset]) rfl) ?_
    show Go p e below s QQ room_1.cells room_1.slots (s₁.setTop (mkF m 12 #[.val (.int p0), .val (.int (1 : Int32)), .unset, .unset, .unset, .unset, .unset, .unset, .unset, .unset, .unset] []))
    refine gs (fun t => XS.iloadN X0.here hx rfl (hb hby at_12) rfl) ?_
    show Go p e below s QQ room_1.cells room_1.slots (s₁.setTop (mkF m 13 #[.val (.int p0), .val (.int (1 : Int32)), .unset, .unset, .unset, .unset, .unset, .unset, .unset, .unset, .unset] [(.int (1 : Int32))]))
    obtain ⟨_, _, ⟨T4, L4, k4, n4⟩, -, X4, ⟨Lc4, hQ4, l4, y4, z4⟩, st4⟩ := Jvm.LawKit.callS X0 hx (y := (⟨"com/example/seshat/seshat/ActivationConstraint", "defaultThreshold", "(Z)D"⟩ : MethodName)) hown (mvT hZ (hw _ (List.mem_of_getElem? (i := 0) rfl))) (mvT hZ (hw _ (List.mem_of_getElem? (i := 1) rfl))) (mvT hZ (hw _ (List.mem_of_getElem? (i := 2) rfl))) (mvT hZ (hw _ (List.mem_of_getElem? (i := 3) rfl))) (by decide) (backOf (W := 0) (rm1 l Z a0 hw [] (1 : Int32) h0 n0 ZZ ) hZ (hw _ (List.mem_of_getElem? (i := 3) rfl)) (hw _ (List.mem_of_getElem? (i := 2) rfl)) (by decide) (by decide)) (g := (mkF m 13 #[.val (.int p0), .val (.int (1 : Int32)), .unset, .unset, .unset, .unset, .unset, .unset, .unset, .unset, .unset] [(.int (1 : Int32))])) rfl (by rw [hml]; rfl) (argsL := [(.int (1 : Int32))]) (rest := []) (lenOf pd_0 rfl) rfl (by show 2 * 0 + _ ≤ _; exact Nat.le_of_eq rfl) (hb hby at_13) (fun _ _ => ⟨rfl, e0, (by decide : 0 + 0 ≤ _), (by decide : 0 + 0 ≤ _)⟩)
    dsimp only [Pt.U, Pt.locs, Pt.cells, Pt.slots] at X4 l4 y4 z4 st4 hQ4
    subst l4 y4 z4
    obtain ⟨rfl, N4q, e4⟩ := hQ4
    replace N0 := Fr.app N0 N4q
    refine gs st4 ?_
    show Go p e below s QQ room_1.cells room_1.slots (T4.setTop (mkF m 16 #[.val (.int p0), .val (.int (1 : Int32)), .unset, .unset, .unset, .unset, .unset, .unset, .unset, .unset, .unset] [(.double (4576918229304087675 : UInt64))]))
    refine gs (fun t => XS.dstoreN X4.here hx rfl (hb hby at_16) rfl (l' := #[.val (.int p0), .val (.int (1 : Int32)), .val (.double (4576918229304087675 : UInt64)), .second, .unset, .unset, .unset, .unset, .unset, .unset, .unset]) rfl) ?_
    show Go p e below s QQ room_1.cells room_1.slots (T4.setTop (mkF m 17 #[.val (.int p0), .val (.int (1 : Int32)), .val (.double (4576918229304087675 : UInt64)), .second, .unset, .unset, .unset, .unset, .unset, .unset, .unset] []))
    refine gs (fun t => XS.iconst X4.here hx rfl (hb hby at_17)) ?_
    show Go p e below s QQ room_1.cells room_1.slots (T4.setTop (mkF m 18 #[.val (.int p0), .val (.int (1 : Int32)), .val (.double (4576918229304087675 : UInt64)), .second, .unset, .unset, .unset, .unset, .unset, .unset, .unset] [(.int (1 : Int32))]))
    obtain ⟨_, _, ⟨T5, L5, k5, n5⟩, -, X5, ⟨Lc5, hQ5, l5, y5, z5⟩, st5⟩ := Jvm.LawKit.callS X4 hx (y := (⟨"com/example/seshat/seshat/ActivationConstraint", "defaultThreshold", "(Z)D"⟩ : MethodName)) hown (mvT hZ (hw _ (List.mem_of_getElem? (i := 0) rfl))) (mvT hZ (hw _ (List.mem_of_getElem? (i := 1) rfl))) (mvT hZ (hw _ (List.mem_of_getElem? (i := 2) rfl))) (mvT hZ (hw _ (List.mem_of_getElem? (i := 3) rfl))) (by decide) (backOf (W := 0) (rm1 l Z a0 hw [] (1 : Int32) h0 n0 ZZ ) hZ (hw _ (List.mem_of_getElem? (i := 3) rfl)) (hw _ (List.mem_of_getElem? (i := 2) rfl)) (by decide) (by decide)) (g := (mkF m 18 #[.val (.int p0), .val (.int (1 : Int32)), .val (.double (4576918229304087675 : UInt64)), .second, .unset, .unset, .unset, .unset, .unset, .unset, .unset] [(.int (1 : Int32))])) rfl (by rw [hml]; rfl) (argsL := [(.int (1 : Int32))]) (rest := []) (lenOf pd_0 rfl) rfl (by show 2 * 0 + _ ≤ _; exact Nat.le_of_eq rfl) (hb hby at_18) (fun _ _ => ⟨rfl, e4, (by decide : 0 + 0 ≤ _), (by decide : 0 + 0 ≤ _)⟩)
    dsimp only [Pt.U, Pt.locs, Pt.cells, Pt.slots] at X5 l5 y5 z5 st5 hQ5
    subst l5 y5 z5
    obtain ⟨rfl, N5q, e5⟩ := hQ5
    replace N0 := Fr.app N0 N5q
    refine gs st5 ?_
    show Go p e below s QQ room_1.cells room_1.slots (T5.setTop (mkF m 21 #[.val (.int p0), .val (.int (1 : Int32)), .val (.double (4576918229304087675 : UInt64)), .second, .unset, .unset, .unset, .unset, .unset, .unset, .unset] [(.double (4576918229304087675 : UInt64))]))
    refine gs (fun t => XS.dstore X5.here hx rfl (hb hby at_21) rfl (l' := #[.val (.int p0), .val (.int (1 : Int32)), .val (.double (4576918229304087675 : UInt64)), .second, .val (.double (4576918229304087675 : UInt64)), .second, .unset, .unset, .unset, .unset, .unset]) rfl) ?_
    show Go p e below s QQ room_1.cells room_1.slots (T5.setTop (mkF m 23 #[.val (.int p0), .val (.int (1 : Int32)), .val (.double (4576918229304087675 : UInt64)), .second, .val (.double (4576918229304087675 : UInt64)), .second, .unset, .unset, .unset, .unset, .unset] []))
    refine gs (fun t => XS.iconst X5.here hx rfl (hb hby at_23)) ?_
    show Go p e below s QQ room_1.cells room_1.slots (T5.setTop (mkF m 24 #[.val (.int p0), .val (.int (1 : Int32)), .val (.double (4576918229304087675 : UInt64)), .second, .val (.double (4576918229304087675 : UInt64)), .second, .unset, .unset, .unset, .unset, .unset] [(.int (0 : Int32))]))
    obtain ⟨_, _, ⟨T6, L6, k6, n6⟩, -, X6, ⟨Lc6, hQ6, l6, y6, z6⟩, st6⟩ := Jvm.LawKit.callS X5 hx (y := (⟨"com/example/seshat/seshat/ActivationConstraint", "defaultThreshold", "(Z)D"⟩ : MethodName)) hown (mvT hZ (hw _ (List.mem_of_getElem? (i := 0) rfl))) (mvT hZ (hw _ (List.mem_of_getElem? (i := 1) rfl))) (mvT hZ (hw _ (List.mem_of_getElem? (i := 2) rfl))) (mvT hZ (hw _ (List.mem_of_getElem? (i := 3) rfl))) (by decide) (backOf (W := 0) (rm1 l Z a0 hw [] (0 : Int32) h0 n0 ZZ ) hZ (hw _ (List.mem_of_getElem? (i := 3) rfl)) (hw _ (List.mem_of_getElem? (i := 2) rfl)) (by decide) (by decide)) (g := (mkF m 24 #[.val (.int p0), .val (.int (1 : Int32)), .val (.double (4576918229304087675 : UInt64)), .second, .val (.double (4576918229304087675 : UInt64)), .second, .unset, .unset, .unset, .unset, .unset] [(.int (0 : Int32))])) rfl (by rw [hml]; rfl) (argsL := [(.int (0 : Int32))]) (rest := []) (lenOf pd_0 rfl) rfl (by show 2 * 0 + _ ≤ _; exact Nat.le_of_eq rfl) (hb hby at_24) (fun _ _ => ⟨rfl, e5, (by decide : 0 + 0 ≤ _), (by decide : 0 + 0 ≤ _)⟩)
    dsimp only [Pt.U, Pt.locs, Pt.cells, Pt.slots] at X6 l6 y6 z6 st6 hQ6
    subst l6 y6 z6
    obtain ⟨rfl, N6q, e6⟩ := hQ6
    replace N0 := Fr.app N0 N6q
    refine gs st6 ?_
    show Go p e below s QQ room_1.cells room_1.slots (T6.setTop (mkF m 27 #[.val (.int p0), .val (.int (1 : Int32)), .val (.double (4576918229304087675 : UInt64)), .second, .val (.double (4576918229304087675 : UInt64)), .second, .unset, .unset, .unset, .unset, .unset] [(.double (4591870180066957722 : UInt64))]))
    refine gs (fun t => XS.dstore X6.here hx rfl (hb hby at_27) rfl (l' := #[.val (.int p0), .val (.int (1 : Int32)), .val (.double (4576918229304087675 : UInt64)), .second, .val (.double (4576918229304087675 : UInt64)), .second, .val (.double (4591870180066957722 : UInt64)), .second, .unset, .unset, .unset]) rfl) ?_
    show Go p e below s QQ room_1.cells room_1.slots (T6.setTop (mkF m 29 #[.val (.int p0), .val (.int (1 : Int32)), .val (.double (4576918229304087675 : UInt64)), .second, .val (.double (4576918229304087675 : UInt64)), .second, .val (.double (4591870180066957722 : UInt64)), .second, .unset, .unset, .unset] []))
    refine gs (fun t => XS.dloadN X6.here hx rfl (hb hby at_29) rfl) ?_
    show Go p e below s QQ room_1.cells room_1.slots (T6.setTop (mkF m 30 #[.val (.int p0), .val (.int (1 : Int32)), .val (.double (4576918229304087675 : UInt64)), .second, .val (.double (4576918229304087675 : UInt64)), .second, .val (.double (4591870180066957722 : UInt64)), .second, .unset, .unset, .unset] [(.double (4576918229304087675 : UInt64))]))
    refine gs (fun t => XS.dconst0 X6.here hx rfl (v := (0 : UInt64)) (hb hby at_30) (by first | rfl | decide +kernel)) ?_
    show Go p e below s QQ room_1.cells room_1.slots (T6.setTop (mkF m 31 #[.val (.int p0), .val (.int (1 : Int32)), .val (.double (4576918229304087675 : UInt64)), .second, .val (.double (4576918229304087675 : UInt64)), .second, .val (.double (4591870180066957722 : UInt64)), .second, .unset, .unset, .unset] [(.double (0 : UInt64)), (.double (4576918229304087675 : UInt64))]))
    refine gs (fun t => XS.dcmpS X6.here hx rfl (v := (1 : Int32)) (hb hby at_31) rfl (by decide +kernel)) ?_
    show Go p e below s QQ room_1.cells room_1.slots (T6.setTop (mkF m 32 #[.val (.int p0), .val (.int (1 : Int32)), .val (.double (4576918229304087675 : UInt64)), .second, .val (.double (4576918229304087675 : UInt64)), .second, .val (.double (4591870180066957722 : UInt64)), .second, .unset, .unset, .unset] [(.int (1 : Int32))]))
    refine gs (fun t => XS.ifNo X6.here hx rfl (hb hby at_32) rfl ((if0 _ _).trans (flt (by decide : ¬ ((1 : Int32) < (0 : Int32)))).1)) ?_
    show Go p e below s QQ room_1.cells room_1.slots (T6.setTop (mkF m 35 #[.val (.int p0), .val (.int (1 : Int32)), .val (.double (4576918229304087675 : UInt64)), .second, .val (.double (4576918229304087675 : UInt64)), .second, .val (.double (4591870180066957722 : UInt64)), .second, .unset, .unset, .unset] []))
    refine gs (fun t => XS.dloadN X6.here hx rfl (hb hby at_35) rfl) ?_
    show Go p e below s QQ room_1.cells room_1.slots (T6.setTop (mkF m 36 #[.val (.int p0), .val (.int (1 : Int32)), .val (.double (4576918229304087675 : UInt64)), .second, .val (.double (4576918229304087675 : UInt64)), .second, .val (.double (4591870180066957722 : UInt64)), .second, .unset, .unset, .unset] [(.double (4576918229304087675 : UInt64))]))
    refine gs (fun t => X6.ldc2DoubleC hx hown (mvT hZ (hw _ (List.mem_of_getElem? (i := 6) rfl))) (g := (mkF m 36 #[.val (.int p0), .val (.int (1 : Int32)), .val (.double (4576918229304087675 : UInt64)), .second, .val (.double (4576918229304087675 : UInt64)), .second, .val (.double (4591870180066957722 : UInt64)), .second, .unset, .unset, .unset] [(.double (4576918229304087675 : UInt64))])) rfl (hb hby at_36) t) ?_
    show Go p e below s QQ room_1.cells room_1.slots (T6.setTop (mkF m 39 #[.val (.int p0), .val (.int (1 : Int32)), .val (.double (4576918229304087675 : UInt64)), .second, .val (.double (4576918229304087675 : UInt64)), .second, .val (.double (4591870180066957722 : UInt64)), .second, .unset, .unset, .unset] [(.double (9218868437227405312 : UInt64)), (.double (4576918229304087675 : UInt64))]))
    refine gs (fun t => XS.dcmpS X6.here hx rfl (v := (-1 : Int32)) (hb hby at_39) rfl (by decide +kernel)) ?_
    show Go p e below s QQ room_1.cells room_1.slots (T6.setTop (mkF m 40 #[.val (.int p0), .val (.int (1 : Int32)), .val (.double (4576918229304087675 : UInt64)), .second, .val (.double (4576918229304087675 : UInt64)), .second, .val (.double (4591870180066957722 : UInt64)), .second, .unset, .unset, .unset] [(.int (-1 : Int32))]))
    refine gs (fun t => XS.ifNo X6.here hx rfl (hb hby at_40) rfl ((if0 _ _).trans (tlt (by decide : (-1 : Int32) < (0 : Int32))).2.1)) ?_
    show Go p e below s QQ room_1.cells room_1.slots (T6.setTop (mkF m 43 #[.val (.int p0), .val (.int (1 : Int32)), .val (.double (4576918229304087675 : UInt64)), .second, .val (.double (4576918229304087675 : UInt64)), .second, .val (.double (4591870180066957722 : UInt64)), .second, .unset, .unset, .unset] []))
    refine gs (fun t => XS.iconst X6.here hx rfl (hb hby at_43)) ?_
    show Go p e below s QQ room_1.cells room_1.slots (T6.setTop (mkF m 44 #[.val (.int p0), .val (.int (1 : Int32)), .val (.double (4576918229304087675 : UInt64)), .second, .val (.double (4576918229304087675 : UInt64)), .second, .val (.double (4591870180066957722 : UInt64)), .second, .unset, .unset, .unset] [(.int (1 : Int32))]))
    refine gs (fun t => XS.goto X6.here hx rfl (pc0 := 44) (pc' := 48) rfl (hb hby at_44) (by decide) (by decide)) ?_
    show Go p e below s QQ room_1.cells room_1.slots (T6.setTop (mkF m 48 #[.val (.int p0), .val (.int (1 : Int32)), .val (.double (4576918229304087675 : UInt64)), .second, .val (.double (4576918229304087675 : UInt64)), .second, .val (.double (4591870180066957722 : UInt64)), .second, .unset, .unset, .unset] [(.int (1 : Int32))]))
    refine gs (fun t => XS.istore X6.here hx rfl (hb hby at_48) rfl (l' := #[.val (.int p0), .val (.int (1 : Int32)), .val (.double (4576918229304087675 : UInt64)), .second, .val (.double (4576918229304087675 : UInt64)), .second, .val (.double (4591870180066957722 : UInt64)), .second, .val (.int (1 : Int32)), .unset, .unset]) rfl) ?_
    show Go p e below s QQ room_1.cells room_1.slots (T6.setTop (mkF m 50 #[.val (.int p0), .val (.int (1 : Int32)), .val (.double (4576918229304087675 : UInt64)), .second, .val (.double (4576918229304087675 : UInt64)), .second, .val (.double (4591870180066957722 : UInt64)), .second, .val (.int (1 : Int32)), .unset, .unset] []))
    refine gs (fun t => XS.dload X6.here hx rfl (hb hby at_50) rfl) ?_
    show Go p e below s QQ room_1.cells room_1.slots (T6.setTop (mkF m 52 #[.val (.int p0), .val (.int (1 : Int32)), .val (.double (4576918229304087675 : UInt64)), .second, .val (.double (4576918229304087675 : UInt64)), .second, .val (.double (4591870180066957722 : UInt64)), .second, .val (.int (1 : Int32)), .unset, .unset] [(.double (4576918229304087675 : UInt64))]))
    refine gs (fun t => XS.dload X6.here hx rfl (hb hby at_52) rfl) ?_
    show Go p e below s QQ room_1.cells room_1.slots (T6.setTop (mkF m 54 #[.val (.int p0), .val (.int (1 : Int32)), .val (.double (4576918229304087675 : UInt64)), .second, .val (.double (4576918229304087675 : UInt64)), .second, .val (.double (4591870180066957722 : UInt64)), .second, .val (.int (1 : Int32)), .unset, .unset] [(.double (4591870180066957722 : UInt64)), (.double (4576918229304087675 : UInt64))]))
    refine gs (fun t => XS.dcmpS X6.here hx rfl (v := (-1 : Int32)) (hb hby at_54) rfl (by decide +kernel)) ?_
    show Go p e below s QQ room_1.cells room_1.slots (T6.setTop (mkF m 55 #[.val (.int p0), .val (.int (1 : Int32)), .val (.double (4576918229304087675 : UInt64)), .second, .val (.double (4576918229304087675 : UInt64)), .second, .val (.double (4591870180066957722 : UInt64)), .second, .val (.int (1 : Int32)), .unset, .unset] [(.int (-1 : Int32))]))
    refine gs (fun t => XS.ifNo X6.here hx rfl (hb hby at_55) rfl ((if0 _ _).trans (tlt (by decide : (-1 : Int32) < (0 : Int32))).2.1)) ?_
    show Go p e below s QQ room_1.cells room_1.slots (T6.setTop (mkF m 58 #[.val (.int p0), .val (.int (1 : Int32)), .val (.double (4576918229304087675 : UInt64)), .second, .val (.double (4576918229304087675 : UInt64)), .second, .val (.double (4591870180066957722 : UInt64)), .second, .val (.int (1 : Int32)), .unset, .unset] []))
    refine gs (fun t => XS.iconst X6.here hx rfl (hb hby at_58)) ?_
    show Go p e below s QQ room_1.cells room_1.slots (T6.setTop (mkF m 59 #[.val (.int p0), .val (.int (1 : Int32)), .val (.double (4576918229304087675 : UInt64)), .second, .val (.double (4576918229304087675 : UInt64)), .second, .val (.double (4591870180066957722 : UInt64)), .second, .val (.int (1 : Int32)), .unset, .unset] [(.int (1 : Int32))]))
    refine gs (fun t => XS.goto X6.here hx rfl (pc0 := 59) (pc' := 63) rfl (hb hby at_59) (by decide) (by decide)) ?_
    show Go p e below s QQ room_1.cells room_1.slots (T6.setTop (mkF m 63 #[.val (.int p0), .val (.int (1 : Int32)), .val (.double (4576918229304087675 : UInt64)), .second, .val (.double (4576918229304087675 : UInt64)), .second, .val (.double (4591870180066957722 : UInt64)), .second, .val (.int (1 : Int32)), .unset, .unset] [(.int (1 : Int32))]))
    refine gs (fun t => XS.istore X6.here hx rfl (hb hby at_63) rfl (l' := #[.val (.int p0), .val (.int (1 : Int32)), .val (.double (4576918229304087675 : UInt64)), .second, .val (.double (4576918229304087675 : UInt64)), .second, .val (.double (4591870180066957722 : UInt64)), .second, .val (.int (1 : Int32)), .val (.int (1 : Int32)), .unset]) rfl) ?_
    show Go p e below s QQ room_1.cells room_1.slots (T6.setTop (mkF m 65 #[.val (.int p0), .val (.int (1 : Int32)), .val (.double (4576918229304087675 : UInt64)), .second, .val (.double (4576918229304087675 : UInt64)), .second, .val (.double (4591870180066957722 : UInt64)), .second, .val (.int (1 : Int32)), .val (.int (1 : Int32)), .unset] []))
    refine gs (fun t => XS.iloadN X6.here hx rfl (hb hby at_65) rfl) ?_
    show Go p e below s QQ room_1.cells room_1.slots (T6.setTop (mkF m 66 #[.val (.int p0), .val (.int (1 : Int32)), .val (.double (4576918229304087675 : UInt64)), .second, .val (.double (4576918229304087675 : UInt64)), .second, .val (.double (4591870180066957722 : UInt64)), .second, .val (.int (1 : Int32)), .val (.int (1 : Int32)), .unset] [(.int (1 : Int32))]))
    refine gs (fun t => XS.ifNo X6.here hx rfl (hb hby at_66) rfl ((if0 _ _).trans (feq (by decide : ¬ ((1 : Int32) = (0 : Int32)))).1)) ?_
    show Go p e below s QQ room_1.cells room_1.slots (T6.setTop (mkF m 69 #[.val (.int p0), .val (.int (1 : Int32)), .val (.double (4576918229304087675 : UInt64)), .second, .val (.double (4576918229304087675 : UInt64)), .second, .val (.double (4591870180066957722 : UInt64)), .second, .val (.int (1 : Int32)), .val (.int (1 : Int32)), .unset] []))
    refine gs (fun t => XS.dloadN X6.here hx rfl (hb hby at_69) rfl) ?_
    show Go p e below s QQ room_1.cells room_1.slots (T6.setTop (mkF m 70 #[.val (.int p0), .val (.int (1 : Int32)), .val (.double (4576918229304087675 : UInt64)), .second, .val (.double (4576918229304087675 : UInt64)), .second, .val (.double (4591870180066957722 : UInt64)), .second, .val (.int (1 : Int32)), .val (.int (1 : Int32)), .unset] [(.double (4576918229304087675 : UInt64))]))
    refine gs (fun t => X6.ldc2DoubleC hx hown (mvT hZ (hw _ (List.mem_of_getElem? (i := 8) rfl))) (g := (mkF m 70 #[.val (.int p0), .val (.int (1 : Int32)), .val (.double (4576918229304087675 : UInt64)), .second, .val (.double (4576918229304087675 : UInt64)), .second, .val (.double (4591870180066957722 : UInt64)), .second, .val (.int (1 : Int32)), .val (.int (1 : Int32)), .unset] [(.double (4576918229304087675 : UInt64))])) rfl (hb hby at_70) t) ?_
    show Go p e below s QQ room_1.cells room_1.slots (T6.setTop (mkF m 73 #[.val (.int p0), .val (.int (1 : Int32)), .val (.double (4576918229304087675 : UInt64)), .second, .val (.double (4576918229304087675 : UInt64)), .second, .val (.double (4591870180066957722 : UInt64)), .second, .val (.int (1 : Int32)), .val (.int (1 : Int32)), .unset] [(.double (4576918229304087675 : UInt64)), (.double (4576918229304087675 : UInt64))]))
    refine gs (fun t => XS.dcmpS X6.here hx rfl (v := (0 : Int32)) (hb hby at_73) rfl (by decide +kernel)) ?_
    show Go p e below s QQ room_1.cells room_1.slots (T6.setTop (mkF m 74 #[.val (.int p0), .val (.int (1 : Int32)), .val (.double (4576918229304087675 : UInt64)), .second, .val (.double (4576918229304087675 : UInt64)), .second, .val (.double (4591870180066957722 : UInt64)), .second, .val (.int (1 : Int32)), .val (.int (1 : Int32)), .unset] [(.int (0 : Int32))]))
    refine gs (fun t => XS.ifNo X6.here hx rfl (hb hby at_74) rfl ((if0 _ _).trans (teq (by decide : (0 : Int32) = (0 : Int32))).2)) ?_
    show Go p e below s QQ room_1.cells room_1.slots (T6.setTop (mkF m 77 #[.val (.int p0), .val (.int (1 : Int32)), .val (.double (4576918229304087675 : UInt64)), .second, .val (.double (4576918229304087675 : UInt64)), .second, .val (.double (4591870180066957722 : UInt64)), .second, .val (.int (1 : Int32)), .val (.int (1 : Int32)), .unset] []))
    refine gs (fun t => XS.iconst X6.here hx rfl (hb hby at_77)) ?_
    show Go p e below s QQ room_1.cells room_1.slots (T6.setTop (mkF m 78 #[.val (.int p0), .val (.int (1 : Int32)), .val (.double (4576918229304087675 : UInt64)), .second, .val (.double (4576918229304087675 : UInt64)), .second, .val (.double (4591870180066957722 : UInt64)), .second, .val (.int (1 : Int32)), .val (.int (1 : Int32)), .unset] [(.int (1 : Int32))]))
    refine gs (fun t => XS.goto X6.here hx rfl (pc0 := 78) (pc' := 98) rfl (hb hby at_78) (by decide) (by decide)) ?_
    show Go p e below s QQ room_1.cells room_1.slots (T6.setTop (mkF m 98 #[.val (.int p0), .val (.int (1 : Int32)), .val (.double (4576918229304087675 : UInt64)), .second, .val (.double (4576918229304087675 : UInt64)), .second, .val (.double (4591870180066957722 : UInt64)), .second, .val (.int (1 : Int32)), .val (.int (1 : Int32)), .unset] [(.int (1 : Int32))]))
    refine gs (fun t => XS.istore X6.here hx rfl (hb hby at_98) rfl (l' := #[.val (.int p0), .val (.int (1 : Int32)), .val (.double (4576918229304087675 : UInt64)), .second, .val (.double (4576918229304087675 : UInt64)), .second, .val (.double (4591870180066957722 : UInt64)), .second, .val (.int (1 : Int32)), .val (.int (1 : Int32)), .val (.int (1 : Int32))]) rfl) ?_
    show Go p e below s QQ room_1.cells room_1.slots (T6.setTop (mkF m 100 #[.val (.int p0), .val (.int (1 : Int32)), .val (.double (4576918229304087675 : UInt64)), .second, .val (.double (4576918229304087675 : UInt64)), .second, .val (.double (4591870180066957722 : UInt64)), .second, .val (.int (1 : Int32)), .val (.int (1 : Int32)), .val (.int (1 : Int32))] []))
    refine gs (fun t => XS.iload X6.here hx rfl (hb hby at_100) rfl) ?_
    show Go p e below s QQ room_1.cells room_1.slots (T6.setTop (mkF m 102 #[.val (.int p0), .val (.int (1 : Int32)), .val (.double (4576918229304087675 : UInt64)), .second, .val (.double (4576918229304087675 : UInt64)), .second, .val (.double (4591870180066957722 : UInt64)), .second, .val (.int (1 : Int32)), .val (.int (1 : Int32)), .val (.int (1 : Int32))] [(.int (1 : Int32))]))
    refine gs (fun t => XS.ifNo X6.here hx rfl (hb hby at_102) rfl ((if0 _ _).trans (feq (by decide : ¬ ((1 : Int32) = (0 : Int32)))).1)) ?_
    show Go p e below s QQ room_1.cells room_1.slots (T6.setTop (mkF m 105 #[.val (.int p0), .val (.int (1 : Int32)), .val (.double (4576918229304087675 : UInt64)), .second, .val (.double (4576918229304087675 : UInt64)), .second, .val (.double (4591870180066957722 : UInt64)), .second, .val (.int (1 : Int32)), .val (.int (1 : Int32)), .val (.int (1 : Int32))] []))
    refine gs (fun t => XS.iload X6.here hx rfl (hb hby at_105) rfl) ?_
    show Go p e below s QQ room_1.cells room_1.slots (T6.setTop (mkF m 107 #[.val (.int p0), .val (.int (1 : Int32)), .val (.double (4576918229304087675 : UInt64)), .second, .val (.double (4576918229304087675 : UInt64)), .second, .val (.double (4591870180066957722 : UInt64)), .second, .val (.int (1 : Int32)), .val (.int (1 : Int32)), .val (.int (1 : Int32))] [(.int (1 : Int32))]))
    refine gs (fun t => XS.ifNo X6.here hx rfl (hb hby at_107) rfl ((if0 _ _).trans (feq (by decide : ¬ ((1 : Int32) = (0 : Int32)))).1)) ?_
    show Go p e below s QQ room_1.cells room_1.slots (T6.setTop (mkF m 110 #[.val (.int p0), .val (.int (1 : Int32)), .val (.double (4576918229304087675 : UInt64)), .second, .val (.double (4576918229304087675 : UInt64)), .second, .val (.double (4591870180066957722 : UInt64)), .second, .val (.int (1 : Int32)), .val (.int (1 : Int32)), .val (.int (1 : Int32))] []))
    refine gs (fun t => XS.iload X6.here hx rfl (hb hby at_110) rfl) ?_
    show Go p e below s QQ room_1.cells room_1.slots (T6.setTop (mkF m 112 #[.val (.int p0), .val (.int (1 : Int32)), .val (.double (4576918229304087675 : UInt64)), .second, .val (.double (4576918229304087675 : UInt64)), .second, .val (.double (4591870180066957722 : UInt64)), .second, .val (.int (1 : Int32)), .val (.int (1 : Int32)), .val (.int (1 : Int32))] [(.int (1 : Int32))]))
    refine gs (fun t => XS.ifNo X6.here hx rfl (hb hby at_112) rfl ((if0 _ _).trans (feq (by decide : ¬ ((1 : Int32) = (0 : Int32)))).1)) ?_
    show Go p e below s QQ room_1.cells room_1.slots (T6.setTop (mkF m 115 #[.val (.int p0), .val (.int (1 : Int32)), .val (.double (4576918229304087675 : UInt64)), .second, .val (.double (4576918229304087675 : UInt64)), .second, .val (.double (4591870180066957722 : UInt64)), .second, .val (.int (1 : Int32)), .val (.int (1 : Int32)), .val (.int (1 : Int32))] []))
    refine gs (fun t => XS.iconst X6.here hx rfl (hb hby at_115)) ?_
    show Go p e below s QQ room_1.cells room_1.slots (T6.setTop (mkF m 116 #[.val (.int p0), .val (.int (1 : Int32)), .val (.double (4576918229304087675 : UInt64)), .second, .val (.double (4576918229304087675 : UInt64)), .second, .val (.double (4591870180066957722 : UInt64)), .second, .val (.int (1 : Int32)), .val (.int (1 : Int32)), .val (.int (1 : Int32))] [(.int (1 : Int32))]))
    refine gs (fun t => XS.goto X6.here hx rfl (pc0 := 116) (pc' := 120) rfl (hb hby at_116) (by decide) (by decide)) ?_
    show Go p e below s QQ room_1.cells room_1.slots (T6.setTop (mkF m 120 #[.val (.int p0), .val (.int (1 : Int32)), .val (.double (4576918229304087675 : UInt64)), .second, .val (.double (4576918229304087675 : UInt64)), .second, .val (.double (4591870180066957722 : UInt64)), .second, .val (.int (1 : Int32)), .val (.int (1 : Int32)), .val (.int (1 : Int32))] [(.int (1 : Int32))]))
    exact goB X6 hx Bd.notSynchronized Bd.returns (by simp) (w := (1 : Int32)) (by first | rfl | decide) (hb hby at_120) (by rw [← hQQ, e6]; exact ⟨rfl, N0⟩) (by decide) (by decide)
set_option maxRecDepth 65536 in
set_option maxHeartbeats 40000000 in
theorem comes_1 {Post : Tables → Env → Array Value → State → Outcome → State → Prop} (hpost : ∀ tb e args s v u, (limb_1_1.after args s (.returned v) u = true ∧ limb_1_2.after args s (.returned v) u = true ∧ True) → FrameEnd s (.returned v) u (Jvm.fieldLocs frame_1_writes args s ++ Jvm.arrayLocs frame_1_arrays args s ++ Jvm.staticLocs frame_1_statics s) 0 0 → Post tb e args s (.returned v) u) :
    ArmFor flags0 classFile x code maxLocals ret World_1 tables_1 room_1 Calls_1 rest_1 Pre_1 Post := by
  intro l hfl _ _ p e ha hc hk s m args below hf hA hF happ hP
  obtain ⟨hcalls, hrest, hpre⟩ := hP
  obtain ⟨-, -, -, hnamed, -, -, -, hat⟩ := (Spec.applies_iff hf).mp happ
  obtain ⟨hg, hn⟩ := and_e (Cond.before_iff.mp (show (Jvm.Cond.and given_1 narrow_1).before args s = true from hpre))
  obtain ⟨gc, hg0⟩ := and_e hg
  obtain ⟨w0, rfl⟩ : ∃ w0 : Value, args = #[w0] := by
    have hs : args.size = 1 := by simpa [Cond.value, given_1] using gc
    obtain ⟨L⟩ := args
    match L, hs with
    | [w0], _ => exact ⟨w0, rfl⟩
  obtain ⟨i0, ei0⟩ := is_v hg0
  obtain rfl : w0 = (.int i0) := Option.some.inj ei0
  have hw := fun d (hd : d ∈ tables_1) => atoms_spec (ws := Jvm.Cond.code x code maxLocals ret :: tables_1) hat d (List.mem_cons_of_mem _ hd)
  have hfit : Fit s := fun {y c} hc i hi => by
    obtain ⟨ha, rfl⟩ := Array.getElem?_eq_some_iff.mp hc
    have q := List.all_eq_true.mp ((Array.all_eq_true_iff_forall_mem.mp hF) _ (Array.getElem_mem ha)) i (List.mem_range.mpr hi)
    simpa [Array.getElem?_eq_getElem hi] using q
  obtain ⟨n, o, h1, h2, h3, _, L, rfl, ⟨rfl, N⟩, hq⟩ := rm0 l s _ hw tables_1 i0 s.heap s.heap.size (Nat.le_refl _)  p e ha hc hk s m _ below hf ((Spec.applies_iff_loose hf).mp happ).1 ⟨rfl, State.Warmed39.refl s, rfl⟩ trivial
  refine ⟨n, _, h1, h2, h3, hpost _ _ _ _ _ _ ⟨Cond.after_iff.mpr rfl, Cond.after_iff.mpr (eq_i res_at (Term.int_eval (1)) rfl), trivial⟩ ⟨hq.1, hq.2.1, (hq.2.2.sift fun y hy => Or.inr (N y hy)).mono (by decide) (by decide)⟩⟩
theorem main_1_1 : Claimed_1_1 := comes_1 fun _ _ _ _ _ _ h hF => ⟨h.1, hF⟩
theorem main_1_2 : Claimed_1_2 := comes_1 fun _ _ _ _ _ _ h hF => ⟨h.2.1, hF⟩
end Jvm.Pilot.@@N@@
namespace Jvm.Pilot.@@N@@
open Jvm Jvm.ClassFile Sem Op Lib Jvm.Free Jvm.Stand Jvm.Pilot.@@N@@.Jvm.D
/-! MADE BY PROGRAM (witnessworld.py) out of the Statement's table words and the real class files: 10 classes; the members and pool entries that the words name. The judged class is class 1, her method 1. -/
namespace start1
open Jvm.ClassFile
def u (s : String) : CpInfo := .utf8 (stringToUtf16 s)
/-- a pool by its gaps: so many unusable entries, then the entry; so many at the end -/
def gap : Nat → List CpInfo → List CpInfo
  | 0, r => r
  | n + 1, r => .unusable :: gap n r
def poolList (es : List (Nat × CpInfo)) (last : Nat) : List CpInfo := es.foldr (fun e r => gap e.1 (e.2 :: r)) (gap last [])
def pool (es : List (Nat × CpInfo)) (last : Nat) : Array CpInfo := ⟨poolList es last⟩
def fileOf (pool : Array CpInfo) (this : Nat) (attrs : Array Attribute := #[]) (ms : Array MethodInfo := #[]) (fl : Nat := 33) (sup : Nat := 0) (ifs : Array Nat := #[]) (fds : Array FieldInfo := #[]) : ClassFile where
  minorVersion := 0
  majorVersion := 65
  constantPool := pool
  accessFlags := fl
  thisClass := this
  superClass := sup
  interfaces := ifs
  fields := fds
  methods := ms
  attributes := attrs
def plain (name : String) (sup : Option ClassId) : Class where
  name := name
  kind := .ordinary
  loader := none
  accessFlags := 33
  super := sup
  interfaces := #[]
  cf := none
  fields := #[]
  methods := #[]
  instanceTypes := #[]
  staticTypes := #[]
  resolved := #[]
  callSites := []
  init := .initialized
  statics := none
  mirror := none

def pool0 : Array CpInfo := pool [(5, u "<init>"), (0, u "()V"), (1, .class_ 10), (1, u "java/lang/Object")] 113

def k0m0 : Method := { name := "<init>", desc := "()V", sig := { parameters := [], returnType := none }, accessFlags := 1, code := none }
/-- java/lang/Object -/
def k0 : Class := { plain "java/lang/Object" none with
  accessFlags := 33
  interfaces := #[]
  cf := some (fileOf pool0 8 #[] #[{ accessFlags := 1, nameIndex := 5, descriptorIndex := 6, attributes := #[] }] 33 0 #[] #[])
  fields := #[]
  methods := #[k0m0]
  instanceTypes := #[]
  staticTypes := #[]
  resolved := Array.replicate 124 none
  statics := none }

def pool1 : Array CpInfo := pool [(2, .class_ 4), (1, u "java/lang/Object"), (0, u "<init>"), (0, u "()V"), (0, .methodref 8 9), (0, .class_ 10), (0, .nameAndType 11 12), (0, u "com/example/seshat/seshat/ActivationConstraint"), (0, u "defaultThreshold"), (0, u "(Z)D"), (2, .double 9218868437227405312), (1, .double 4576918229304087675), (1, .double 4591870180066957722), (1, .class_ 22), (0, u "com/example/seshat/seshat/ActivationConstraintDefaultThresholdPinLaw"), (2, u "law"), (0, u "(I)Z")] 3

def k1m0 : Method := { name := "<init>", desc := "()V", sig := { parameters := [], returnType := none }, accessFlags := 1, code := none }
def k1c1 : Code := { maxStack := 4, maxLocals := 11, code := code, exceptionTable := #[], attributes := #[] }
def k1m1 : Method := { name := "law", desc := "(I)Z", sig := { parameters := [.int], returnType := some .boolean }, accessFlags := 9, code := some k1c1 }
/-- com/example/seshat/seshat/ActivationConstraintDefaultThresholdPinLaw -/
def k1 : Class := { plain "com/example/seshat/seshat/ActivationConstraintDefaultThresholdPinLaw" (some 0) with
  accessFlags := 49
  interfaces := #[]
  cf := some (fileOf pool1 21 #[] #[{ accessFlags := 1, nameIndex := 5, descriptorIndex := 6, attributes := #[] }, { accessFlags := 9, nameIndex := 25, descriptorIndex := 26, attributes := #[] }] 49 2 #[] #[])
  fields := #[]
  methods := #[k1m0, k1m1]
  instanceTypes := #[]
  staticTypes := #[]
  resolved := Array.replicate 30 none
  statics := none }

def pool2 : Array CpInfo := pool [(1, .class_ 2), (0, u "com/example/seshat/seshat/Constraint"), (0, .class_ 4), (0, u "java/lang/Object")] 6

/-- com/example/seshat/seshat/Constraint -/
def k2 : Class := { plain "com/example/seshat/seshat/Constraint" (some 0) with
  accessFlags := 1536
  interfaces := #[]
  cf := some (fileOf pool2 1 #[] #[] 1536 3 #[] #[])
  fields := #[]
  methods := #[]
  instanceTypes := #[]
  staticTypes := #[]
  resolved := Array.replicate 11 none
  statics := none }

def pool3 : Array CpInfo := pool [(2, .class_ 4), (1, u "java/lang/Object"), (16, .class_ 23), (1, u "com/example/seshat/seshat/ActivationConstraint"), (0, u "threshold"), (0, u "D"), (0, .double 4576918229304087675), (1, .double 4591870180066957722), (9, .class_ 39), (0, u "com/example/seshat/seshat/Constraint"), (0, u "NAME"), (0, u "Ljava/lang/String;"), (3, u "DEFAULT_THRESHOLD"), (0, u "DEFAULT_THRESHOLD_WITH_NODE_WEIGHTS"), (4, u "defaultThreshold"), (0, u "(Z)D")] 20

def k3c0 : Code := { maxStack := 2, maxLocals := 1, code := prog_1_method_2_code, exceptionTable := #[], attributes := #[] }
def k3m0 : Method := { name := "defaultThreshold", desc := "(Z)D", sig := { parameters := [.boolean], returnType := some .double }, accessFlags := 8, code := some k3c0 }
/-- com/example/seshat/seshat/ActivationConstraint -/
def k3 : Class := { plain "com/example/seshat/seshat/ActivationConstraint" (some 0) with
  accessFlags := 48
  interfaces := #[2]
  cf := some (fileOf pool3 21 #[] #[{ accessFlags := 8, nameIndex := 51, descriptorIndex := 52, attributes := #[] }] 48 2 #[38] #[{ accessFlags := 24, nameIndex := 40, descriptorIndex := 41, attributes := #[] }, { accessFlags := 26, nameIndex := 45, descriptorIndex := 25, attributes := #[] }, { accessFlags := 26, nameIndex := 46, descriptorIndex := 25, attributes := #[] }, { accessFlags := 18, nameIndex := 24, descriptorIndex := 25, attributes := #[] }])
  fields := #[{ name := "NAME", type := (.object "java/lang/String"), accessFlags := 24, slot := 0, constantValue := 0 }, { name := "DEFAULT_THRESHOLD", type := .double, accessFlags := 26, slot := 1, constantValue := 0 }, { name := "DEFAULT_THRESHOLD_WITH_NODE_WEIGHTS", type := .double, accessFlags := 26, slot := 2, constantValue := 0 }, { name := "threshold", type := .double, accessFlags := 18, slot := 0, constantValue := 0 }]
  methods := #[k3m0]
  instanceTypes := #[.double]
  staticTypes := #[(.object "java/lang/String"), .double, .double]
  resolved := Array.replicate 73 none
  statics := none }

def pool4 : Array CpInfo := pool [(1, u "java/lang/Cloneable"), (0, .class_ 1), (0, u "java/lang/Object"), (0, .class_ 3)] 3

/-- java/lang/Cloneable -/
def k4 : Class := { plain "java/lang/Cloneable" (some 0) with
  accessFlags := 1537
  interfaces := #[]
  cf := some (fileOf pool4 2 #[] #[] 1537 4 #[] #[])
  fields := #[]
  methods := #[]
  instanceTypes := #[]
  staticTypes := #[]
  resolved := Array.replicate 8 none
  statics := none }

def pool5 : Array CpInfo := pool [(1, u "java/io/Serializable"), (0, .class_ 1), (0, u "java/lang/Object"), (0, .class_ 3)] 3

/-- java/io/Serializable -/
def k5 : Class := { plain "java/io/Serializable" (some 0) with
  accessFlags := 1537
  interfaces := #[]
  cf := some (fileOf pool5 2 #[] #[] 1537 4 #[] #[])
  fields := #[]
  methods := #[]
  instanceTypes := #[]
  staticTypes := #[]
  resolved := Array.replicate 8 none
  statics := none }

/-- the primitive byte -/
def k6 : Class := { plain "byte" none with kind := .primitive 'B', accessFlags := 0x411 }
/-- [B -/
def k7 : Class := { plain "[B" (some 0) with kind := .array 6 .byte, interfaces := #[4, 5], accessFlags := 1041 }

/-- the primitive int -/
def k8 : Class := { plain "int" none with kind := .primitive 'I', accessFlags := 0x411 }
/-- [I -/
def k9 : Class := { plain "[I" (some 0) with kind := .array 8 .int, interfaces := #[4, 5], accessFlags := 1041 }

def heap : Heap := #[]
def classes : Array Class := #[k0, k1, k2, k3, k4, k5, k6, k7, k8, k9]
def interned : List (Array UInt16 × Addr) := []
def slotsUsed : Nat := 0
def theMethod : MethodId := ⟨1, 1⟩
def args0 : Array Value := #[.int 1]
def aboutOver (below : List Frame) : State where
  vm := { classes := classes, interned := interned.toArray }
  heap := heap
  slotsUsed := slotsUsed
  threads := #[{ frames := .invoking theMethod args0 :: below }]
def below0 : List Frame := [.native { method := ⟨0, 0⟩, args := #[] }]
def about1 : State := aboutOver below0
def p0 : Program := .bare "" "" ""
def e0 : Env := launch0.env 0 0 0
theorem w_frames : about1.frames = Frame.invoking theMethod args0 :: below0 := rfl
set_option maxRecDepth 65536 in
theorem w_args : argsFit about1.vm theMethod args0 = true := by decide +kernel
set_option maxRecDepth 65536 in
theorem w_heap : heapFits about1 = true := by decide +kernel
set_option maxRecDepth 65536 in
theorem w_runnable : about1.curStatus? = some .runnable := by decide +kernel
set_option maxRecDepth 65536 in
theorem w_alone : about1.alone = true := by decide +kernel
set_option maxRecDepth 65536 in
theorem w_named : about1.methodNamed? x = some theMethod := by decide +kernel
set_option maxRecDepth 65536 in
theorem w_hears : about1.hears theMethod below0 = true := by decide +kernel
set_option maxRecDepth 65536 in
theorem w_ripe : about1.ripe theMethod args0 below0 = true := by decide +kernel
theorem w_running : about1.status = .running := rfl
set_option maxRecDepth 65536 in
theorem w_room : about1.hasRoom e0.platform room_1 = true :=
  launch0.hasRoom_least _ room_1 (by decide +kernel) (by decide +kernel) (by decide +kernel) (by decide +kernel) (by decide +kernel) (by decide +kernel)
theorem allAtoms_all (ts : List Jvm.Cond) (a : Array Jvm.Value) (st : Jvm.State) : (allAtoms ts).before a st = ts.all (fun c => c.before a st) := by
  induction ts with
  | nil => rfl
  | cons c t ih =>
    show (Jvm.Cond.and c (allAtoms t)).before a st = _
    rw [Jvm.Cond.before_and, ih, List.all_cons]
def words1 : List Jvm.Cond := Jvm.Cond.code x code maxLocals ret :: tables_1
/-- a 'code' word, met by the world's own term for the bytes: nothing is compared byte by byte -/
theorem code_word {y : MethodName} {bytes : ByteArray} {mx : Nat} {rt : Option FieldType} {a : Array Value} {s : State} {m : MethodId} {meth : Method} {c : Code} (h1 : s.methodNamed? y = some m) (h2 : s.vm.method? m = some meth) (h3 : meth.code = some c) (h4 : c.code = bytes)
    (h5 : (c.maxLocals == mx && c.exceptionTable.isEmpty && decide (c.maxStack ≤ mostOperands) && decide (meth.sig.returnType = rt) && !meth.locks && decide (parseMethodDescriptor y.desc = some meth.sig)) = true) : (Jvm.Cond.code y bytes mx rt).before a s = true := by
  simp only [Bool.and_eq_true, beq_iff_eq, Bool.not_eq_true', decide_eq_true_eq] at h5
  obtain ⟨⟨⟨⟨⟨g1, g2⟩, g3⟩, g4⟩, g5⟩, g6⟩ := h5
  simp [Cond.before, Cond.holds, Cond.value, h1, h2, h3, h4, g1, g2, g3, g4, g5, g6]
def isCode : Jvm.Cond → Bool
  | .code _ _ _ _ => true
  | _ => false
theorem all_split {L : List Jvm.Cond} {P : Jvm.Cond → Bool} (h1 : L.all (fun c => isCode c || P c) = true) (h2 : ∀ c ∈ L.filter isCode, P c = true) : L.all P = true := by
  refine List.all_eq_true.mpr fun c hc => ?_
  have h := List.all_eq_true.mp h1 c hc
  rcases Bool.eq_false_or_eq_true (isCode c) with hi | hi
  · exact h2 c (List.mem_filter.mpr ⟨hc, hi⟩)
  · simpa [hi] using h
set_option maxRecDepth 65536 in
theorem w_c0 : (Jvm.Cond.code x code maxLocals ret).before args0 about1 = true := code_word (m := ⟨1, 1⟩) (meth := k1m1) (c := k1c1) (by decide +kernel) rfl rfl rfl (by decide +kernel)
set_option maxRecDepth 65536 in
theorem w_c1 : (Jvm.Cond.code ({ cls := "com/example/seshat/seshat/ActivationConstraint", name := "defaultThreshold", desc := "(Z)D" } : Jvm.MethodName) prog_1_method_2_code (1 : Nat) (Option.some Jvm.ClassFile.FieldType.double)).before args0 about1 = true := code_word (m := ⟨3, 0⟩) (meth := k3m0) (c := k3c0) (by decide +kernel) rfl rfl rfl (by decide +kernel)
def codes1 : List Jvm.Cond := [Jvm.Cond.code x code maxLocals ret, Jvm.Cond.code ({ cls := "com/example/seshat/seshat/ActivationConstraint", name := "defaultThreshold", desc := "(Z)D" } : Jvm.MethodName) prog_1_method_2_code (1 : Nat) (Option.some Jvm.ClassFile.FieldType.double)]
set_option maxRecDepth 65536 in
theorem codes_eq : words1.filter isCode = codes1 := rfl
theorem w_codes : ∀ c ∈ words1.filter isCode, c.before args0 about1 = true := by
  rw [codes_eq]
  intro c hc
  simp only [codes1, List.mem_cons, List.not_mem_nil, or_false] at hc
  rcases hc with rfl | rfl
  · exact w_c0
  · exact w_c1
set_option maxRecDepth 65536 in
theorem w_t1 : words1.all (fun c => isCode c || c.before args0 about1) = true := by decide +kernel
theorem w_tables : (allAtoms (Jvm.Cond.code x code maxLocals ret :: tables_1)).before args0 about1 = true := by
  rw [allAtoms_all]
  show words1.all (fun c => c.before args0 about1) = true
  refine all_split ?_ w_codes
  rw [w_t1]
set_option maxRecDepth 65536 in
theorem w_case : (Jvm.Cond.and given_1 narrow_1).before args0 about1 = true := by decide +kernel
theorem w_applies : (headSpec (Jvm.Cond.code x code maxLocals ret :: tables_1) room_1).applies x e0.platform about1 = true :=
  (Spec.applies_iff w_frames).mpr ⟨w_running, w_runnable, w_alone, w_named, w_hears, w_ripe, w_room, w_tables⟩
theorem atStart : AtStart classFile x code maxLocals ret World_1 tables_1 room_1 Calls_1 rest_1 Pre_1 launch0 p0 e0 about1 theMethod args0 below0 :=
  ⟨lists_1, trivial, launch0.admits_env _ _ _, launch0.least_env, fairChoices_fair.cas, fairChoices_fair.clock, w_frames, w_args, w_heap, w_applies, trivial, trivial, w_case⟩
end start1
theorem witness_1 : WitnessClaimed_1 := ⟨start1.p0, start1.e0, start1.about1, start1.theMethod, start1.args0, start1.below0, start1.atStart⟩
end Jvm.Pilot.@@N@@
