import JvmDerived
import JvmDerived.Pilot.@@N@@Statement
import JvmDerived.Pilot.@@N@@Code
set_option linter.unusedVariables false
set_option linter.unusedSimpArgs false
namespace Jvm.RoadKit
open Sem ClassFile Op Lib Jvm.Stand Jvm.Free Jvm.LawKit
section Own
variable {p : Program} {l : Launch} {e : Env} {R : Room} {s : State} {m : MethodId} {args : Array Value} {below : List Frame} {meth : Method} {c : Code} {T : State} {locs : List Loc} {cells slots : Nat} {Z : State} {h h' : Heap} {a b : Addr} {ty : FieldType} {ws : List Addr}
/-- from the state S the run comes to an end that Q allows -/
def Go (p : Program) (e : Env) (below : List Frame) (s : State) (Q : Option Value → Heap → List Loc → Prop) (K N : Nat) (S : State) : Prop :=
  ∃ (t : State) (o : Outcome), Steps p.tables e below S t ∧ t.status = .running ∧ Ended t below o ∧ ∃ v L, o = .returned v ∧ Q v t.heap L ∧ FrameEnd s o t L K N
variable {Q : Option Value → Heap → List Loc → Prop} {K N : Nat} {S S' : State}
theorem gs (h : ∀ t, Steps p.tables e below S' t → Steps p.tables e below S t) (k : Go p e below s Q K N S') : Go p e below s Q K N S := by
  obtain ⟨t, o, a, b⟩ := k
  exact ⟨t, o, h t a, b⟩
theorem gt (h : Steps p.tables e below S S') (k : Go p e below s Q K N S') : Go p e below s Q K N S := gs (fun _ => h.trans) k
theorem goEnd (X : Stand p l e R s m args below meth c T locs cells slots) {v : Option Value} (hlocks : meth.locks = false) (hv : meth.sig.returnType = none → v = none)
    (hs : ∀ fs, (∀ (f : JFrame) (acts : List Action), f.method = m → f.locked = none → f.entered = [] → (doReturn e (T.setTop f) acts v).1 = T.setFrames fs) → Steps p.tables e below S (T.setFrames fs))
    (hQ : Q v T.heap locs) (hk : cells ≤ K) (hn : slots ≤ N) : Go p e below s Q K N S := by
  obtain ⟨fs, hr, hrun, hended, hW, hsame⟩ := X.leave (v := v) hv hlocks
  exact ⟨_, _, hs fs hr, hrun, hended, v, locs, rfl, hQ, ⟨_, rfl⟩, hW, hsame.mono hk hn⟩
theorem goV (X : Stand p l e R s m args below meth c T locs cells slots) (hx : p.tables.exec = Jvm.exec) (hlocks : meth.locks = false) (hret : meth.sig.returnType = none) {pc : Nat} {Ls : Array Slot} (hd : decode c.code pc = .ok (.return_, 1)) (hQ : Q none T.heap locs) (hk : cells ≤ K) (hn : slots ≤ N) :
    Go p e below s Q K N (T.setTop (mkF m pc Ls [])) := goEnd X hlocks (fun _ => rfl) (fun _ hr => X.returnOut hx hret hd hr) hQ hk hn
theorem goW (X : Stand p l e R s m args below meth c T locs cells slots) (hx : p.tables.exec = Jvm.exec) (hlocks : meth.locks = false) {t : FieldType} (hret : meth.sig.returnType = some t) {pc : Nat} {Ls : Array Slot} {w : Value} {i : Instr} {rest : List Value} (hn0 : narrow t w = w)
    (hi : (i = .ireturn ∧ (t = .int ∨ t = .boolean ∨ t = .byte ∨ t = .char ∨ t = .short) ∧ ∃ z, w = .int z) ∨ (i = .lreturn ∧ t = .long ∧ ∃ z, w = .long z) ∨ (i = .dreturn ∧ t = .double ∧ ∃ z, w = .double z) ∨ (i = .freturn ∧ t = .float ∧ ∃ z, w = .float z) ∨ (i = .areturn ∧ t.isReference = true ∧ w.isRef = true))
    (hd : decode c.code pc = .ok (i, 1)) (hQ : Q (some w) T.heap locs) (hk : cells ≤ K) (hn : slots ≤ N) : Go p e below s Q K N (T.setTop (mkF m pc Ls (w :: rest))) :=
  goEnd X hlocks (fun q => by rw [hret] at q; cases q) (fun _ hr => retOut X hx hret hn0 hi hd hr) hQ hk hn
theorem goI (X : Stand p l e R s m args below meth c T locs cells slots) (hx : p.tables.exec = Jvm.exec) (hlocks : meth.locks = false) (hret : meth.sig.returnType = some .int) {pc : Nat} {Ls : Array Slot} {w : Int32} {rest : List Value} (hd : decode c.code pc = .ok (.ireturn, 1)) (hQ : Q (some (.int w)) T.heap locs) (hk : cells ≤ K) (hn : slots ≤ N) :
    Go p e below s Q K N (T.setTop (mkF m pc Ls (.int w :: rest))) := goW X hx hlocks hret rfl (Or.inl ⟨rfl, Or.inl rfl, w, rfl⟩) hd hQ hk hn
theorem goJ (X : Stand p l e R s m args below meth c T locs cells slots) (hx : p.tables.exec = Jvm.exec) (hlocks : meth.locks = false) (hret : meth.sig.returnType = some .long) {pc : Nat} {Ls : Array Slot} {w : Int64} {rest : List Value} (hd : decode c.code pc = .ok (.lreturn, 1)) (hQ : Q (some (.long w)) T.heap locs) (hk : cells ≤ K) (hn : slots ≤ N) :
    Go p e below s Q K N (T.setTop (mkF m pc Ls (.long w :: rest))) := goW X hx hlocks hret rfl (Or.inr (Or.inl ⟨rfl, rfl, w, rfl⟩)) hd hQ hk hn
theorem goR (X : Stand p l e R s m args below meth c T locs cells slots) (hx : p.tables.exec = Jvm.exec) (hlocks : meth.locks = false) {t : FieldType} (hret : meth.sig.returnType = some t) (ht : t.isReference = true) {pc : Nat} {Ls : Array Slot} {w : Value} (hw : w.isRef = true) {rest : List Value} (hd : decode c.code pc = .ok (.areturn, 1)) (hQ : Q (some w) T.heap locs) (hk : cells ≤ K) (hn : slots ≤ N) :
    Go p e below s Q K N (T.setTop (mkF m pc Ls (w :: rest))) :=
  goW X hx hlocks hret (by cases t <;> simp [FieldType.isReference] at ht <;> rfl) (Or.inr (Or.inr (Or.inr (Or.inr ⟨rfl, ht, hw⟩)))) hd hQ hk hn
theorem goB (X : Stand p l e R s m args below meth c T locs cells slots) (hx : p.tables.exec = Jvm.exec) (hlocks : meth.locks = false) {t : FieldType} (hret : meth.sig.returnType = some t) (ht : t = .boolean ∨ t = .byte ∨ t = .char ∨ t = .short) {pc : Nat} {Ls : Array Slot} {z w : Int32} {rest : List Value} (hz : nar t z = w) (hd : decode c.code pc = .ok (.ireturn, 1)) (hQ : Q (some (.int w)) T.heap locs) (hk : cells ≤ K) (hn : slots ≤ N) :
    Go p e below s Q K N (T.setTop (mkF m pc Ls (.int z :: rest))) := by
  subst hz
  exact goEnd X hlocks (fun q => by rw [hret] at q; cases q) (fun _ hr => retN X hx hret ht hd hr) hQ hk hn
/-- an array of n places; the place i holds f i -/
def Arf (Z : State) (h : Heap) (a : Addr) (ty : FieldType) (n : Nat) (f : Nat → Value) : Prop := ∃ c : Cell, Arr Z h a c ty ∧ c.slots.size = n ∧ n < 2 ^ 31 ∧ ∀ i, i < n → c.slots[i]? = some (f i)
def updv (f : Nat → Value) (j : Nat) (v : Value) : Nat → Value := fun i => if i = j then v else f i
variable {n : Nat} {f g : Nat → Value} {sl : Nat} {v : Value}
theorem Arf.lt (F : Arf Z h a ty n f) : a < h.size := by obtain ⟨c, A, -⟩ := F; exact A.lt
theorem Arf.ext (F : Arf Z h a ty n f) (E : Ext h h') : Arf Z h' a ty n f := by obtain ⟨c, A, r⟩ := F; exact ⟨c, A.ext E, r⟩
theorem Arf.other (F : Arf Z h b ty n f) (W : Wr h h' a sl v) (q : b ≠ a) : Arf Z h' b ty n f := by obtain ⟨c, A, r⟩ := F; exact ⟨c, A.other W q, r⟩
theorem Arf.keep (F : Arf Z h a ty n f) (K : Keep h h' ws) (q : a ∉ ws) : Arf Z h' a ty n f := by obtain ⟨c, A, r⟩ := F; exact ⟨c, ⟨K.2.1 a c A.1 q, A.2⟩, r⟩
theorem Arf.congr (F : Arf Z h a ty n f) (q : ∀ i, i < n → f i = g i) : Arf Z h a ty n g := by
  obtain ⟨c, A, r1, r2, r3⟩ := F
  exact ⟨c, A, r1, r2, fun i hi => by rw [← q i hi]; exact r3 i hi⟩
theorem clampLt (z : Int32) : z.toNatClampNeg < 2 ^ 31 := by
  have h1 := z.toInt_lt
  have h2 : z.toNatClampNeg = z.toInt.toNat := rfl
  omega
theorem clampOf {j : Int32} (h0 : 0 ≤ j.toInt) : (j.toNatClampNeg : Int) = j.toInt := by
  have h2 : j.toNatClampNeg = j.toInt.toNat := rfl
  omega
theorem Arf.new {k : ClassId} {z : Int32} (A : Arr Z h a (newA k ty z) ty) : Arf Z h a ty z.toNatClampNeg (fun _ => defaultValue ty) := by
  refine ⟨_, A, sz_new _ _ _, clampLt z, fun i hi => ?_⟩
  simp [newA, hi]
theorem Arf.set (F : Arf Z h a ty n f) {j : Nat} (W : Wr h h' a j v) (hj : j < n) : Arf Z h' a ty n (updv f j v) := by
  obtain ⟨c, A, r1, r2, r3⟩ := F
  refine ⟨_, A.same W, by rw [sz_set]; exact r1, r2, fun i hi => ?_⟩
  by_cases q : i = j
  · subst q
    simp [Cell.setSlot, updv, r1, hi]
  · have q' : ¬ j = i := fun x => q x.symm
    simp [Cell.setSlot, updv, q, Array.getElem?_setIfInBounds_ne q', r3 i hi]
theorem inI {cl : Cell} (S : cl.slots.size = n) {j : Int32} (hj : 0 ≤ j.toInt ∧ j.toInt < n) : ¬ (j < 0 ∨ cl.slots.size ≤ j.toNatClampNeg) := by
  have q := clampOf hj.1
  rintro (h1 | h1)
  · rw [Int32.lt_iff_toInt_lt] at h1
    have : (0 : Int32).toInt = 0 := rfl
    omega
  · omega
theorem stIf (X : Stand p l e R s m args below meth c T locs cells slots) (hx : p.tables.exec = Jvm.exec) (hZ : Z.Warmed39 s.vm) (eT : T.heap = h) (F : Arf Z h a .int n f) {j x : Int32} (hj : 0 ≤ j.toInt ∧ j.toInt < n) {g : JFrame} (hg : g.method = m) {rest : List Value} (hs : g.stack = .int x :: .int j :: .ref a :: rest) (hd : decode c.code g.pc = .ok (.iastore, 1)) :
    ∃ T' h', Stand p l e R s m args below meth c T' (locs ++ [⟨a, j.toNatClampNeg⟩]) cells slots ∧ T'.heap = h' ∧ Wr h h' a j.toNatClampNeg (.int x) ∧ Arf Z h' a .int n (updv f j.toNatClampNeg (.int x)) ∧ ∀ target, Steps p.tables e below (T'.setTop { g with pc := g.pc + 1, stack := rest }) target → Steps p.tables e below (T.setTop g) target := by
  obtain ⟨cl, A, r1, r2, r3⟩ := id F
  obtain ⟨T', h', X', e', W, st⟩ := stI X hx hZ eT A (j := j) (x := x) (inI r1 hj) hg hs hd
  have q := clampOf hj.1
  exact ⟨T', h', X', e', W, F.set W (by omega), st⟩
theorem stJf (X : Stand p l e R s m args below meth c T locs cells slots) (hx : p.tables.exec = Jvm.exec) (hZ : Z.Warmed39 s.vm) (eT : T.heap = h) (F : Arf Z h a .long n f) {j : Int32} {x : Int64} (hj : 0 ≤ j.toInt ∧ j.toInt < n) {g : JFrame} (hg : g.method = m) {rest : List Value} (hs : g.stack = .long x :: .int j :: .ref a :: rest) (hd : decode c.code g.pc = .ok (.lastore, 1)) :
    ∃ T' h', Stand p l e R s m args below meth c T' (locs ++ [⟨a, j.toNatClampNeg⟩]) cells slots ∧ T'.heap = h' ∧ Wr h h' a j.toNatClampNeg (.long x) ∧ Arf Z h' a .long n (updv f j.toNatClampNeg (.long x)) ∧ ∀ target, Steps p.tables e below (T'.setTop { g with pc := g.pc + 1, stack := rest }) target → Steps p.tables e below (T.setTop g) target := by
  obtain ⟨cl, A, r1, r2, r3⟩ := id F
  obtain ⟨T', h', X', e', W, st⟩ := stJ X hx hZ eT A (j := j) (x := x) (inI r1 hj) hg hs hd
  have q := clampOf hj.1
  exact ⟨T', h', X', e', W, F.set W (by omega), st⟩
theorem stBf (X : Stand p l e R s m args below meth c T locs cells slots) (hx : p.tables.exec = Jvm.exec) (hZ : Z.Warmed39 s.vm) (eT : T.heap = h) (F : Arf Z h a .byte n f) {j x : Int32} (hj : 0 ≤ j.toInt ∧ j.toInt < n) {g : JFrame} (hg : g.method = m) {rest : List Value} (hs : g.stack = .int x :: .int j :: .ref a :: rest) (hd : decode c.code g.pc = .ok (.bastore, 1)) :
    ∃ T' h', Stand p l e R s m args below meth c T' (locs ++ [⟨a, j.toNatClampNeg⟩]) cells slots ∧ T'.heap = h' ∧ Wr h h' a j.toNatClampNeg (.int (nar .byte x)) ∧ Arf Z h' a .byte n (updv f j.toNatClampNeg (.int (nar .byte x))) ∧ ∀ target, Steps p.tables e below (T'.setTop { g with pc := g.pc + 1, stack := rest }) target → Steps p.tables e below (T.setTop g) target := by
  obtain ⟨cl, A, r1, r2, r3⟩ := id F
  obtain ⟨T', h', X', e', W, st⟩ := stB X hx hZ eT A (j := j) (x := x) (inI r1 hj) hg hs hd
  have q := clampOf hj.1
  exact ⟨T', h', X', e', W, F.set W (by omega), st⟩
theorem stZf (X : Stand p l e R s m args below meth c T locs cells slots) (hx : p.tables.exec = Jvm.exec) (hZ : Z.Warmed39 s.vm) (eT : T.heap = h) (F : Arf Z h a .boolean n f) {j x : Int32} (hj : 0 ≤ j.toInt ∧ j.toInt < n) {g : JFrame} (hg : g.method = m) {rest : List Value} (hs : g.stack = .int x :: .int j :: .ref a :: rest) (hd : decode c.code g.pc = .ok (.bastore, 1)) :
    ∃ T' h', Stand p l e R s m args below meth c T' (locs ++ [⟨a, j.toNatClampNeg⟩]) cells slots ∧ T'.heap = h' ∧ Wr h h' a j.toNatClampNeg (.int (nar .boolean x)) ∧ Arf Z h' a .boolean n (updv f j.toNatClampNeg (.int (nar .boolean x))) ∧ ∀ target, Steps p.tables e below (T'.setTop { g with pc := g.pc + 1, stack := rest }) target → Steps p.tables e below (T.setTop g) target := by
  obtain ⟨cl, A, r1, r2, r3⟩ := id F
  obtain ⟨T', h', X', e', W, st⟩ := stZ X hx hZ eT A (j := j) (x := x) (inI r1 hj) hg hs hd
  have q := clampOf hj.1
  exact ⟨T', h', X', e', W, F.set W (by omega), st⟩
theorem stCf (X : Stand p l e R s m args below meth c T locs cells slots) (hx : p.tables.exec = Jvm.exec) (hZ : Z.Warmed39 s.vm) (eT : T.heap = h) (F : Arf Z h a .char n f) {j x : Int32} (hj : 0 ≤ j.toInt ∧ j.toInt < n) {g : JFrame} (hg : g.method = m) {rest : List Value} (hs : g.stack = .int x :: .int j :: .ref a :: rest) (hd : decode c.code g.pc = .ok (.castore, 1)) :
    ∃ T' h', Stand p l e R s m args below meth c T' (locs ++ [⟨a, j.toNatClampNeg⟩]) cells slots ∧ T'.heap = h' ∧ Wr h h' a j.toNatClampNeg (.int (nar .char x)) ∧ Arf Z h' a .char n (updv f j.toNatClampNeg (.int (nar .char x))) ∧ ∀ target, Steps p.tables e below (T'.setTop { g with pc := g.pc + 1, stack := rest }) target → Steps p.tables e below (T.setTop g) target := by
  obtain ⟨cl, A, r1, r2, r3⟩ := id F
  obtain ⟨T', h', X', e', W, st⟩ := stC X hx hZ eT A (j := j) (x := x) (inI r1 hj) hg hs hd
  have q := clampOf hj.1
  exact ⟨T', h', X', e', W, F.set W (by omega), st⟩
theorem stRf (X : Stand p l e R s m args below meth c T locs cells slots) (hx : p.tables.exec = Jvm.exec) (hZ : Z.Warmed39 s.vm) (eT : T.heap = h) (F : Arf Z h a ty n f) (hty : ty.isReference = true) {j : Int32} {v : Value} (hv : Sto Z h a v) (hj : 0 ≤ j.toInt ∧ j.toInt < n) {g : JFrame} (hg : g.method = m) {rest : List Value} (hs : g.stack = v :: .int j :: .ref a :: rest) (hd : decode c.code g.pc = .ok (.aastore, 1)) :
    ∃ T' h', Stand p l e R s m args below meth c T' (locs ++ [⟨a, j.toNatClampNeg⟩]) cells slots ∧ T'.heap = h' ∧ Wr h h' a j.toNatClampNeg v ∧ Arf Z h' a ty n (updv f j.toNatClampNeg v) ∧ ∀ target, Steps p.tables e below (T'.setTop { g with pc := g.pc + 1, stack := rest }) target → Steps p.tables e below (T.setTop g) target := by
  obtain ⟨cl, A, r1, r2, r3⟩ := id F
  obtain ⟨T', h', X', e', W, st⟩ := stR X hx hZ eT A (j := j) (v := v) (inI r1 hj) hty hv hg hs hd
  have q := clampOf hj.1
  exact ⟨T', h', X', e', W, F.set W (by omega), st⟩
theorem ldIf (X : Stand p l e R s m args below meth c T locs cells slots) (hx : p.tables.exec = Jvm.exec) (hZ : Z.Warmed39 s.vm) (eT : T.heap = h) (F : Arf Z h a .int n f) {j : Int32} {v : Value} (hj : 0 ≤ j.toInt ∧ j.toInt < n) (hv : f j.toNatClampNeg = v) {g : JFrame} (hg : g.method = m) {rest : List Value} (hs : g.stack = .int j :: .ref a :: rest) (hd : decode c.code g.pc = .ok (.iaload, 1)) :
    ∀ target, Steps p.tables e below (T.setTop { g with pc := g.pc + 1, stack := v :: rest }) target → Steps p.tables e below (T.setTop g) target := by
  obtain ⟨cl, A, r1, r2, r3⟩ := F
  have q := clampOf hj.1
  exact fun t => X.iaload hx (by rw [eT]; exact A.1) (State.isArrayOf_alike hZ.alike A.2.1) A.2.2 (inI r1 hj) (by rw [← hv]; exact r3 _ (by omega)) hg hs hd t
theorem ldJf (X : Stand p l e R s m args below meth c T locs cells slots) (hx : p.tables.exec = Jvm.exec) (hZ : Z.Warmed39 s.vm) (eT : T.heap = h) (F : Arf Z h a .long n f) {j : Int32} {v : Value} (hj : 0 ≤ j.toInt ∧ j.toInt < n) (hv : f j.toNatClampNeg = v) {g : JFrame} (hg : g.method = m) {rest : List Value} (hs : g.stack = .int j :: .ref a :: rest) (hd : decode c.code g.pc = .ok (.laload, 1)) :
    ∀ target, Steps p.tables e below (T.setTop { g with pc := g.pc + 1, stack := v :: rest }) target → Steps p.tables e below (T.setTop g) target := by
  obtain ⟨cl, A, r1, r2, r3⟩ := F
  have q := clampOf hj.1
  exact fun t => X.laload hx (by rw [eT]; exact A.1) (State.isArrayOf_alike hZ.alike A.2.1) A.2.2 (inI r1 hj) (by rw [← hv]; exact r3 _ (by omega)) hg hs hd t
theorem ldCf (X : Stand p l e R s m args below meth c T locs cells slots) (hx : p.tables.exec = Jvm.exec) (hZ : Z.Warmed39 s.vm) (eT : T.heap = h) (F : Arf Z h a .char n f) {j : Int32} {v : Value} (hj : 0 ≤ j.toInt ∧ j.toInt < n) (hv : f j.toNatClampNeg = v) {g : JFrame} (hg : g.method = m) {rest : List Value} (hs : g.stack = .int j :: .ref a :: rest) (hd : decode c.code g.pc = .ok (.caload, 1)) :
    ∀ target, Steps p.tables e below (T.setTop { g with pc := g.pc + 1, stack := v :: rest }) target → Steps p.tables e below (T.setTop g) target := by
  obtain ⟨cl, A, r1, r2, r3⟩ := F
  have q := clampOf hj.1
  exact fun t => X.caload hx (by rw [eT]; exact A.1) (State.isArrayOf_alike hZ.alike A.2.1) A.2.2 (inI r1 hj) (by rw [← hv]; exact r3 _ (by omega)) hg hs hd t
theorem ldBf (X : Stand p l e R s m args below meth c T locs cells slots) (hx : p.tables.exec = Jvm.exec) (hZ : Z.Warmed39 s.vm) (eT : T.heap = h) (F : Arf Z h a .byte n f) {j : Int32} {v : Value} (hj : 0 ≤ j.toInt ∧ j.toInt < n) (hv : f j.toNatClampNeg = v) {g : JFrame} (hg : g.method = m) {rest : List Value} (hs : g.stack = .int j :: .ref a :: rest) (hd : decode c.code g.pc = .ok (.baload, 1)) :
    ∀ target, Steps p.tables e below (T.setTop { g with pc := g.pc + 1, stack := v :: rest }) target → Steps p.tables e below (T.setTop g) target := by
  obtain ⟨cl, A, r1, r2, r3⟩ := F
  have q := clampOf hj.1
  exact fun t => X.baloadBytes hx (by rw [eT]; exact A.1) (State.isArrayOf_alike hZ.alike A.2.1) A.2.2 (inI r1 hj) (by rw [← hv]; exact r3 _ (by omega)) hg hs hd t
theorem ldZf (X : Stand p l e R s m args below meth c T locs cells slots) (hx : p.tables.exec = Jvm.exec) (hZ : Z.Warmed39 s.vm) (eT : T.heap = h) (F : Arf Z h a .boolean n f) {j : Int32} {v : Value} (hj : 0 ≤ j.toInt ∧ j.toInt < n) (hv : f j.toNatClampNeg = v) {g : JFrame} (hg : g.method = m) {rest : List Value} (hs : g.stack = .int j :: .ref a :: rest) (hd : decode c.code g.pc = .ok (.baload, 1)) :
    ∀ target, Steps p.tables e below (T.setTop { g with pc := g.pc + 1, stack := v :: rest }) target → Steps p.tables e below (T.setTop g) target := by
  obtain ⟨cl, A, r1, r2, r3⟩ := F
  have q := clampOf hj.1
  exact fun t => X.baloadBooleans hx (by rw [eT]; exact A.1) (State.isArrayOf_alike hZ.alike A.2.1) A.2.2 (inI r1 hj) (by rw [← hv]; exact r3 _ (by omega)) hg hs hd t
theorem ldRf (X : Stand p l e R s m args below meth c T locs cells slots) (hx : p.tables.exec = Jvm.exec) (hZ : Z.Warmed39 s.vm) (eT : T.heap = h) (F : Arf Z h a ty n f) (hty : ty.isReference = true) {j : Int32} {v : Value} (hj : 0 ≤ j.toInt ∧ j.toInt < n) (hv : f j.toNatClampNeg = v) {g : JFrame} (hg : g.method = m) {rest : List Value} (hs : g.stack = .int j :: .ref a :: rest) (hd : decode c.code g.pc = .ok (.aaload, 1)) :
    ∀ target, Steps p.tables e below (T.setTop { g with pc := g.pc + 1, stack := v :: rest }) target → Steps p.tables e below (T.setTop g) target := by
  obtain ⟨cl, A, r1, r2, r3⟩ := F
  have q := clampOf hj.1
  exact fun t => X.aaload hx (by rw [eT]; exact A.1) (State.isArrayOf_alike hZ.alike A.2.1) hty A.2.2 (inI r1 hj) (by rw [← hv]; exact r3 _ (by omega)) hg hs hd t
theorem lenf (X : Stand p l e R s m args below meth c T locs cells slots) (hx : p.tables.exec = Jvm.exec) (hZ : Z.Warmed39 s.vm) (eT : T.heap = h) (F : Arf Z h a ty n f) {z : Int32} (hz : n.toInt32 = z) {g : JFrame} (hg : g.method = m) {rest : List Value} (hs : g.stack = .ref a :: rest) (hd : decode c.code g.pc = .ok (.arraylength, 1)) :
    ∀ target, Steps p.tables e below (T.setTop { g with pc := g.pc + 1, stack := .int z :: rest }) target → Steps p.tables e below (T.setTop g) target := by
  obtain ⟨cl, A, r1, r2, r3⟩ := F
  subst hz r1
  exact fun t => X.arraylength hx (by rw [eT]; exact A.1) (State.isArrayOf_alike hZ.alike A.2.1) hg hs hd t
theorem toClamp {z : Int32} (q : 0 ≤ z.toInt) : z.toNatClampNeg.toInt32 = z := (back32 (fun h => by rw [Int32.lt_iff_toInt_lt] at h; have : (0 : Int32).toInt = 0 := rfl; omega)).1
theorem refCat {v : Value} (h : v.isRef = true) : v.category = 1 := by rcases ref_cases h with rfl | ⟨_, rfl⟩ <;> rfl
/-- an array that takes every object of the class C -/
def Tak (Z : State) (h : Heap) (a : Addr) (C : String) : Prop := ∃ (cell : Cell) (k kc : Class) (comp : ClassId) (t : FieldType), h[a]? = some cell ∧ Z.vm.classes[cell.cls]? = some k ∧ k.kind = .array comp t ∧ Z.vm.classes[comp]? = some kc ∧ Z.vm.findClass C = some comp
variable {C : String}
theorem Tak.ext (F : Tak Z h a C) (E : Ext h h') : Tak Z h' a C := by obtain ⟨cell, k, kc, comp, t, h1, r⟩ := F; exact ⟨cell, k, kc, comp, t, E.2 _ _ h1, r⟩
theorem Tak.wr (F : Tak Z h a C) (W : Wr h h' b sl v) : Tak Z h' a C := by
  obtain ⟨cell, k, kc, comp, t, h1, h2, r⟩ := F
  obtain ⟨c', e1, e2, -⟩ := wr_at W h1
  exact ⟨c', k, kc, comp, t, e1, by rw [e2]; exact h2, r⟩
theorem Tak.keep (F : Tak Z h a C) (K : Keep h h' ws) : Tak Z h' a C := by
  obtain ⟨cell, k, kc, comp, t, h1, h2, r⟩ := F
  obtain ⟨c', e1, e2, -⟩ := K.2.2 _ _ h1
  exact ⟨c', k, kc, comp, t, e1, by rw [e2]; exact h2, r⟩
theorem Tak.sto (F : Tak Z h a C) {y : Addr} (I : Ins Z h y C true) : Sto Z h a (.ref y) := by
  obtain ⟨cell, k, kc, comp, t, h1, h2, h3, h4, h5⟩ := F
  obtain ⟨cv, cT, g1, g2, g3⟩ := I
  cases h5.symm.trans g2
  simp only [Bool.and_eq_true, Bool.not_eq_true'] at g3
  have hv : ∃ kv, Z.vm.classes[cv.cls]? = some kv := by
    cases q : Z.vm.classes[cv.cls]? with
    | some kv => exact ⟨kv, rfl⟩
    | none =>
      by_cases e : cv.cls = comp
      · rw [e, h4] at q; cases q
      · have := g3.2
        simp [Vm.assignable, Vm.assignableAux, e, q] at this
  obtain ⟨kv, hkv⟩ := hv
  exact Or.inr ⟨cell, cv, k, kv, kc, comp, t, y, h1, h2, h3, h4, rfl, g1, g3.1, hkv, g3.2⟩
theorem Tak.of {cA : ClassId} {n : Int32} (A : Arr Z h a (newA cA ty n) ty) (O : Ovr Z cA C) : Tak Z h a C := by
  obtain ⟨k, comp, o1, o2, o3⟩ := O
  obtain ⟨kc, q, -⟩ := Vm.findClass_spec o3
  exact ⟨_, k, kc, comp, _, A.1, o1, o2, q, o3⟩
theorem Tak.ofA {cA : ClassId} {n : Int32} {ty' : FieldType} (A : Arr Z h a (newA cA ty n) ty) (O : OvrA Z cA ty' C) : Tak Z h a C := by
  obtain ⟨k, comp, o1, o2, o3⟩ := O
  obtain ⟨kc, q, -⟩ := Vm.findClass_spec o3
  exact ⟨_, k, kc, comp, _, A.1, o1, o2, q, o3⟩
theorem own_eqI {t : Term} {k : Int32} {args : Array Value} {first s : State} {o : Option Outcome} {idx : List Nat} (h : (Cond.eq t (.int k)).value args first o s idx = some true) : t.eval args first o idx s = some (.int k) := by
  simp only [Cond.value, Term.eval] at h
  cases ht : t.eval args first o idx s with
  | none => simp [ht] at h
  | some x => cases x <;> simp [ht] at h ⊢ <;> exact h
end Own
end Jvm.RoadKit
namespace Jvm.Pilot.@@N@@
open Jvm Jvm.ClassFile Sem Op Lib Jvm.Free Jvm.Stand Jvm.LawKit Jvm.RoadKit Bundle Jvm.Pilot.@@N@@.Jvm.D
theorem pd_0 : parseMethodDescriptor "(I)I" = some ⟨[.int], some .int⟩ := by decide +kernel
theorem pd_1 : parseMethodDescriptor "(IIJ)V" = some ⟨[.int, .int, .long], none⟩ := by decide +kernel
theorem pd_2 : parseMethodDescriptor "()V" = some ⟨[], none⟩ := by decide +kernel
theorem pd_3 : parseMethodDescriptor "(JJJJJ)I" = some ⟨[.long, .long, .long, .long, .long], some .int⟩ := by decide +kernel
theorem pd_4 : parseMethodDescriptor "()I" = some ⟨[], some .int⟩ := by decide +kernel
theorem pd_5 : parseMethodDescriptor "(II)J" = some ⟨[.int, .int], some .long⟩ := by decide +kernel
def oI (n : Nat) : Int32 := n.toInt32
theorem oI_t {n : Nat} (h : n < 1000) : (oI n).toInt = n := len_toInt (by omega)
theorem oI_c {n : Nat} (h : n < 1000) : (oI n).toNatClampNeg = n := by
  show (oI n).toInt.toNat = n
  rw [oI_t h]; rfl
theorem oI_add {a b : Nat} (h : a + b < 1000) : oI a + oI b = oI (a + b) := by
  have e := c_iadd (oI a) (oI b)
  rw [oI_t (by omega), oI_t (by omega)] at e
  have r := rng32 (oI a + oI b)
  rw [← Int32.toInt_inj, oI_t h]
  omega
theorem own_off {r : Nat} (h : r < 100) : (oI r &&& (4095 : Int32)) * (5 : Int32) = oI (5 * r) := by
  have e1 := c_mask (oI r) 4095 12 (by decide) (by decide)
  have e2 := c_imul (oI r &&& 4095) 5
  have k5 : (5 : Int32).toInt = 5 := rfl
  rw [oI_t (by omega)] at e1
  have e1' : (oI r &&& (4095 : Int32)).toInt = r := by omega
  have r1 := rng32 ((oI r &&& 4095) * 5)
  rw [← Int32.toInt_inj, oI_t (by omega)]
  rw [k5, e1'] at e2
  omega
theorem own_page {r : Nat} (h : r < 100) : (((oI r).toUInt32 >>> ((12 : Int32) &&& 31).toUInt32).toInt32) = 0 := by
  have e1 := c_iushr (oI r) 12 12 (by decide) (by decide)
  rw [oI_t (by omega)] at e1
  have k0 : (0 : Int32).toInt = 0 := rfl
  rw [← Int32.toInt_inj, k0]
  omega
def own_add (fa : Nat → Value) (n : Nat) (a b c d e : Int64) : Nat → Value := updv (updv (updv (updv (updv fa (5 * n + 0) (.long a)) (5 * n + 1) (.long b)) (5 * n + 2) (.long c)) (5 * n + 3) (.long d)) (5 * n + 4) (.long e)
def own_sel (a b c d e : Int64) (i : Nat) : Int64 := match i with | 0 => a | 1 => b | 2 => c | 3 => d | _ => e
theorem own_5 {j : Nat} (h : j < 5) : j = 0 ∨ j = 1 ∨ j = 2 ∨ j = 3 ∨ j = 4 := by omega
theorem own_addeq (fa : Nat → Value) (n : Nat) (a b c d e : Int64) {f : Nat} (hf : f < 5) : own_add fa n a b c d e (5 * n + f) = .long (own_sel a b c d e f) := by
  rcases own_5 hf with rfl | rfl | rfl | rfl | rfl <;> simp [own_add, Jvm.RoadKit.updv, own_sel]
theorem own_addne (fa : Nat → Value) (n : Nat) (a b c d e : Int64) {i : Nat} (hf : i < 5 * n ∨ 5 * n + 5 ≤ i) : own_add fa n a b c d e i = fa i := by
  unfold own_add Jvm.RoadKit.updv
  rw [if_neg (by omega), if_neg (by omega), if_neg (by omega), if_neg (by omega), if_neg (by omega)]
theorem own_dec {r : Nat} (h : r < 100) : oI (r + 1) - (1 : Int32) = oI r := by
  have e := c_isub (oI (r + 1)) 1
  have k : (1 : Int32).toInt = 1 := rfl
  rw [oI_t (by omega)] at e
  have q := rng32 (oI (r + 1) - 1)
  rw [← Int32.toInt_inj, oI_t (by omega)]
  omega
theorem own_unused {r : Nat} (h : r < 100) : ¬ ((((oI r - (1 : Int32)) >>> ((12 : Int32) &&& 31)) + (2 : Int32)) < (1 : Int32)) := by
  have e := c_isub (oI r) 1
  have k : (1 : Int32).toInt = 1 := rfl
  have k2 : (2 : Int32).toInt = 2 := rfl
  rw [oI_t (by omega)] at e
  have q := rng32 (oI r - 1)
  have e2 := c_ishr (oI r - 1) 12 12 (by decide)
  have e3 := c_iadd ((oI r - 1) >>> ((12 : Int32) &&& 31)) 2
  have q3 := rng32 (((oI r - 1) >>> ((12 : Int32) &&& 31)) + 2)
  rw [Int32.lt_iff_toInt_lt]
  omega
theorem own_kk (x : Int32) {k : Int32} (h : ((1 : Int32) + (x &&& (1 : Int32))) + (((x.toUInt32 >>> ((1 : Int32) &&& 31).toUInt32).toInt32) &&& (1 : Int32)) = k) : k = 1 ∨ k = 2 ∨ k = 3 := by
  have e1 := c_mask x 1 1 (by decide) (by decide)
  have e2 := c_mask ((x.toUInt32 >>> ((1 : Int32) &&& 31).toUInt32).toInt32) 1 1 (by decide) (by decide)
  have e3 := c_iadd 1 (x &&& 1)
  have e4 := c_iadd ((1 : Int32) + (x &&& (1 : Int32))) (((x.toUInt32 >>> ((1 : Int32) &&& 31).toUInt32).toInt32) &&& (1 : Int32))
  rw [h] at e4
  have k1 : (1 : Int32).toInt = 1 := rfl
  have k2 : (2 : Int32).toInt = 2 := rfl
  have k3 : (3 : Int32).toInt = 3 := rfl
  have r1 := rng32 ((1 : Int32) + (x &&& (1 : Int32)))
  have r2 := rng32 k
  rw [← Int32.toInt_inj, ← Int32.toInt_inj, ← Int32.toInt_inj, k1, k2, k3]
  omega
theorem own_ff (x : Int32) {g : Int32} (h : (((x.toUInt32 >>> ((2 : Int32) &&& 31).toUInt32).toInt32) &&& (2147483647 : Int32)) % (5 : Int32) = g) : ∃ f : Nat, f < 5 ∧ g = oI f := by
  have e1 := c_mask ((x.toUInt32 >>> ((2 : Int32) &&& 31).toUInt32).toInt32) 2147483647 31 (by decide) (by decide)
  have e2 := c_irem (((x.toUInt32 >>> ((2 : Int32) &&& 31).toUInt32).toInt32) &&& 2147483647) 5 5 rfl
  rw [h] at e2
  refine ⟨g.toInt.toNat, by omega, ?_⟩
  rw [← Int32.toInt_inj, oI_t (by omega)]
  omega
theorem own_mod5 {r f : Nat} (hr : r < 5) (hf : f < 5) {z : Int32} (hz : z = oI r) : (z + oI f) % (5 : Int32) = oI ((r + f) % 5) := by
  subst hz
  rw [oI_add (by omega)]
  have e := c_irem (oI (r + f)) 5 5 rfl
  rw [oI_t (by omega)] at e
  rw [← Int32.toInt_inj, oI_t (by omega)]
  omega
theorem own_4f {f : Nat} (hf : f < 5) : (4 : Int32) - oI f = oI (4 - f) := by
  have e := c_isub 4 (oI f)
  have k : (4 : Int32).toInt = 4 := rfl
  rw [oI_t (by omega)] at e
  have r := rng32 (4 - oI f)
  rw [← Int32.toInt_inj, oI_t (by omega)]
  omega
theorem own_oin {n m : Nat} (h : n < m) (hm : m < 1000) : 0 ≤ (oI n).toInt ∧ (oI n).toInt < (m : Nat) := by rw [oI_t (by omega)]; omega
theorem d4_0 : decode prog_27_method_8_code 0 = .ok (.iload_n 0, 1) := by decide +kernel
theorem d4_1 : decode prog_27_method_8_code 1 = .ok (.sipush 4095, 3) := by decide +kernel
theorem d4_4 : decode prog_27_method_8_code 4 = .ok (.iand, 1) := by decide +kernel
theorem d4_5 : decode prog_27_method_8_code 5 = .ok (.iconst 5, 1) := by decide +kernel
theorem d4_6 : decode prog_27_method_8_code 6 = .ok (.imul, 1) := by decide +kernel
theorem d4_7 : decode prog_27_method_8_code 7 = .ok (.ireturn, 1) := by decide +kernel
theorem pn_4 : plainName "com/example/interval/interval/service/SlotTable" = true := by first | (simp [plainName, overriddenIn]; done) | decide +kernel
def Qrm4 (Z : State) (r : Nat) (h0 : Heap) (n0 : Nat) (v : Option Value) (h : Heap) (L : List Loc) : Prop := v = some (.int (oI (5 * r))) ∧ Fr n0 L ∧ h = h0
set_option maxRecDepth 65536 in
set_option maxHeartbeats 40000000 in
theorem rm4 (l : Launch) (Z : State) (a0 : Array Value) (hw : ∀ d ∈ tables_1, d.before a0 Z = true) (ws : List Jvm.Cond) (r : Nat) (h0 : Heap) (n0 : Nat) (Z0 : n0 ≤ h0.size) (hr : r < 100) :
    MetFree l (⟨"com/example/interval/interval/service/SlotTable", "offset", "(I)I"⟩ : MethodName) (head1 (Jvm.Cond.code (⟨"com/example/interval/interval/service/SlotTable", "offset", "(I)I"⟩ : MethodName) prog_27_method_8_code 1 (some .int) :: ws) ({ frames := 0, cells := 0, slots := 0, locals := 0 } : Room)) (fun a U => a = #[(.int (oI r))] ∧ Z.Warmed39 U.vm ∧ U.heap = h0) (fun _ _ _ _ _ => True) (fun _ U o U' => ∃ v L, o = .returned v ∧ Qrm4 Z r h0 n0 v U'.heap L ∧ FrameEnd U o U' L ({ frames := 0, cells := 0, slots := 0, locals := 0 } : Room).cells ({ frames := 0, cells := 0, slots := 0, locals := 0 } : Room).slots) := by
  refine MetFree.of_bodySF (plainFor_of_name pn_4) hisR ?_
  intro p e s m args below meth c s₁ Bd hml0 hP hK
  obtain ⟨rfl, hZ, hh⟩ := hP
  have hx := Bd.exec
  have hby := Bd.bytes
  have hml : c.maxLocals = 1 := hml0
  have hown : s.vm.findClass "com/example/interval/interval/service/SlotTable" = some m.cls := findClass_of_methodNamed Bd.named
  have hnm := (name_of_methodNamed Bd.named Bd.method).1
  have X0 : Stand p l e ({ frames := 0, cells := 0, slots := 0, locals := 0 } : Room) s m #[(.int (oI r))] below meth c s₁ [] 0 0 := Stand.of_body Bd
  have e0 : s₁.heap = h0 := by rw [← hh, Bd.state]; rfl
  have N0 := Fr.nil n0
  have ZZ := Z0
  show Go p e below s (Qrm4 Z r h0 n0) 0 0 (s₁.setTop (entryFrame m #[(.int (oI r))] 1))
  generalize hQQ : (Qrm4 Z r h0 n0) = QQ
  refine gs (fun t k => castTop (g' := (mkF m 0 #[.val (.int (oI r))] [])) (by first | (simp [entryFrame, mkF, argsToLocals, Value.category, maxLocals]; done) | rfl) k) ?_
  show Go p e below s QQ 0 0 (s₁.setTop (mkF m 0 #[.val (.int (oI r))] []))
  refine gs (fun t => XS.iloadN X0.here hx rfl (hb hby d4_0) rfl) ?_
  show Go p e below s QQ 0 0 (s₁.setTop (mkF m 1 #[.val (.int (oI r))] [(.int (oI r))]))
  refine gs (fun t => XS.sipush X0.here hx rfl (hb hby d4_1)) ?_
  show Go p e below s QQ 0 0 (s₁.setTop (mkF m 4 #[.val (.int (oI r))] [(.int (4095 : Int32)), (.int (oI r))]))
  refine gs (fun t => XS.iand X0.here hx rfl (hb hby d4_4) rfl) ?_
  show Go p e below s QQ 0 0 (s₁.setTop (mkF m 5 #[.val (.int (oI r))] [(.int ((oI r) &&& (4095 : Int32)))]))
  refine gs (fun t => XS.iconst X0.here hx rfl (hb hby d4_5)) ?_
  show Go p e below s QQ 0 0 (s₁.setTop (mkF m 6 #[.val (.int (oI r))] [(.int (5 : Int32)), (.int ((oI r) &&& (4095 : Int32)))]))
  refine gs (fun t => XS.imul X0.here hx rfl (hb hby d4_6) rfl) ?_
  show Go p e below s QQ 0 0 (s₁.setTop (mkF m 7 #[.val (.int (oI r))] [(.int (((oI r) &&& (4095 : Int32)) * (5 : Int32)))]))
  rw [show (((oI r) &&& (4095 : Int32)) * (5 : Int32)) = (oI (5 * r)) from own_off hr]
  show Go p e below s QQ 0 0 (s₁.setTop (mkF m 7 #[.val (.int (oI r))] [(.int (oI (5 * r)))]))
  exact goI X0 hx Bd.notSynchronized Bd.returns (hb hby d4_7) (by rw [← hQQ, e0]; exact ⟨rfl, N0, rfl⟩) (by decide) (by decide)
theorem d5_0 : decode prog_27_method_4_code 0 = .ok (.aload_n 0, 1) := by decide +kernel
theorem d5_1 : decode prog_27_method_4_code 1 = .ok (.getfield 11, 3) := by decide +kernel
theorem d5_4 : decode prog_27_method_4_code 4 = .ok (.iload_n 1, 1) := by decide +kernel
theorem d5_5 : decode prog_27_method_4_code 5 = .ok (.bipush 12, 2) := by decide +kernel
theorem d5_7 : decode prog_27_method_4_code 7 = .ok (.iushr, 1) := by decide +kernel
theorem d5_8 : decode prog_27_method_4_code 8 = .ok (.aaload, 1) := by decide +kernel
theorem d5_9 : decode prog_27_method_4_code 9 = .ok (.iload_n 1, 1) := by decide +kernel
theorem d5_10 : decode prog_27_method_4_code 10 = .ok (.invokestatic 19, 3) := by decide +kernel
theorem d5_13 : decode prog_27_method_4_code 13 = .ok (.iload_n 2, 1) := by decide +kernel
theorem d5_14 : decode prog_27_method_4_code 14 = .ok (.iadd, 1) := by decide +kernel
theorem d5_15 : decode prog_27_method_4_code 15 = .ok (.lload_n 3, 1) := by decide +kernel
theorem d5_16 : decode prog_27_method_4_code 16 = .ok (.lastore, 1) := by decide +kernel
theorem d5_17 : decode prog_27_method_4_code 17 = .ok (.return_, 1) := by decide +kernel
theorem pn_5 : plainName "com/example/interval/interval/service/SlotTable" = true := by first | (simp [plainName, overriddenIn]; done) | decide +kernel
def Qrm5 (Z : State) (r0 : Addr) (p3 : Int64) (r : Nat) (f : Nat) (pg : Addr) (pa : Addr) (fpg : Nat → Value) (fa : Nat → Value) (h0 : Heap) (n0 : Nat) (v : Option Value) (h : Heap) (L : List Loc) : Prop := v = none ∧ Fr n0 L ∧ Keep h0 h [pa] ∧ Arf Z h pa .long 40 (updv fa (5 * r + f) (.long p3))
set_option maxRecDepth 65536 in
set_option maxHeartbeats 40000000 in
theorem rm5 (l : Launch) (Z : State) (a0 : Array Value) (hw : ∀ d ∈ tables_1, d.before a0 Z = true) (ws : List Jvm.Cond) (r0 : Addr) (p3 : Int64) (r : Nat) (f : Nat) (pg : Addr) (pa : Addr) (fpg : Nat → Value) (fa : Nat → Value) (h0 : Heap) (n0 : Nat) (Z0 : n0 ≤ h0.size) (F_pages_r0 : Fld Z h0 r0 "com/example/interval/interval/service/SlotTable" "pages" "[[J" (.ref pg)) (V_pg : Arf Z h0 pg (.array .long) 1 fpg) (hpg : fpg 0 = .ref pa) (V_pa : Arf Z h0 pa .long 40 fa) (ge_pa : n0 ≤ pa) (ne_r0_pg : r0 ≠ pg) (ne_r0_pa : r0 ≠ pa) (ne_pg_pa : pg ≠ pa) (hr : r < 100) (hf : 5 * r + f < 40) :
    MetFree l (⟨"com/example/interval/interval/service/SlotTable", "set", "(IIJ)V"⟩ : MethodName) (head1 (Jvm.Cond.code (⟨"com/example/interval/interval/service/SlotTable", "set", "(IIJ)V"⟩ : MethodName) prog_27_method_4_code 5 none :: ws) ({ frames := 1, cells := 0, slots := 0, locals := 13 } : Room)) (fun a U => a = #[(.ref r0), (.int (oI r)), (.int (oI f)), (.long p3)] ∧ Z.Warmed39 U.vm ∧ U.heap = h0) (fun _ _ _ _ _ => True) (fun _ U o U' => ∃ v L, o = .returned v ∧ Qrm5 Z r0 p3 r f pg pa fpg fa h0 n0 v U'.heap L ∧ FrameEnd U o U' L ({ frames := 1, cells := 0, slots := 0, locals := 13 } : Room).cells ({ frames := 1, cells := 0, slots := 0, locals := 13 } : Room).slots) := by
  refine MetFree.of_bodySF (plainFor_of_name pn_5) hisR ?_
  intro p e s m args below meth c s₁ Bd hml0 hP hK
  obtain ⟨rfl, hZ, hh⟩ := hP
  have hx := Bd.exec
  have hby := Bd.bytes
  have hml : c.maxLocals = 5 := hml0
  have hown : s.vm.findClass "com/example/interval/interval/service/SlotTable" = some m.cls := findClass_of_methodNamed Bd.named
  have hnm := (name_of_methodNamed Bd.named Bd.method).1
  have X0 : Stand p l e ({ frames := 1, cells := 0, slots := 0, locals := 13 } : Room) s m #[(.ref r0), (.int (oI r)), (.int (oI f)), (.long p3)] below meth c s₁ [] 0 0 := Stand.of_body Bd
  have e0 : s₁.heap = h0 := by rw [← hh, Bd.state]; rfl
  have N0 := Fr.nil n0
  have ZZ := Z0
  have KK : Keep h0 h0 [pa] := Keep.refl h0 _
  show Go p e below s (Qrm5 Z r0 p3 r f pg pa fpg fa h0 n0) 0 0 (s₁.setTop (entryFrame m #[(.ref r0), (.int (oI r)), (.int (oI f)), (.long p3)] 5))
  generalize hQQ : (Qrm5 Z r0 p3 r f pg pa fpg fa h0 n0) = QQ
  refine gs (fun t k => castTop (g' := (mkF m 0 #[.val (.ref r0), .val (.int (oI r)), .val (.int (oI f)), .val (.long p3), .second] [])) (by first | (simp [entryFrame, mkF, argsToLocals, Value.category, maxLocals]; done) | rfl) k) ?_
  show Go p e below s QQ 0 0 (s₁.setTop (mkF m 0 #[.val (.ref r0), .val (.int (oI r)), .val (.int (oI f)), .val (.long p3), .second] []))
  refine gs (fun t => XS.aloadN X0.here hx rfl (hb hby d5_0) rfl rfl) ?_
  show Go p e below s QQ 0 0 (s₁.setTop (mkF m 1 #[.val (.ref r0), .val (.int (oI r)), .val (.int (oI f)), .val (.long p3), .second] [(.ref r0)]))
  obtain ⟨T1, X1, e1, st1⟩ := getF X0 hx hZ hown (host := "") (Or.inl (hw _ (List.mem_of_getElem? (i := 14) rfl))) Via.refl e0 F_pages_r0 (g := (mkF m 1 #[.val (.ref r0), .val (.int (oI r)), .val (.int (oI f)), .val (.long p3), .second] [(.ref r0)])) rfl rfl (hb hby d5_1)
  refine gs st1 ?_
  show Go p e below s QQ 0 0 (T1.setTop (mkF m 4 #[.val (.ref r0), .val (.int (oI r)), .val (.int (oI f)), .val (.long p3), .second] [(.ref pg)]))
  refine gs (fun t => XS.iloadN X1.here hx rfl (hb hby d5_4) rfl) ?_
  show Go p e below s QQ 0 0 (T1.setTop (mkF m 5 #[.val (.ref r0), .val (.int (oI r)), .val (.int (oI f)), .val (.long p3), .second] [(.int (oI r)), (.ref pg)]))
  refine gs (fun t => XS.bipush X1.here hx rfl (hb hby d5_5)) ?_
  show Go p e below s QQ 0 0 (T1.setTop (mkF m 7 #[.val (.ref r0), .val (.int (oI r)), .val (.int (oI f)), .val (.long p3), .second] [(.int (12 : Int32)), (.int (oI r)), (.ref pg)]))
  refine gs (fun t => XS.iushr X1.here hx rfl (hb hby d5_7) rfl) ?_
  show Go p e below s QQ 0 0 (T1.setTop (mkF m 8 #[.val (.ref r0), .val (.int (oI r)), .val (.int (oI f)), .val (.long p3), .second] [(.int (((oI r).toUInt32 >>> ((12 : Int32) &&& 31).toUInt32).toInt32)), (.ref pg)]))
  rw [show (((oI r).toUInt32 >>> ((12 : Int32) &&& 31).toUInt32).toInt32) = (0 : Int32) from own_page hr]
  show Go p e below s QQ 0 0 (T1.setTop (mkF m 8 #[.val (.ref r0), .val (.int (oI r)), .val (.int (oI f)), .val (.long p3), .second] [(.int (0 : Int32)), (.ref pg)]))
  refine gs (fun t => ldRf X1 hx hZ e1 V_pg rfl (j := (0 : Int32)) (v := (.ref pa)) (by decide) hpg (g := (mkF m 8 #[.val (.ref r0), .val (.int (oI r)), .val (.int (oI f)), .val (.long p3), .second] [(.int (0 : Int32)), (.ref pg)])) rfl rfl (hb hby d5_8) t) ?_
  show Go p e below s QQ 0 0 (T1.setTop (mkF m 9 #[.val (.ref r0), .val (.int (oI r)), .val (.int (oI f)), .val (.long p3), .second] [(.ref pa)]))
  refine gs (fun t => XS.iloadN X1.here hx rfl (hb hby d5_9) rfl) ?_
  show Go p e below s QQ 0 0 (T1.setTop (mkF m 10 #[.val (.ref r0), .val (.int (oI r)), .val (.int (oI f)), .val (.long p3), .second] [(.int (oI r)), (.ref pa)]))
  obtain ⟨_, _, ⟨T2, L2, k2, n2⟩, -, X2, ⟨Lc2, hQ2, l2, y2, z2⟩, st2⟩ := Jvm.LawKit.callS X1 hx (y := (⟨"com/example/interval/interval/service/SlotTable", "offset", "(I)I"⟩ : MethodName)) hown (mvT hZ (hw _ (List.mem_of_getElem? (i := 23) rfl))) (mvT hZ (hw _ (List.mem_of_getElem? (i := 24) rfl))) (mvT hZ (hw _ (List.mem_of_getElem? (i := 4) rfl))) (mvT hZ (hw _ (List.mem_of_getElem? (i := 25) rfl))) (by decide) (backOf (W := 1) (rm4 l Z a0 hw [] r h0 n0 ZZ hr) hZ (hw _ (List.mem_of_getElem? (i := 25) rfl)) (hw _ (List.mem_of_getElem? (i := 4) rfl)) (by decide) (by decide)) (g := (mkF m 10 #[.val (.ref r0), .val (.int (oI r)), .val (.int (oI f)), .val (.long p3), .second] [(.int (oI r)), (.ref pa)])) rfl (by rw [hml]; rfl) (argsL := [(.int (oI r))]) (rest := [(.ref pa)]) (lenOf pd_0 rfl) rfl (by show 2 * 0 + _ ≤ _; exact Nat.le_of_eq rfl) (hb hby d5_10) (fun _ _ => ⟨rfl, e1, (by decide : 0 + 0 ≤ _), (by decide : 0 + 0 ≤ _)⟩)
  dsimp only [Pt.U, Pt.locs, Pt.cells, Pt.slots] at X2 l2 y2 z2 st2 hQ2
  subst l2 y2 z2
  obtain ⟨rfl, N2q, e2⟩ := hQ2
  replace N0 := Fr.app N0 N2q
  refine gs st2 ?_
  show Go p e below s QQ 0 0 (T2.setTop (mkF m 13 #[.val (.ref r0), .val (.int (oI r)), .val (.int (oI f)), .val (.long p3), .second] [(.int (oI (5 * r))), (.ref pa)]))
  refine gs (fun t => XS.iloadN X2.here hx rfl (hb hby d5_13) rfl) ?_
  show Go p e below s QQ 0 0 (T2.setTop (mkF m 14 #[.val (.ref r0), .val (.int (oI r)), .val (.int (oI f)), .val (.long p3), .second] [(.int (oI f)), (.int (oI (5 * r))), (.ref pa)]))
  refine gs (fun t => XS.iadd X2.here hx rfl (hb hby d5_14) rfl) ?_
  show Go p e below s QQ 0 0 (T2.setTop (mkF m 15 #[.val (.ref r0), .val (.int (oI r)), .val (.int (oI f)), .val (.long p3), .second] [(.int ((oI (5 * r)) + (oI f))), (.ref pa)]))
  rw [show ((oI (5 * r)) + (oI f)) = (oI (5 * r + f)) from oI_add (by omega)]
  show Go p e below s QQ 0 0 (T2.setTop (mkF m 15 #[.val (.ref r0), .val (.int (oI r)), .val (.int (oI f)), .val (.long p3), .second] [(.int (oI (5 * r + f))), (.ref pa)]))
  refine gs (fun t => XS.lloadN X2.here hx rfl (hb hby d5_15) rfl) ?_
  show Go p e below s QQ 0 0 (T2.setTop (mkF m 16 #[.val (.ref r0), .val (.int (oI r)), .val (.int (oI f)), .val (.long p3), .second] [(.long p3), (.int (oI (5 * r + f))), (.ref pa)]))
  have hi := oI_t (n := 5 * r + f) (by omega)
  obtain ⟨T3, h3, X3, e3, W3, V3, st3⟩ := stJf X2 hx hZ e2 V_pa (j := (oI (5 * r + f))) ⟨by omega, by omega⟩ (g := (mkF m 16 #[.val (.ref r0), .val (.int (oI r)), .val (.int (oI f)), .val (.long p3), .second] [(.long p3), (.int (oI (5 * r + f))), (.ref pa)])) rfl rfl (hb hby d5_16)
  replace N0 := Fr.snoc X3 N0 ge_pa
  refine gs st3 ?_
  show Go p e below s QQ 0 0 (T3.setTop (mkF m 17 #[.val (.ref r0), .val (.int (oI r)), .val (.int (oI f)), .val (.long p3), .second] []))
  replace F_pages_r0 := F_pages_r0.other W3 (Or.inl ne_r0_pa)
  replace V_pg := V_pg.other W3 ne_pg_pa
  replace ZZ : n0 ≤ h3.size := by rw [W3.size]; exact ZZ
  replace KK := KK.wr W3 (Or.inl (by simp))
  replace V_pa : Arf Z h3 pa .long 40 (updv fa (oI (5 * r + f)).toNatClampNeg (.long p3)) := V3
  rw [oI_c (by omega)] at V_pa
  exact goV X3 hx Bd.notSynchronized Bd.returns (hb hby d5_17) (by rw [← hQQ, e3]; exact ⟨rfl, N0, KK, V_pa⟩) (by decide) (by decide)
theorem d8_0 : decode prog_27_method_3_code 0 = .ok (.aload_n 0, 1) := by decide +kernel
theorem d8_1 : decode prog_27_method_3_code 1 = .ok (.getfield 11, 3) := by decide +kernel
theorem d8_4 : decode prog_27_method_3_code 4 = .ok (.iload_n 1, 1) := by decide +kernel
theorem d8_5 : decode prog_27_method_3_code 5 = .ok (.bipush 12, 2) := by decide +kernel
theorem d8_7 : decode prog_27_method_3_code 7 = .ok (.iushr, 1) := by decide +kernel
theorem d8_8 : decode prog_27_method_3_code 8 = .ok (.aaload, 1) := by decide +kernel
theorem d8_9 : decode prog_27_method_3_code 9 = .ok (.iload_n 1, 1) := by decide +kernel
theorem d8_10 : decode prog_27_method_3_code 10 = .ok (.invokestatic 19, 3) := by decide +kernel
theorem d8_13 : decode prog_27_method_3_code 13 = .ok (.iload_n 2, 1) := by decide +kernel
theorem d8_14 : decode prog_27_method_3_code 14 = .ok (.iadd, 1) := by decide +kernel
theorem d8_15 : decode prog_27_method_3_code 15 = .ok (.laload, 1) := by decide +kernel
theorem d8_16 : decode prog_27_method_3_code 16 = .ok (.lreturn, 1) := by decide +kernel
theorem pn_8 : plainName "com/example/interval/interval/service/SlotTable" = true := by first | (simp [plainName, overriddenIn]; done) | decide +kernel
def Qrm8 (Z : State) (r0 : Addr) (r : Nat) (f : Nat) (pg : Addr) (pa : Addr) (fpg : Nat → Value) (fa : Nat → Value) (vv : Int64) (h0 : Heap) (n0 : Nat) (v : Option Value) (h : Heap) (L : List Loc) : Prop := v = some (.long vv) ∧ Fr n0 L ∧ h = h0
set_option maxRecDepth 65536 in
set_option maxHeartbeats 40000000 in
theorem rm8 (l : Launch) (Z : State) (a0 : Array Value) (hw : ∀ d ∈ tables_1, d.before a0 Z = true) (ws : List Jvm.Cond) (r0 : Addr) (r : Nat) (f : Nat) (pg : Addr) (pa : Addr) (fpg : Nat → Value) (fa : Nat → Value) (vv : Int64) (h0 : Heap) (n0 : Nat) (Z0 : n0 ≤ h0.size) (F_pages_r0 : Fld Z h0 r0 "com/example/interval/interval/service/SlotTable" "pages" "[[J" (.ref pg)) (V_pg : Arf Z h0 pg (.array .long) 1 fpg) (hpg : fpg 0 = .ref pa) (V_pa : Arf Z h0 pa .long 40 fa) (hr : r < 100) (hf : 5 * r + f < 40) (hvv : fa (5 * r + f) = .long vv) :
    MetFree l (⟨"com/example/interval/interval/service/SlotTable", "get", "(II)J"⟩ : MethodName) (head1 (Jvm.Cond.code (⟨"com/example/interval/interval/service/SlotTable", "get", "(II)J"⟩ : MethodName) prog_27_method_3_code 3 (some .long) :: ws) ({ frames := 1, cells := 0, slots := 0, locals := 13 } : Room)) (fun a U => a = #[(.ref r0), (.int (oI r)), (.int (oI f))] ∧ Z.Warmed39 U.vm ∧ U.heap = h0) (fun _ _ _ _ _ => True) (fun _ U o U' => ∃ v L, o = .returned v ∧ Qrm8 Z r0 r f pg pa fpg fa vv h0 n0 v U'.heap L ∧ FrameEnd U o U' L ({ frames := 1, cells := 0, slots := 0, locals := 13 } : Room).cells ({ frames := 1, cells := 0, slots := 0, locals := 13 } : Room).slots) := by
  refine MetFree.of_bodySF (plainFor_of_name pn_8) hisR ?_
  intro p e s m args below meth c s₁ Bd hml0 hP hK
  obtain ⟨rfl, hZ, hh⟩ := hP
  have hx := Bd.exec
  have hby := Bd.bytes
  have hml : c.maxLocals = 3 := hml0
  have hown : s.vm.findClass "com/example/interval/interval/service/SlotTable" = some m.cls := findClass_of_methodNamed Bd.named
  have hnm := (name_of_methodNamed Bd.named Bd.method).1
  have X0 : Stand p l e ({ frames := 1, cells := 0, slots := 0, locals := 13 } : Room) s m #[(.ref r0), (.int (oI r)), (.int (oI f))] below meth c s₁ [] 0 0 := Stand.of_body Bd
  have e0 : s₁.heap = h0 := by rw [← hh, Bd.state]; rfl
  have N0 := Fr.nil n0
  have ZZ := Z0
  show Go p e below s (Qrm8 Z r0 r f pg pa fpg fa vv h0 n0) 0 0 (s₁.setTop (entryFrame m #[(.ref r0), (.int (oI r)), (.int (oI f))] 3))
  generalize hQQ : (Qrm8 Z r0 r f pg pa fpg fa vv h0 n0) = QQ
  refine gs (fun t k => castTop (g' := (mkF m 0 #[.val (.ref r0), .val (.int (oI r)), .val (.int (oI f))] [])) (by first | (simp [entryFrame, mkF, argsToLocals, Value.category, maxLocals]; done) | rfl) k) ?_
  show Go p e below s QQ 0 0 (s₁.setTop (mkF m 0 #[.val (.ref r0), .val (.int (oI r)), .val (.int (oI f))] []))
  refine gs (fun t => XS.aloadN X0.here hx rfl (hb hby d8_0) rfl rfl) ?_
  show Go p e below s QQ 0 0 (s₁.setTop (mkF m 1 #[.val (.ref r0), .val (.int (oI r)), .val (.int (oI f))] [(.ref r0)]))
  obtain ⟨T4, X4, e4, st4⟩ := getF X0 hx hZ hown (host := "") (Or.inl (hw _ (List.mem_of_getElem? (i := 14) rfl))) Via.refl e0 F_pages_r0 (g := (mkF m 1 #[.val (.ref r0), .val (.int (oI r)), .val (.int (oI f))] [(.ref r0)])) rfl rfl (hb hby d8_1)
  refine gs st4 ?_
  show Go p e below s QQ 0 0 (T4.setTop (mkF m 4 #[.val (.ref r0), .val (.int (oI r)), .val (.int (oI f))] [(.ref pg)]))
  refine gs (fun t => XS.iloadN X4.here hx rfl (hb hby d8_4) rfl) ?_
  show Go p e below s QQ 0 0 (T4.setTop (mkF m 5 #[.val (.ref r0), .val (.int (oI r)), .val (.int (oI f))] [(.int (oI r)), (.ref pg)]))
  refine gs (fun t => XS.bipush X4.here hx rfl (hb hby d8_5)) ?_
  show Go p e below s QQ 0 0 (T4.setTop (mkF m 7 #[.val (.ref r0), .val (.int (oI r)), .val (.int (oI f))] [(.int (12 : Int32)), (.int (oI r)), (.ref pg)]))
  refine gs (fun t => XS.iushr X4.here hx rfl (hb hby d8_7) rfl) ?_
  show Go p e below s QQ 0 0 (T4.setTop (mkF m 8 #[.val (.ref r0), .val (.int (oI r)), .val (.int (oI f))] [(.int (((oI r).toUInt32 >>> ((12 : Int32) &&& 31).toUInt32).toInt32)), (.ref pg)]))
  rw [show (((oI r).toUInt32 >>> ((12 : Int32) &&& 31).toUInt32).toInt32) = (0 : Int32) from own_page hr]
  show Go p e below s QQ 0 0 (T4.setTop (mkF m 8 #[.val (.ref r0), .val (.int (oI r)), .val (.int (oI f))] [(.int (0 : Int32)), (.ref pg)]))
  refine gs (fun t => ldRf X4 hx hZ e4 V_pg rfl (j := (0 : Int32)) (v := (.ref pa)) (by decide) hpg (g := (mkF m 8 #[.val (.ref r0), .val (.int (oI r)), .val (.int (oI f))] [(.int (0 : Int32)), (.ref pg)])) rfl rfl (hb hby d8_8) t) ?_
  show Go p e below s QQ 0 0 (T4.setTop (mkF m 9 #[.val (.ref r0), .val (.int (oI r)), .val (.int (oI f))] [(.ref pa)]))
  refine gs (fun t => XS.iloadN X4.here hx rfl (hb hby d8_9) rfl) ?_
  show Go p e below s QQ 0 0 (T4.setTop (mkF m 10 #[.val (.ref r0), .val (.int (oI r)), .val (.int (oI f))] [(.int (oI r)), (.ref pa)]))
  obtain ⟨_, _, ⟨T5, L5, k5, n5⟩, -, X5, ⟨Lc5, hQ5, l5, y5, z5⟩, st5⟩ := Jvm.LawKit.callS X4 hx (y := (⟨"com/example/interval/interval/service/SlotTable", "offset", "(I)I"⟩ : MethodName)) hown (mvT hZ (hw _ (List.mem_of_getElem? (i := 23) rfl))) (mvT hZ (hw _ (List.mem_of_getElem? (i := 24) rfl))) (mvT hZ (hw _ (List.mem_of_getElem? (i := 4) rfl))) (mvT hZ (hw _ (List.mem_of_getElem? (i := 25) rfl))) (by decide) (backOf (W := 1) (rm4 l Z a0 hw [] r h0 n0 ZZ hr) hZ (hw _ (List.mem_of_getElem? (i := 25) rfl)) (hw _ (List.mem_of_getElem? (i := 4) rfl)) (by decide) (by decide)) (g := (mkF m 10 #[.val (.ref r0), .val (.int (oI r)), .val (.int (oI f))] [(.int (oI r)), (.ref pa)])) rfl (by rw [hml]; rfl) (argsL := [(.int (oI r))]) (rest := [(.ref pa)]) (lenOf pd_0 rfl) rfl (by show 2 * 0 + _ ≤ _; exact Nat.le_of_eq rfl) (hb hby d8_10) (fun _ _ => ⟨rfl, e4, (by decide : 0 + 0 ≤ _), (by decide : 0 + 0 ≤ _)⟩)
  dsimp only [Pt.U, Pt.locs, Pt.cells, Pt.slots] at X5 l5 y5 z5 st5 hQ5
  subst l5 y5 z5
  obtain ⟨rfl, N5q, e5⟩ := hQ5
  replace N0 := Fr.app N0 N5q
  refine gs st5 ?_
  show Go p e below s QQ 0 0 (T5.setTop (mkF m 13 #[.val (.ref r0), .val (.int (oI r)), .val (.int (oI f))] [(.int (oI (5 * r))), (.ref pa)]))
  refine gs (fun t => XS.iloadN X5.here hx rfl (hb hby d8_13) rfl) ?_
  show Go p e below s QQ 0 0 (T5.setTop (mkF m 14 #[.val (.ref r0), .val (.int (oI r)), .val (.int (oI f))] [(.int (oI f)), (.int (oI (5 * r))), (.ref pa)]))
  refine gs (fun t => XS.iadd X5.here hx rfl (hb hby d8_14) rfl) ?_
  show Go p e below s QQ 0 0 (T5.setTop (mkF m 15 #[.val (.ref r0), .val (.int (oI r)), .val (.int (oI f))] [(.int ((oI (5 * r)) + (oI f))), (.ref pa)]))
  rw [show ((oI (5 * r)) + (oI f)) = (oI (5 * r + f)) from oI_add (by omega)]
  show Go p e below s QQ 0 0 (T5.setTop (mkF m 15 #[.val (.ref r0), .val (.int (oI r)), .val (.int (oI f))] [(.int (oI (5 * r + f))), (.ref pa)]))
  have hi := oI_t (n := 5 * r + f) (by omega)
  refine gs (fun t => ldJf X5 hx hZ e5 V_pa (j := (oI (5 * r + f))) (v := (.long vv)) ⟨by omega, by omega⟩ (by rw [oI_c (by omega)]; exact hvv) (g := (mkF m 15 #[.val (.ref r0), .val (.int (oI r)), .val (.int (oI f))] [(.int (oI (5 * r + f))), (.ref pa)])) rfl rfl (hb hby d8_15) t) ?_
  show Go p e below s QQ 0 0 (T5.setTop (mkF m 16 #[.val (.ref r0), .val (.int (oI r)), .val (.int (oI f))] [(.long vv)]))
  exact goJ X5 hx Bd.notSynchronized Bd.returns (hb hby d8_16) (by rw [← hQQ, e5]; exact ⟨rfl, N0, rfl⟩) (by decide) (by decide)
theorem d3_0 : decode prog_27_method_5_code 0 = .ok (.aload_n 0, 1) := by decide +kernel
theorem d3_1 : decode prog_27_method_5_code 1 = .ok (.getfield 15, 3) := by decide +kernel
theorem d3_4 : decode prog_27_method_5_code 4 = .ok (.bipush 12, 2) := by decide +kernel
theorem d3_6 : decode prog_27_method_5_code 6 = .ok (.iushr, 1) := by decide +kernel
theorem d3_7 : decode prog_27_method_5_code 7 = .ok (.istore 11, 2) := by decide +kernel
theorem d3_9 : decode prog_27_method_5_code 9 = .ok (.aload_n 0, 1) := by decide +kernel
theorem d3_10 : decode prog_27_method_5_code 10 = .ok (.getfield 15, 3) := by decide +kernel
theorem d3_13 : decode prog_27_method_5_code 13 = .ok (.invokestatic 19, 3) := by decide +kernel
theorem d3_16 : decode prog_27_method_5_code 16 = .ok (.iconst 5, 1) := by decide +kernel
theorem d3_17 : decode prog_27_method_5_code 17 = .ok (.iadd, 1) := by decide +kernel
theorem d3_18 : decode prog_27_method_5_code 18 = .ok (.istore 12, 2) := by decide +kernel
theorem d3_20 : decode prog_27_method_5_code 20 = .ok (.iload 11, 2) := by decide +kernel
theorem d3_22 : decode prog_27_method_5_code 22 = .ok (.aload_n 0, 1) := by decide +kernel
theorem d3_23 : decode prog_27_method_5_code 23 = .ok (.getfield 11, 3) := by decide +kernel
theorem d3_26 : decode prog_27_method_5_code 26 = .ok (.arraylength, 1) := by decide +kernel
theorem d3_27 : decode prog_27_method_5_code 27 = .ok (.if_icmp .ne 21, 3) := by decide +kernel
theorem d3_30 : decode prog_27_method_5_code 30 = .ok (.aload_n 0, 1) := by decide +kernel
theorem d3_31 : decode prog_27_method_5_code 31 = .ok (.aload_n 0, 1) := by decide +kernel
theorem d3_32 : decode prog_27_method_5_code 32 = .ok (.getfield 11, 3) := by decide +kernel
theorem d3_35 : decode prog_27_method_5_code 35 = .ok (.iload 11, 2) := by decide +kernel
theorem d3_37 : decode prog_27_method_5_code 37 = .ok (.iconst 2, 1) := by decide +kernel
theorem d3_38 : decode prog_27_method_5_code 38 = .ok (.imul, 1) := by decide +kernel
theorem d3_39 : decode prog_27_method_5_code 39 = .ok (.invokestatic 23, 3) := by decide +kernel
theorem d3_42 : decode prog_27_method_5_code 42 = .ok (.checkcast 29, 3) := by decide +kernel
theorem d3_45 : decode prog_27_method_5_code 45 = .ok (.putfield 11, 3) := by decide +kernel
theorem d3_48 : decode prog_27_method_5_code 48 = .ok (.aload_n 0, 1) := by decide +kernel
theorem d3_49 : decode prog_27_method_5_code 49 = .ok (.getfield 11, 3) := by decide +kernel
theorem d3_52 : decode prog_27_method_5_code 52 = .ok (.iload 11, 2) := by decide +kernel
theorem d3_54 : decode prog_27_method_5_code 54 = .ok (.aaload, 1) := by decide +kernel
theorem d3_55 : decode prog_27_method_5_code 55 = .ok (.ifnonnull 18, 3) := by decide +kernel
theorem d3_58 : decode prog_27_method_5_code 58 = .ok (.aload_n 0, 1) := by decide +kernel
theorem d3_59 : decode prog_27_method_5_code 59 = .ok (.getfield 11, 3) := by decide +kernel
theorem d3_62 : decode prog_27_method_5_code 62 = .ok (.iload 11, 2) := by decide +kernel
theorem d3_64 : decode prog_27_method_5_code 64 = .ok (.sipush 20480, 3) := by decide +kernel
theorem d3_67 : decode prog_27_method_5_code 67 = .ok (.newarray .long, 2) := by decide +kernel
theorem d3_69 : decode prog_27_method_5_code 69 = .ok (.aastore, 1) := by decide +kernel
theorem d3_70 : decode prog_27_method_5_code 70 = .ok (.goto 49, 3) := by decide +kernel
theorem d3_73 : decode prog_27_method_5_code 73 = .ok (.aload_n 0, 1) := by decide +kernel
theorem d3_74 : decode prog_27_method_5_code 74 = .ok (.getfield 11, 3) := by decide +kernel
theorem d3_77 : decode prog_27_method_5_code 77 = .ok (.iload 11, 2) := by decide +kernel
theorem d3_79 : decode prog_27_method_5_code 79 = .ok (.aaload, 1) := by decide +kernel
theorem d3_80 : decode prog_27_method_5_code 80 = .ok (.arraylength, 1) := by decide +kernel
theorem d3_81 : decode prog_27_method_5_code 81 = .ok (.iload 12, 2) := by decide +kernel
theorem d3_83 : decode prog_27_method_5_code 83 = .ok (.if_icmp .ge 36, 3) := by decide +kernel
theorem d3_86 : decode prog_27_method_5_code 86 = .ok (.aload_n 0, 1) := by decide +kernel
theorem d3_87 : decode prog_27_method_5_code 87 = .ok (.getfield 11, 3) := by decide +kernel
theorem d3_90 : decode prog_27_method_5_code 90 = .ok (.iload 11, 2) := by decide +kernel
theorem d3_92 : decode prog_27_method_5_code 92 = .ok (.aload_n 0, 1) := by decide +kernel
theorem d3_93 : decode prog_27_method_5_code 93 = .ok (.getfield 11, 3) := by decide +kernel
theorem d3_96 : decode prog_27_method_5_code 96 = .ok (.iload 11, 2) := by decide +kernel
theorem d3_98 : decode prog_27_method_5_code 98 = .ok (.aaload, 1) := by decide +kernel
theorem d3_99 : decode prog_27_method_5_code 99 = .ok (.iconst 2, 1) := by decide +kernel
theorem d3_100 : decode prog_27_method_5_code 100 = .ok (.aload_n 0, 1) := by decide +kernel
theorem d3_101 : decode prog_27_method_5_code 101 = .ok (.getfield 11, 3) := by decide +kernel
theorem d3_104 : decode prog_27_method_5_code 104 = .ok (.iload 11, 2) := by decide +kernel
theorem d3_106 : decode prog_27_method_5_code 106 = .ok (.aaload, 1) := by decide +kernel
theorem d3_107 : decode prog_27_method_5_code 107 = .ok (.arraylength, 1) := by decide +kernel
theorem d3_108 : decode prog_27_method_5_code 108 = .ok (.imul, 1) := by decide +kernel
theorem d3_109 : decode prog_27_method_5_code 109 = .ok (.sipush 20480, 3) := by decide +kernel
theorem d3_112 : decode prog_27_method_5_code 112 = .ok (.invokestatic 30, 3) := by decide +kernel
theorem d3_115 : decode prog_27_method_5_code 115 = .ok (.invokestatic 36, 3) := by decide +kernel
theorem d3_118 : decode prog_27_method_5_code 118 = .ok (.aastore, 1) := by decide +kernel
theorem d3_119 : decode prog_27_method_5_code 119 = .ok (.aload_n 0, 1) := by decide +kernel
theorem d3_120 : decode prog_27_method_5_code 120 = .ok (.dup, 1) := by decide +kernel
theorem d3_121 : decode prog_27_method_5_code 121 = .ok (.getfield 15, 3) := by decide +kernel
theorem d3_124 : decode prog_27_method_5_code 124 = .ok (.dup_x1, 1) := by decide +kernel
theorem d3_125 : decode prog_27_method_5_code 125 = .ok (.iconst 1, 1) := by decide +kernel
theorem d3_126 : decode prog_27_method_5_code 126 = .ok (.iadd, 1) := by decide +kernel
theorem d3_127 : decode prog_27_method_5_code 127 = .ok (.putfield 15, 3) := by decide +kernel
theorem d3_130 : decode prog_27_method_5_code 130 = .ok (.istore 13, 2) := by decide +kernel
theorem d3_132 : decode prog_27_method_5_code 132 = .ok (.aload_n 0, 1) := by decide +kernel
theorem d3_133 : decode prog_27_method_5_code 133 = .ok (.iload 13, 2) := by decide +kernel
theorem d3_135 : decode prog_27_method_5_code 135 = .ok (.iconst 0, 1) := by decide +kernel
theorem d3_136 : decode prog_27_method_5_code 136 = .ok (.lload_n 1, 1) := by decide +kernel
theorem d3_137 : decode prog_27_method_5_code 137 = .ok (.invokevirtual 39, 3) := by decide +kernel
theorem d3_140 : decode prog_27_method_5_code 140 = .ok (.aload_n 0, 1) := by decide +kernel
theorem d3_141 : decode prog_27_method_5_code 141 = .ok (.iload 13, 2) := by decide +kernel
theorem d3_143 : decode prog_27_method_5_code 143 = .ok (.iconst 1, 1) := by decide +kernel
theorem d3_144 : decode prog_27_method_5_code 144 = .ok (.lload_n 3, 1) := by decide +kernel
theorem d3_145 : decode prog_27_method_5_code 145 = .ok (.invokevirtual 39, 3) := by decide +kernel
theorem d3_148 : decode prog_27_method_5_code 148 = .ok (.aload_n 0, 1) := by decide +kernel
theorem d3_149 : decode prog_27_method_5_code 149 = .ok (.iload 13, 2) := by decide +kernel
theorem d3_151 : decode prog_27_method_5_code 151 = .ok (.iconst 2, 1) := by decide +kernel
theorem d3_152 : decode prog_27_method_5_code 152 = .ok (.lload 5, 2) := by decide +kernel
theorem d3_154 : decode prog_27_method_5_code 154 = .ok (.invokevirtual 39, 3) := by decide +kernel
theorem d3_157 : decode prog_27_method_5_code 157 = .ok (.aload_n 0, 1) := by decide +kernel
theorem d3_158 : decode prog_27_method_5_code 158 = .ok (.iload 13, 2) := by decide +kernel
theorem d3_160 : decode prog_27_method_5_code 160 = .ok (.iconst 3, 1) := by decide +kernel
theorem d3_161 : decode prog_27_method_5_code 161 = .ok (.lload 7, 2) := by decide +kernel
theorem d3_163 : decode prog_27_method_5_code 163 = .ok (.invokevirtual 39, 3) := by decide +kernel
theorem d3_166 : decode prog_27_method_5_code 166 = .ok (.aload_n 0, 1) := by decide +kernel
theorem d3_167 : decode prog_27_method_5_code 167 = .ok (.iload 13, 2) := by decide +kernel
theorem d3_169 : decode prog_27_method_5_code 169 = .ok (.iconst 4, 1) := by decide +kernel
theorem d3_170 : decode prog_27_method_5_code 170 = .ok (.lload 9, 2) := by decide +kernel
theorem d3_172 : decode prog_27_method_5_code 172 = .ok (.invokevirtual 39, 3) := by decide +kernel
theorem d3_175 : decode prog_27_method_5_code 175 = .ok (.iload 13, 2) := by decide +kernel
theorem d3_177 : decode prog_27_method_5_code 177 = .ok (.ireturn, 1) := by decide +kernel
theorem pn_3 : plainName "com/example/interval/interval/service/SlotTable" = true := by first | (simp [plainName, overriddenIn]; done) | decide +kernel
def Qrm3 (Z : State) (r0 : Addr) (p1 : Int64) (p2 : Int64) (p3 : Int64) (p4 : Int64) (p5 : Int64) (r : Nat) (pg : Addr) (pa : Addr) (fpg : Nat → Value) (fa : Nat → Value) (h0 : Heap) (n0 : Nat) (v : Option Value) (h : Heap) (L : List Loc) : Prop := v = some (.int (oI r)) ∧ Fr n0 L ∧ Keep h0 h [r0, pa] ∧ Fld Z h r0 "com/example/interval/interval/service/SlotTable" "pages" "[[J" (.ref pg) ∧ Fld Z h r0 "com/example/interval/interval/service/SlotTable" "size" "I" (.int (oI (r + 1))) ∧ Arf Z h pa .long 40 (own_add fa r p1 p2 p3 p4 p5)
set_option maxRecDepth 65536 in
set_option maxHeartbeats 40000000 in
theorem rm3 (l : Launch) (Z : State) (a0 : Array Value) (hw : ∀ d ∈ tables_1, d.before a0 Z = true) (ws : List Jvm.Cond) (r0 : Addr) (p1 : Int64) (p2 : Int64) (p3 : Int64) (p4 : Int64) (p5 : Int64) (r : Nat) (pg : Addr) (pa : Addr) (fpg : Nat → Value) (fa : Nat → Value) (h0 : Heap) (n0 : Nat) (Z0 : n0 ≤ h0.size) (F_pages_r0 : Fld Z h0 r0 "com/example/interval/interval/service/SlotTable" "pages" "[[J" (.ref pg)) (F_size_r0 : Fld Z h0 r0 "com/example/interval/interval/service/SlotTable" "size" "I" (.int (oI r))) (E_r0 : Exa Z h0 r0 "com/example/interval/interval/service/SlotTable") (V_pg : Arf Z h0 pg (.array .long) 1 fpg) (hpg : fpg 0 = .ref pa) (V_pa : Arf Z h0 pa .long 40 fa) (ge_r0 : n0 ≤ r0) (ge_pa : n0 ≤ pa) (ne_r0_pg : r0 ≠ pg) (ne_r0_pa : r0 ≠ pa) (ne_pg_pa : pg ≠ pa) (hr : r ≤ 7) :
    MetFree l (⟨"com/example/interval/interval/service/SlotTable", "add", "(JJJJJ)I"⟩ : MethodName) (head1 (Jvm.Cond.code (⟨"com/example/interval/interval/service/SlotTable", "add", "(JJJJJ)I"⟩ : MethodName) prog_27_method_5_code 14 (some .int) :: ws) ({ frames := 2, cells := 0, slots := 0, locals := 29 } : Room)) (fun a U => a = #[(.ref r0), (.long p1), (.long p2), (.long p3), (.long p4), (.long p5)] ∧ Z.Warmed39 U.vm ∧ U.heap = h0) (fun _ _ _ _ _ => True) (fun _ U o U' => ∃ v L, o = .returned v ∧ Qrm3 Z r0 p1 p2 p3 p4 p5 r pg pa fpg fa h0 n0 v U'.heap L ∧ FrameEnd U o U' L ({ frames := 2, cells := 0, slots := 0, locals := 29 } : Room).cells ({ frames := 2, cells := 0, slots := 0, locals := 29 } : Room).slots) := by
  refine MetFree.of_bodySF (plainFor_of_name pn_3) hisR ?_
  intro p e s m args below meth c s₁ Bd hml0 hP hK
  obtain ⟨rfl, hZ, hh⟩ := hP
  have hx := Bd.exec
  have hby := Bd.bytes
  have hml : c.maxLocals = 14 := hml0
  have hown : s.vm.findClass "com/example/interval/interval/service/SlotTable" = some m.cls := findClass_of_methodNamed Bd.named
  have hnm := (name_of_methodNamed Bd.named Bd.method).1
  have X0 : Stand p l e ({ frames := 2, cells := 0, slots := 0, locals := 29 } : Room) s m #[(.ref r0), (.long p1), (.long p2), (.long p3), (.long p4), (.long p5)] below meth c s₁ [] 0 0 := Stand.of_body Bd
  have e0 : s₁.heap = h0 := by rw [← hh, Bd.state]; rfl
  have N0 := Fr.nil n0
  have ZZ := Z0
  have KK : Keep h0 h0 [r0, pa] := Keep.refl h0 _
  show Go p e below s (Qrm3 Z r0 p1 p2 p3 p4 p5 r pg pa fpg fa h0 n0) 0 0 (s₁.setTop (entryFrame m #[(.ref r0), (.long p1), (.long p2), (.long p3), (.long p4), (.long p5)] 14))
  generalize hQQ : (Qrm3 Z r0 p1 p2 p3 p4 p5 r pg pa fpg fa h0 n0) = QQ
  refine gs (fun t k => castTop (g' := (mkF m 0 #[.val (.ref r0), .val (.long p1), .second, .val (.long p2), .second, .val (.long p3), .second, .val (.long p4), .second, .val (.long p5), .second, .unset, .unset, .unset] [])) (by first | (simp [entryFrame, mkF, argsToLocals, Value.category, maxLocals]; done) | rfl) k) ?_
  show Go p e below s QQ 0 0 (s₁.setTop (mkF m 0 #[.val (.ref r0), .val (.long p1), .second, .val (.long p2), .second, .val (.long p3), .second, .val (.long p4), .second, .val (.long p5), .second, .unset, .unset, .unset] []))
  refine gs (fun t => XS.aloadN X0.here hx rfl (hb hby d3_0) rfl rfl) ?_
  show Go p e below s QQ 0 0 (s₁.setTop (mkF m 1 #[.val (.ref r0), .val (.long p1), .second, .val (.long p2), .second, .val (.long p3), .second, .val (.long p4), .second, .val (.long p5), .second, .unset, .unset, .unset] [(.ref r0)]))
  obtain ⟨T6, X6, e6, st6⟩ := getF X0 hx hZ hown (host := "") (Or.inl (hw _ (List.mem_of_getElem? (i := 21) rfl))) Via.refl e0 F_size_r0 (g := (mkF m 1 #[.val (.ref r0), .val (.long p1), .second, .val (.long p2), .second, .val (.long p3), .second, .val (.long p4), .second, .val (.long p5), .second, .unset, .unset, .unset] [(.ref r0)])) rfl rfl (hb hby d3_1)
  refine gs st6 ?_
  show Go p e below s QQ 0 0 (T6.setTop (mkF m 4 #[.val (.ref r0), .val (.long p1), .second, .val (.long p2), .second, .val (.long p3), .second, .val (.long p4), .second, .val (.long p5), .second, .unset, .unset, .unset] [(.int (oI r))]))
  refine gs (fun t => XS.bipush X6.here hx rfl (hb hby d3_4)) ?_
  show Go p e below s QQ 0 0 (T6.setTop (mkF m 6 #[.val (.ref r0), .val (.long p1), .second, .val (.long p2), .second, .val (.long p3), .second, .val (.long p4), .second, .val (.long p5), .second, .unset, .unset, .unset] [(.int (12 : Int32)), (.int (oI r))]))
  refine gs (fun t => XS.iushr X6.here hx rfl (hb hby d3_6) rfl) ?_
  show Go p e below s QQ 0 0 (T6.setTop (mkF m 7 #[.val (.ref r0), .val (.long p1), .second, .val (.long p2), .second, .val (.long p3), .second, .val (.long p4), .second, .val (.long p5), .second, .unset, .unset, .unset] [(.int (((oI r).toUInt32 >>> ((12 : Int32) &&& 31).toUInt32).toInt32))]))
  rw [show (((oI r).toUInt32 >>> ((12 : Int32) &&& 31).toUInt32).toInt32) = (0 : Int32) from own_page (by omega)]
  show Go p e below s QQ 0 0 (T6.setTop (mkF m 7 #[.val (.ref r0), .val (.long p1), .second, .val (.long p2), .second, .val (.long p3), .second, .val (.long p4), .second, .val (.long p5), .second, .unset, .unset, .unset] [(.int (0 : Int32))]))
  refine gs (fun t => XS.istore X6.here hx rfl (hb hby d3_7) rfl (l' := #[.val (.ref r0), .val (.long p1), .second, .val (.long p2), .second, .val (.long p3), .second, .val (.long p4), .second, .val (.long p5), .second, .val (.int (0 : Int32)), .unset, .unset]) rfl) ?_
  show Go p e below s QQ 0 0 (T6.setTop (mkF m 9 #[.val (.ref r0), .val (.long p1), .second, .val (.long p2), .second, .val (.long p3), .second, .val (.long p4), .second, .val (.long p5), .second, .val (.int (0 : Int32)), .unset, .unset] []))
  refine gs (fun t => XS.aloadN X6.here hx rfl (hb hby d3_9) rfl rfl) ?_
  show Go p e below s QQ 0 0 (T6.setTop (mkF m 10 #[.val (.ref r0), .val (.long p1), .second, .val (.long p2), .second, .val (.long p3), .second, .val (.long p4), .second, .val (.long p5), .second, .val (.int (0 : Int32)), .unset, .unset] [(.ref r0)]))
  obtain ⟨T7, X7, e7, st7⟩ := getF X6 hx hZ hown (host := "") (Or.inl (hw _ (List.mem_of_getElem? (i := 21) rfl))) Via.refl e6 F_size_r0 (g := (mkF m 10 #[.val (.ref r0), .val (.long p1), .second, .val (.long p2), .second, .val (.long p3), .second, .val (.long p4), .second, .val (.long p5), .second, .val (.int (0 : Int32)), .unset, .unset] [(.ref r0)])) rfl rfl (hb hby d3_10)
  refine gs st7 ?_
  show Go p e below s QQ 0 0 (T7.setTop (mkF m 13 #[.val (.ref r0), .val (.long p1), .second, .val (.long p2), .second, .val (.long p3), .second, .val (.long p4), .second, .val (.long p5), .second, .val (.int (0 : Int32)), .unset, .unset] [(.int (oI r))]))
  obtain ⟨_, _, ⟨T8, L8, k8, n8⟩, -, X8, ⟨Lc8, hQ8, l8, y8, z8⟩, st8⟩ := Jvm.LawKit.callS X7 hx (y := (⟨"com/example/interval/interval/service/SlotTable", "offset", "(I)I"⟩ : MethodName)) hown (mvT hZ (hw _ (List.mem_of_getElem? (i := 23) rfl))) (mvT hZ (hw _ (List.mem_of_getElem? (i := 24) rfl))) (mvT hZ (hw _ (List.mem_of_getElem? (i := 4) rfl))) (mvT hZ (hw _ (List.mem_of_getElem? (i := 25) rfl))) (by decide) (backOf (W := 0) (rm4 l Z a0 hw [] r h0 n0 ZZ (by omega)) hZ (hw _ (List.mem_of_getElem? (i := 25) rfl)) (hw _ (List.mem_of_getElem? (i := 4) rfl)) (by decide) (by decide)) (g := (mkF m 13 #[.val (.ref r0), .val (.long p1), .second, .val (.long p2), .second, .val (.long p3), .second, .val (.long p4), .second, .val (.long p5), .second, .val (.int (0 : Int32)), .unset, .unset] [(.int (oI r))])) rfl (by rw [hml]; rfl) (argsL := [(.int (oI r))]) (rest := []) (lenOf pd_0 rfl) rfl (by show 2 * 0 + _ ≤ _; exact Nat.le_of_eq rfl) (hb hby d3_13) (fun _ _ => ⟨rfl, e7, (by decide : 0 + 0 ≤ _), (by decide : 0 + 0 ≤ _)⟩)
  dsimp only [Pt.U, Pt.locs, Pt.cells, Pt.slots] at X8 l8 y8 z8 st8 hQ8
  subst l8 y8 z8
  obtain ⟨rfl, N8q, e8⟩ := hQ8
  replace N0 := Fr.app N0 N8q
  refine gs st8 ?_
  show Go p e below s QQ 0 0 (T8.setTop (mkF m 16 #[.val (.ref r0), .val (.long p1), .second, .val (.long p2), .second, .val (.long p3), .second, .val (.long p4), .second, .val (.long p5), .second, .val (.int (0 : Int32)), .unset, .unset] [(.int (oI (5 * r)))]))
  refine gs (fun t => XS.iconst X8.here hx rfl (hb hby d3_16)) ?_
  show Go p e below s QQ 0 0 (T8.setTop (mkF m 17 #[.val (.ref r0), .val (.long p1), .second, .val (.long p2), .second, .val (.long p3), .second, .val (.long p4), .second, .val (.long p5), .second, .val (.int (0 : Int32)), .unset, .unset] [(.int (5 : Int32)), (.int (oI (5 * r)))]))
  refine gs (fun t => XS.iadd X8.here hx rfl (hb hby d3_17) rfl) ?_
  show Go p e below s QQ 0 0 (T8.setTop (mkF m 18 #[.val (.ref r0), .val (.long p1), .second, .val (.long p2), .second, .val (.long p3), .second, .val (.long p4), .second, .val (.long p5), .second, .val (.int (0 : Int32)), .unset, .unset] [(.int ((oI (5 * r)) + (5 : Int32)))]))
  rw [show ((oI (5 * r)) + (5 : Int32)) = (oI (5 * r + 5)) from oI_add (a := 5 * r) (b := 5) (by omega)]
  show Go p e below s QQ 0 0 (T8.setTop (mkF m 18 #[.val (.ref r0), .val (.long p1), .second, .val (.long p2), .second, .val (.long p3), .second, .val (.long p4), .second, .val (.long p5), .second, .val (.int (0 : Int32)), .unset, .unset] [(.int (oI (5 * r + 5)))]))
  refine gs (fun t => XS.istore X8.here hx rfl (hb hby d3_18) rfl (l' := #[.val (.ref r0), .val (.long p1), .second, .val (.long p2), .second, .val (.long p3), .second, .val (.long p4), .second, .val (.long p5), .second, .val (.int (0 : Int32)), .val (.int (oI (5 * r + 5))), .unset]) rfl) ?_
  show Go p e below s QQ 0 0 (T8.setTop (mkF m 20 #[.val (.ref r0), .val (.long p1), .second, .val (.long p2), .second, .val (.long p3), .second, .val (.long p4), .second, .val (.long p5), .second, .val (.int (0 : Int32)), .val (.int (oI (5 * r + 5))), .unset] []))
  refine gs (fun t => XS.iload X8.here hx rfl (hb hby d3_20) rfl) ?_
  show Go p e below s QQ 0 0 (T8.setTop (mkF m 22 #[.val (.ref r0), .val (.long p1), .second, .val (.long p2), .second, .val (.long p3), .second, .val (.long p4), .second, .val (.long p5), .second, .val (.int (0 : Int32)), .val (.int (oI (5 * r + 5))), .unset] [(.int (0 : Int32))]))
  refine gs (fun t => XS.aloadN X8.here hx rfl (hb hby d3_22) rfl rfl) ?_
  show Go p e below s QQ 0 0 (T8.setTop (mkF m 23 #[.val (.ref r0), .val (.long p1), .second, .val (.long p2), .second, .val (.long p3), .second, .val (.long p4), .second, .val (.long p5), .second, .val (.int (0 : Int32)), .val (.int (oI (5 * r + 5))), .unset] [(.ref r0), (.int (0 : Int32))]))
  obtain ⟨T9, X9, e9, st9⟩ := getF X8 hx hZ hown (host := "") (Or.inl (hw _ (List.mem_of_getElem? (i := 14) rfl))) Via.refl e8 F_pages_r0 (g := (mkF m 23 #[.val (.ref r0), .val (.long p1), .second, .val (.long p2), .second, .val (.long p3), .second, .val (.long p4), .second, .val (.long p5), .second, .val (.int (0 : Int32)), .val (.int (oI (5 * r + 5))), .unset] [(.ref r0), (.int (0 : Int32))])) rfl rfl (hb hby d3_23)
  refine gs st9 ?_
  show Go p e below s QQ 0 0 (T9.setTop (mkF m 26 #[.val (.ref r0), .val (.long p1), .second, .val (.long p2), .second, .val (.long p3), .second, .val (.long p4), .second, .val (.long p5), .second, .val (.int (0 : Int32)), .val (.int (oI (5 * r + 5))), .unset] [(.ref pg), (.int (0 : Int32))]))
  refine gs (fun t => lenf X9 hx hZ e9 V_pg (z := (1 : Int32)) rfl (g := (mkF m 26 #[.val (.ref r0), .val (.long p1), .second, .val (.long p2), .second, .val (.long p3), .second, .val (.long p4), .second, .val (.long p5), .second, .val (.int (0 : Int32)), .val (.int (oI (5 * r + 5))), .unset] [(.ref pg), (.int (0 : Int32))])) rfl rfl (hb hby d3_26) t) ?_
  show Go p e below s QQ 0 0 (T9.setTop (mkF m 27 #[.val (.ref r0), .val (.long p1), .second, .val (.long p2), .second, .val (.long p3), .second, .val (.long p4), .second, .val (.long p5), .second, .val (.int (0 : Int32)), .val (.int (oI (5 * r + 5))), .unset] [(.int (1 : Int32)), (.int (0 : Int32))]))
  refine gs (fun t => XS.icmpYes X9.here hx rfl (pc0 := 27) (pc' := 48) rfl (hb hby d3_27) rfl (feq (by decide : ¬ ((0 : Int32) = (1 : Int32)))).2 (by decide) (by decide)) ?_
  show Go p e below s QQ 0 0 (T9.setTop (mkF m 48 #[.val (.ref r0), .val (.long p1), .second, .val (.long p2), .second, .val (.long p3), .second, .val (.long p4), .second, .val (.long p5), .second, .val (.int (0 : Int32)), .val (.int (oI (5 * r + 5))), .unset] []))
  refine gs (fun t => XS.aloadN X9.here hx rfl (hb hby d3_48) rfl rfl) ?_
  show Go p e below s QQ 0 0 (T9.setTop (mkF m 49 #[.val (.ref r0), .val (.long p1), .second, .val (.long p2), .second, .val (.long p3), .second, .val (.long p4), .second, .val (.long p5), .second, .val (.int (0 : Int32)), .val (.int (oI (5 * r + 5))), .unset] [(.ref r0)]))
  obtain ⟨T10, X10, e10, st10⟩ := getF X9 hx hZ hown (host := "") (Or.inl (hw _ (List.mem_of_getElem? (i := 14) rfl))) Via.refl e9 F_pages_r0 (g := (mkF m 49 #[.val (.ref r0), .val (.long p1), .second, .val (.long p2), .second, .val (.long p3), .second, .val (.long p4), .second, .val (.long p5), .second, .val (.int (0 : Int32)), .val (.int (oI (5 * r + 5))), .unset] [(.ref r0)])) rfl rfl (hb hby d3_49)
  refine gs st10 ?_
  show Go p e below s QQ 0 0 (T10.setTop (mkF m 52 #[.val (.ref r0), .val (.long p1), .second, .val (.long p2), .second, .val (.long p3), .second, .val (.long p4), .second, .val (.long p5), .second, .val (.int (0 : Int32)), .val (.int (oI (5 * r + 5))), .unset] [(.ref pg)]))
  refine gs (fun t => XS.iload X10.here hx rfl (hb hby d3_52) rfl) ?_
  show Go p e below s QQ 0 0 (T10.setTop (mkF m 54 #[.val (.ref r0), .val (.long p1), .second, .val (.long p2), .second, .val (.long p3), .second, .val (.long p4), .second, .val (.long p5), .second, .val (.int (0 : Int32)), .val (.int (oI (5 * r + 5))), .unset] [(.int (0 : Int32)), (.ref pg)]))
  refine gs (fun t => ldRf X10 hx hZ e10 V_pg rfl (j := (0 : Int32)) (v := (.ref pa)) (by decide) hpg (g := (mkF m 54 #[.val (.ref r0), .val (.long p1), .second, .val (.long p2), .second, .val (.long p3), .second, .val (.long p4), .second, .val (.long p5), .second, .val (.int (0 : Int32)), .val (.int (oI (5 * r + 5))), .unset] [(.int (0 : Int32)), (.ref pg)])) rfl rfl (hb hby d3_54) t) ?_
  show Go p e below s QQ 0 0 (T10.setTop (mkF m 55 #[.val (.ref r0), .val (.long p1), .second, .val (.long p2), .second, .val (.long p3), .second, .val (.long p4), .second, .val (.long p5), .second, .val (.int (0 : Int32)), .val (.int (oI (5 * r + 5))), .unset] [(.ref pa)]))
  refine gs (fun t => XS.ifnonnullYes X10.here hx rfl (pc0 := 55) (pc' := 73) rfl (hb hby d3_55) rfl (by decide) (by decide)) ?_
  show Go p e below s QQ 0 0 (T10.setTop (mkF m 73 #[.val (.ref r0), .val (.long p1), .second, .val (.long p2), .second, .val (.long p3), .second, .val (.long p4), .second, .val (.long p5), .second, .val (.int (0 : Int32)), .val (.int (oI (5 * r + 5))), .unset] []))
  refine gs (fun t => XS.aloadN X10.here hx rfl (hb hby d3_73) rfl rfl) ?_
  show Go p e below s QQ 0 0 (T10.setTop (mkF m 74 #[.val (.ref r0), .val (.long p1), .second, .val (.long p2), .second, .val (.long p3), .second, .val (.long p4), .second, .val (.long p5), .second, .val (.int (0 : Int32)), .val (.int (oI (5 * r + 5))), .unset] [(.ref r0)]))
  obtain ⟨T11, X11, e11, st11⟩ := getF X10 hx hZ hown (host := "") (Or.inl (hw _ (List.mem_of_getElem? (i := 14) rfl))) Via.refl e10 F_pages_r0 (g := (mkF m 74 #[.val (.ref r0), .val (.long p1), .second, .val (.long p2), .second, .val (.long p3), .second, .val (.long p4), .second, .val (.long p5), .second, .val (.int (0 : Int32)), .val (.int (oI (5 * r + 5))), .unset] [(.ref r0)])) rfl rfl (hb hby d3_74)
  refine gs st11 ?_
  show Go p e below s QQ 0 0 (T11.setTop (mkF m 77 #[.val (.ref r0), .val (.long p1), .second, .val (.long p2), .second, .val (.long p3), .second, .val (.long p4), .second, .val (.long p5), .second, .val (.int (0 : Int32)), .val (.int (oI (5 * r + 5))), .unset] [(.ref pg)]))
  refine gs (fun t => XS.iload X11.here hx rfl (hb hby d3_77) rfl) ?_
  show Go p e below s QQ 0 0 (T11.setTop (mkF m 79 #[.val (.ref r0), .val (.long p1), .second, .val (.long p2), .second, .val (.long p3), .second, .val (.long p4), .second, .val (.long p5), .second, .val (.int (0 : Int32)), .val (.int (oI (5 * r + 5))), .unset] [(.int (0 : Int32)), (.ref pg)]))
  refine gs (fun t => ldRf X11 hx hZ e11 V_pg rfl (j := (0 : Int32)) (v := (.ref pa)) (by decide) hpg (g := (mkF m 79 #[.val (.ref r0), .val (.long p1), .second, .val (.long p2), .second, .val (.long p3), .second, .val (.long p4), .second, .val (.long p5), .second, .val (.int (0 : Int32)), .val (.int (oI (5 * r + 5))), .unset] [(.int (0 : Int32)), (.ref pg)])) rfl rfl (hb hby d3_79) t) ?_
  show Go p e below s QQ 0 0 (T11.setTop (mkF m 80 #[.val (.ref r0), .val (.long p1), .second, .val (.long p2), .second, .val (.long p3), .second, .val (.long p4), .second, .val (.long p5), .second, .val (.int (0 : Int32)), .val (.int (oI (5 * r + 5))), .unset] [(.ref pa)]))
  refine gs (fun t => lenf X11 hx hZ e11 V_pa (z := (40 : Int32)) rfl (g := (mkF m 80 #[.val (.ref r0), .val (.long p1), .second, .val (.long p2), .second, .val (.long p3), .second, .val (.long p4), .second, .val (.long p5), .second, .val (.int (0 : Int32)), .val (.int (oI (5 * r + 5))), .unset] [(.ref pa)])) rfl rfl (hb hby d3_80) t) ?_
  show Go p e below s QQ 0 0 (T11.setTop (mkF m 81 #[.val (.ref r0), .val (.long p1), .second, .val (.long p2), .second, .val (.long p3), .second, .val (.long p4), .second, .val (.long p5), .second, .val (.int (0 : Int32)), .val (.int (oI (5 * r + 5))), .unset] [(.int (40 : Int32))]))
  refine gs (fun t => XS.iload X11.here hx rfl (hb hby d3_81) rfl) ?_
  show Go p e below s QQ 0 0 (T11.setTop (mkF m 83 #[.val (.ref r0), .val (.long p1), .second, .val (.long p2), .second, .val (.long p3), .second, .val (.long p4), .second, .val (.long p5), .second, .val (.int (0 : Int32)), .val (.int (oI (5 * r + 5))), .unset] [(.int (oI (5 * r + 5))), (.int (40 : Int32))]))
  refine gs (fun t => XS.icmpYes X11.here hx rfl (pc0 := 83) (pc' := 119) rfl (hb hby d3_83) rfl (flt (fun q => by rw [Int32.lt_iff_toInt_lt, oI_t (by omega)] at q; have k : (40 : Int32).toInt = 40 := rfl; omega : ¬ ((40 : Int32) < (oI (5 * r + 5))))).2.1 (by decide) (by decide)) ?_
  show Go p e below s QQ 0 0 (T11.setTop (mkF m 119 #[.val (.ref r0), .val (.long p1), .second, .val (.long p2), .second, .val (.long p3), .second, .val (.long p4), .second, .val (.long p5), .second, .val (.int (0 : Int32)), .val (.int (oI (5 * r + 5))), .unset] []))
  refine gs (fun t => XS.aloadN X11.here hx rfl (hb hby d3_119) rfl rfl) ?_
  show Go p e below s QQ 0 0 (T11.setTop (mkF m 120 #[.val (.ref r0), .val (.long p1), .second, .val (.long p2), .second, .val (.long p3), .second, .val (.long p4), .second, .val (.long p5), .second, .val (.int (0 : Int32)), .val (.int (oI (5 * r + 5))), .unset] [(.ref r0)]))
  refine gs (fun t => XS.dup X11.here hx rfl (hb hby d3_120) rfl rfl) ?_
  show Go p e below s QQ 0 0 (T11.setTop (mkF m 121 #[.val (.ref r0), .val (.long p1), .second, .val (.long p2), .second, .val (.long p3), .second, .val (.long p4), .second, .val (.long p5), .second, .val (.int (0 : Int32)), .val (.int (oI (5 * r + 5))), .unset] [(.ref r0), (.ref r0)]))
  obtain ⟨T12, X12, e12, st12⟩ := getF X11 hx hZ hown (host := "") (Or.inl (hw _ (List.mem_of_getElem? (i := 21) rfl))) Via.refl e11 F_size_r0 (g := (mkF m 121 #[.val (.ref r0), .val (.long p1), .second, .val (.long p2), .second, .val (.long p3), .second, .val (.long p4), .second, .val (.long p5), .second, .val (.int (0 : Int32)), .val (.int (oI (5 * r + 5))), .unset] [(.ref r0), (.ref r0)])) rfl rfl (hb hby d3_121)
  refine gs st12 ?_
  show Go p e below s QQ 0 0 (T12.setTop (mkF m 124 #[.val (.ref r0), .val (.long p1), .second, .val (.long p2), .second, .val (.long p3), .second, .val (.long p4), .second, .val (.long p5), .second, .val (.int (0 : Int32)), .val (.int (oI (5 * r + 5))), .unset] [(.int (oI r)), (.ref r0)]))
  refine gs (fun t => XS.dupX1 X12.here hx rfl (hb hby d3_124) rfl rfl rfl) ?_
  show Go p e below s QQ 0 0 (T12.setTop (mkF m 125 #[.val (.ref r0), .val (.long p1), .second, .val (.long p2), .second, .val (.long p3), .second, .val (.long p4), .second, .val (.long p5), .second, .val (.int (0 : Int32)), .val (.int (oI (5 * r + 5))), .unset] [(.int (oI r)), (.ref r0), (.int (oI r))]))
  refine gs (fun t => XS.iconst X12.here hx rfl (hb hby d3_125)) ?_
  show Go p e below s QQ 0 0 (T12.setTop (mkF m 126 #[.val (.ref r0), .val (.long p1), .second, .val (.long p2), .second, .val (.long p3), .second, .val (.long p4), .second, .val (.long p5), .second, .val (.int (0 : Int32)), .val (.int (oI (5 * r + 5))), .unset] [(.int (1 : Int32)), (.int (oI r)), (.ref r0), (.int (oI r))]))
  refine gs (fun t => XS.iadd X12.here hx rfl (hb hby d3_126) rfl) ?_
  show Go p e below s QQ 0 0 (T12.setTop (mkF m 127 #[.val (.ref r0), .val (.long p1), .second, .val (.long p2), .second, .val (.long p3), .second, .val (.long p4), .second, .val (.long p5), .second, .val (.int (0 : Int32)), .val (.int (oI (5 * r + 5))), .unset] [(.int ((oI r) + (1 : Int32))), (.ref r0), (.int (oI r))]))
  rw [show ((oI r) + (1 : Int32)) = (oI (r + 1)) from oI_add (a := r) (b := 1) (by omega)]
  show Go p e below s QQ 0 0 (T12.setTop (mkF m 127 #[.val (.ref r0), .val (.long p1), .second, .val (.long p2), .second, .val (.long p3), .second, .val (.long p4), .second, .val (.long p5), .second, .val (.int (0 : Int32)), .val (.int (oI (5 * r + 5))), .unset] [(.int (oI (r + 1))), (.ref r0), (.int (oI r))]))
  obtain ⟨T13, h13, X13, e13, W13, st13⟩ := putF X12 hx hZ hown (host := "") (Or.inl (hw _ (List.mem_of_getElem? (i := 21) rfl))) Via.refl e12 F_size_r0 E_r0 (Or.inl (hw _ (List.mem_of_getElem? (i := 22) rfl))) (hw _ (List.mem_of_getElem? (i := 3) rfl)) (ty := .int) (by decide) rfl rfl (g := (mkF m 127 #[.val (.ref r0), .val (.long p1), .second, .val (.long p2), .second, .val (.long p3), .second, .val (.long p4), .second, .val (.long p5), .second, .val (.int (0 : Int32)), .val (.int (oI (5 * r + 5))), .unset] [(.int (oI (r + 1))), (.ref r0), (.int (oI r))])) rfl rfl (hb hby d3_127)
  replace N0 := Fr.snoc X13 N0 ge_r0
  refine gs st13 ?_
  show Go p e below s QQ 0 0 (T13.setTop (mkF m 130 #[.val (.ref r0), .val (.long p1), .second, .val (.long p2), .second, .val (.long p3), .second, .val (.long p4), .second, .val (.long p5), .second, .val (.int (0 : Int32)), .val (.int (oI (5 * r + 5))), .unset] [(.int (oI r))]))
  replace F_pages_r0 := F_pages_r0.other W13 (Or.inr (slot_ne (Or.inl (hw _ (List.mem_of_getElem? (i := 15) rfl))) (Or.inl (hw _ (List.mem_of_getElem? (i := 22) rfl))) (by decide) (t := (.array (.array .long))) (t' := .int) (by decide) (by decide)))
  replace F_size_r0 := F_size_r0.same W13
  replace E_r0 := E_r0.wr W13
  replace V_pg := V_pg.other W13 (Ne.symm ne_r0_pg)
  replace V_pa := V_pa.other W13 (Ne.symm ne_r0_pa)
  replace ZZ : n0 ≤ h13.size := by rw [W13.size]; exact ZZ
  replace KK := KK.wr W13 (Or.inl (by simp))
  refine gs (fun t => XS.istore X13.here hx rfl (hb hby d3_130) rfl (l' := #[.val (.ref r0), .val (.long p1), .second, .val (.long p2), .second, .val (.long p3), .second, .val (.long p4), .second, .val (.long p5), .second, .val (.int (0 : Int32)), .val (.int (oI (5 * r + 5))), .val (.int (oI r))]) rfl) ?_
  show Go p e below s QQ 0 0 (T13.setTop (mkF m 132 #[.val (.ref r0), .val (.long p1), .second, .val (.long p2), .second, .val (.long p3), .second, .val (.long p4), .second, .val (.long p5), .second, .val (.int (0 : Int32)), .val (.int (oI (5 * r + 5))), .val (.int (oI r))] []))
  refine gs (fun t => XS.aloadN X13.here hx rfl (hb hby d3_132) rfl rfl) ?_
  show Go p e below s QQ 0 0 (T13.setTop (mkF m 133 #[.val (.ref r0), .val (.long p1), .second, .val (.long p2), .second, .val (.long p3), .second, .val (.long p4), .second, .val (.long p5), .second, .val (.int (0 : Int32)), .val (.int (oI (5 * r + 5))), .val (.int (oI r))] [(.ref r0)]))
  refine gs (fun t => XS.iload X13.here hx rfl (hb hby d3_133) rfl) ?_
  show Go p e below s QQ 0 0 (T13.setTop (mkF m 135 #[.val (.ref r0), .val (.long p1), .second, .val (.long p2), .second, .val (.long p3), .second, .val (.long p4), .second, .val (.long p5), .second, .val (.int (0 : Int32)), .val (.int (oI (5 * r + 5))), .val (.int (oI r))] [(.int (oI r)), (.ref r0)]))
  refine gs (fun t => XS.iconst X13.here hx rfl (hb hby d3_135)) ?_
  show Go p e below s QQ 0 0 (T13.setTop (mkF m 136 #[.val (.ref r0), .val (.long p1), .second, .val (.long p2), .second, .val (.long p3), .second, .val (.long p4), .second, .val (.long p5), .second, .val (.int (0 : Int32)), .val (.int (oI (5 * r + 5))), .val (.int (oI r))] [(.int (0 : Int32)), (.int (oI r)), (.ref r0)]))
  refine gs (fun t => XS.lloadN X13.here hx rfl (hb hby d3_136) rfl) ?_
  show Go p e below s QQ 0 0 (T13.setTop (mkF m 137 #[.val (.ref r0), .val (.long p1), .second, .val (.long p2), .second, .val (.long p3), .second, .val (.long p4), .second, .val (.long p5), .second, .val (.int (0 : Int32)), .val (.int (oI (5 * r + 5))), .val (.int (oI r))] [(.long p1), (.int (0 : Int32)), (.int (oI r)), (.ref r0)]))
  show Go p e below s QQ 0 0 (T13.setTop (mkF m 137 #[.val (.ref r0), .val (.long p1), .second, .val (.long p2), .second, .val (.long p3), .second, .val (.long p4), .second, .val (.long p5), .second, .val (.int (0 : Int32)), .val (.int (oI (5 * r + 5))), .val (.int (oI r))] [(.long p1), (.int (oI 0)), (.int (oI r)), (.ref r0)]))
  obtain ⟨cq14, kq14, q14a, q14b, q14c⟩ := isOf hZ e13 E_r0
  obtain ⟨_, _, ⟨T14, L14, k14, n14⟩, -, X14, ⟨Lc14, hQ14, l14, y14, z14⟩, st14⟩ := X13.virtualBack hx (y := (⟨"com/example/interval/interval/service/SlotTable", "set", "(IIJ)V"⟩ : MethodName)) (z := (⟨"com/example/interval/interval/service/SlotTable", "set", "(IIJ)V"⟩ : MethodName)) hown (mvT hZ (hw _ (List.mem_of_getElem? (i := 26) rfl))) (mvT hZ (hw _ (List.mem_of_getElem? (i := 27) rfl))) (notFace_of_selects (args := #[]) (mvT hZ (hw _ (List.mem_of_getElem? (i := 29) rfl)))) (mvT hZ (hw _ (List.mem_of_getElem? (i := 29) rfl))) (mvT hZ (hw _ (List.mem_of_getElem? (i := 28) rfl))) (by decide) (backOf (W := 0) (rm5 l Z a0 hw [] r0 p1 r 0 pg pa fpg fa h13 n0 ZZ F_pages_r0 V_pg hpg V_pa ge_pa ne_r0_pg ne_r0_pa ne_pg_pa (by omega) (by omega)) hZ (hw _ (List.mem_of_getElem? (i := 30) rfl)) (hw _ (List.mem_of_getElem? (i := 4) rfl)) (by decide) (by decide)) q14a q14c (g := (mkF m 137 #[.val (.ref r0), .val (.long p1), .second, .val (.long p2), .second, .val (.long p3), .second, .val (.long p4), .second, .val (.long p5), .second, .val (.int (0 : Int32)), .val (.int (oI (5 * r + 5))), .val (.int (oI r))] [(.long p1), (.int (oI 0)), (.int (oI r)), (.ref r0)])) rfl (by rw [hml]; rfl) (Steps.refl _) (argsL := [(.int (oI r)), (.int (oI 0)), (.long p1)]) (rest := []) (lenOf pd_1 rfl) rfl (by show 2 * 0 + _ ≤ _; exact Nat.le_of_eq rfl) (hb hby d3_137) (fun _ _ => ⟨rfl, e13, (by decide : 0 + 0 ≤ _), (by decide : 0 + 0 ≤ _)⟩)
  dsimp only [Pt.U, Pt.locs, Pt.cells, Pt.slots] at X14 l14 y14 z14 st14 hQ14
  subst l14 y14 z14
  obtain ⟨rfl, N14q, K14, Vn14⟩ := hQ14
  replace N0 := Fr.app N0 N14q
  refine gt st14 ?_
  show Go p e below s QQ 0 0 (T14.setTop (mkF m 140 #[.val (.ref r0), .val (.long p1), .second, .val (.long p2), .second, .val (.long p3), .second, .val (.long p4), .second, .val (.long p5), .second, .val (.int (0 : Int32)), .val (.int (oI (5 * r + 5))), .val (.int (oI r))] []))
  replace F_pages_r0 := F_pages_r0.keep K14 (ninS ne_r0_pa nin0)
  replace F_size_r0 := F_size_r0.keep K14 (ninS ne_r0_pa nin0)
  replace E_r0 := E_r0.keep K14
  replace V_pg := V_pg.keep K14 (ninS ne_pg_pa nin0)
  replace ZZ := Nat.le_trans ZZ K14.1
  replace KK := KK.trans K14 (allS (Or.inl (by simp)) all0)
  have V_pa := Vn14
  refine gs (fun t => XS.aloadN X14.here hx rfl (hb hby d3_140) rfl rfl) ?_
  show Go p e below s QQ 0 0 (T14.setTop (mkF m 141 #[.val (.ref r0), .val (.long p1), .second, .val (.long p2), .second, .val (.long p3), .second, .val (.long p4), .second, .val (.long p5), .second, .val (.int (0 : Int32)), .val (.int (oI (5 * r + 5))), .val (.int (oI r))] [(.ref r0)]))
  refine gs (fun t => XS.iload X14.here hx rfl (hb hby d3_141) rfl) ?_
  show Go p e below s QQ 0 0 (T14.setTop (mkF m 143 #[.val (.ref r0), .val (.long p1), .second, .val (.long p2), .second, .val (.long p3), .second, .val (.long p4), .second, .val (.long p5), .second, .val (.int (0 : Int32)), .val (.int (oI (5 * r + 5))), .val (.int (oI r))] [(.int (oI r)), (.ref r0)]))
  refine gs (fun t => XS.iconst X14.here hx rfl (hb hby d3_143)) ?_
  show Go p e below s QQ 0 0 (T14.setTop (mkF m 144 #[.val (.ref r0), .val (.long p1), .second, .val (.long p2), .second, .val (.long p3), .second, .val (.long p4), .second, .val (.long p5), .second, .val (.int (0 : Int32)), .val (.int (oI (5 * r + 5))), .val (.int (oI r))] [(.int (1 : Int32)), (.int (oI r)), (.ref r0)]))
  refine gs (fun t => XS.lloadN X14.here hx rfl (hb hby d3_144) rfl) ?_
  show Go p e below s QQ 0 0 (T14.setTop (mkF m 145 #[.val (.ref r0), .val (.long p1), .second, .val (.long p2), .second, .val (.long p3), .second, .val (.long p4), .second, .val (.long p5), .second, .val (.int (0 : Int32)), .val (.int (oI (5 * r + 5))), .val (.int (oI r))] [(.long p2), (.int (1 : Int32)), (.int (oI r)), (.ref r0)]))
  show Go p e below s QQ 0 0 (T14.setTop (mkF m 145 #[.val (.ref r0), .val (.long p1), .second, .val (.long p2), .second, .val (.long p3), .second, .val (.long p4), .second, .val (.long p5), .second, .val (.int (0 : Int32)), .val (.int (oI (5 * r + 5))), .val (.int (oI r))] [(.long p2), (.int (oI 1)), (.int (oI r)), (.ref r0)]))
  obtain ⟨cq15, kq15, q15a, q15b, q15c⟩ := isOf hZ rfl E_r0
  obtain ⟨_, _, ⟨T15, L15, k15, n15⟩, -, X15, ⟨Lc15, hQ15, l15, y15, z15⟩, st15⟩ := X14.virtualBack hx (y := (⟨"com/example/interval/interval/service/SlotTable", "set", "(IIJ)V"⟩ : MethodName)) (z := (⟨"com/example/interval/interval/service/SlotTable", "set", "(IIJ)V"⟩ : MethodName)) hown (mvT hZ (hw _ (List.mem_of_getElem? (i := 26) rfl))) (mvT hZ (hw _ (List.mem_of_getElem? (i := 27) rfl))) (notFace_of_selects (args := #[]) (mvT hZ (hw _ (List.mem_of_getElem? (i := 29) rfl)))) (mvT hZ (hw _ (List.mem_of_getElem? (i := 29) rfl))) (mvT hZ (hw _ (List.mem_of_getElem? (i := 28) rfl))) (by decide) (backOf (W := 0) (rm5 l Z a0 hw [] r0 p2 r 1 pg pa fpg (updv fa (5 * r + 0) (.long p1)) T14.heap n0 ZZ F_pages_r0 V_pg hpg V_pa ge_pa ne_r0_pg ne_r0_pa ne_pg_pa (by omega) (by omega)) hZ (hw _ (List.mem_of_getElem? (i := 30) rfl)) (hw _ (List.mem_of_getElem? (i := 4) rfl)) (by decide) (by decide)) q15a q15c (g := (mkF m 145 #[.val (.ref r0), .val (.long p1), .second, .val (.long p2), .second, .val (.long p3), .second, .val (.long p4), .second, .val (.long p5), .second, .val (.int (0 : Int32)), .val (.int (oI (5 * r + 5))), .val (.int (oI r))] [(.long p2), (.int (oI 1)), (.int (oI r)), (.ref r0)])) rfl (by rw [hml]; rfl) (Steps.refl _) (argsL := [(.int (oI r)), (.int (oI 1)), (.long p2)]) (rest := []) (lenOf pd_1 rfl) rfl (by show 2 * 0 + _ ≤ _; exact Nat.le_of_eq rfl) (hb hby d3_145) (fun _ _ => ⟨rfl, rfl, (by decide : 0 + 0 ≤ _), (by decide : 0 + 0 ≤ _)⟩)
  dsimp only [Pt.U, Pt.locs, Pt.cells, Pt.slots] at X15 l15 y15 z15 st15 hQ15
  subst l15 y15 z15
  obtain ⟨rfl, N15q, K15, Vn15⟩ := hQ15
  replace N0 := Fr.app N0 N15q
  refine gt st15 ?_
  show Go p e below s QQ 0 0 (T15.setTop (mkF m 148 #[.val (.ref r0), .val (.long p1), .second, .val (.long p2), .second, .val (.long p3), .second, .val (.long p4), .second, .val (.long p5), .second, .val (.int (0 : Int32)), .val (.int (oI (5 * r + 5))), .val (.int (oI r))] []))
  replace F_pages_r0 := F_pages_r0.keep K15 (ninS ne_r0_pa nin0)
  replace F_size_r0 := F_size_r0.keep K15 (ninS ne_r0_pa nin0)
  replace E_r0 := E_r0.keep K15
  replace V_pg := V_pg.keep K15 (ninS ne_pg_pa nin0)
  replace ZZ := Nat.le_trans ZZ K15.1
  replace KK := KK.trans K15 (allS (Or.inl (by simp)) all0)
  have V_pa := Vn15
  refine gs (fun t => XS.aloadN X15.here hx rfl (hb hby d3_148) rfl rfl) ?_
  show Go p e below s QQ 0 0 (T15.setTop (mkF m 149 #[.val (.ref r0), .val (.long p1), .second, .val (.long p2), .second, .val (.long p3), .second, .val (.long p4), .second, .val (.long p5), .second, .val (.int (0 : Int32)), .val (.int (oI (5 * r + 5))), .val (.int (oI r))] [(.ref r0)]))
  refine gs (fun t => XS.iload X15.here hx rfl (hb hby d3_149) rfl) ?_
  show Go p e below s QQ 0 0 (T15.setTop (mkF m 151 #[.val (.ref r0), .val (.long p1), .second, .val (.long p2), .second, .val (.long p3), .second, .val (.long p4), .second, .val (.long p5), .second, .val (.int (0 : Int32)), .val (.int (oI (5 * r + 5))), .val (.int (oI r))] [(.int (oI r)), (.ref r0)]))
  refine gs (fun t => XS.iconst X15.here hx rfl (hb hby d3_151)) ?_
  show Go p e below s QQ 0 0 (T15.setTop (mkF m 152 #[.val (.ref r0), .val (.long p1), .second, .val (.long p2), .second, .val (.long p3), .second, .val (.long p4), .second, .val (.long p5), .second, .val (.int (0 : Int32)), .val (.int (oI (5 * r + 5))), .val (.int (oI r))] [(.int (2 : Int32)), (.int (oI r)), (.ref r0)]))
  refine gs (fun t => XS.lload X15.here hx rfl (hb hby d3_152) rfl) ?_
  show Go p e below s QQ 0 0 (T15.setTop (mkF m 154 #[.val (.ref r0), .val (.long p1), .second, .val (.long p2), .second, .val (.long p3), .second, .val (.long p4), .second, .val (.long p5), .second, .val (.int (0 : Int32)), .val (.int (oI (5 * r + 5))), .val (.int (oI r))] [(.long p3), (.int (2 : Int32)), (.int (oI r)), (.ref r0)]))
  show Go p e below s QQ 0 0 (T15.setTop (mkF m 154 #[.val (.ref r0), .val (.long p1), .second, .val (.long p2), .second, .val (.long p3), .second, .val (.long p4), .second, .val (.long p5), .second, .val (.int (0 : Int32)), .val (.int (oI (5 * r + 5))), .val (.int (oI r))] [(.long p3), (.int (oI 2)), (.int (oI r)), (.ref r0)]))
  obtain ⟨cq16, kq16, q16a, q16b, q16c⟩ := isOf hZ rfl E_r0
  obtain ⟨_, _, ⟨T16, L16, k16, n16⟩, -, X16, ⟨Lc16, hQ16, l16, y16, z16⟩, st16⟩ := X15.virtualBack hx (y := (⟨"com/example/interval/interval/service/SlotTable", "set", "(IIJ)V"⟩ : MethodName)) (z := (⟨"com/example/interval/interval/service/SlotTable", "set", "(IIJ)V"⟩ : MethodName)) hown (mvT hZ (hw _ (List.mem_of_getElem? (i := 26) rfl))) (mvT hZ (hw _ (List.mem_of_getElem? (i := 27) rfl))) (notFace_of_selects (args := #[]) (mvT hZ (hw _ (List.mem_of_getElem? (i := 29) rfl)))) (mvT hZ (hw _ (List.mem_of_getElem? (i := 29) rfl))) (mvT hZ (hw _ (List.mem_of_getElem? (i := 28) rfl))) (by decide) (backOf (W := 0) (rm5 l Z a0 hw [] r0 p3 r 2 pg pa fpg (updv (updv fa (5 * r + 0) (.long p1)) (5 * r + 1) (.long p2)) T15.heap n0 ZZ F_pages_r0 V_pg hpg V_pa ge_pa ne_r0_pg ne_r0_pa ne_pg_pa (by omega) (by omega)) hZ (hw _ (List.mem_of_getElem? (i := 30) rfl)) (hw _ (List.mem_of_getElem? (i := 4) rfl)) (by decide) (by decide)) q16a q16c (g := (mkF m 154 #[.val (.ref r0), .val (.long p1), .second, .val (.long p2), .second, .val (.long p3), .second, .val (.long p4), .second, .val (.long p5), .second, .val (.int (0 : Int32)), .val (.int (oI (5 * r + 5))), .val (.int (oI r))] [(.long p3), (.int (oI 2)), (.int (oI r)), (.ref r0)])) rfl (by rw [hml]; rfl) (Steps.refl _) (argsL := [(.int (oI r)), (.int (oI 2)), (.long p3)]) (rest := []) (lenOf pd_1 rfl) rfl (by show 2 * 0 + _ ≤ _; exact Nat.le_of_eq rfl) (hb hby d3_154) (fun _ _ => ⟨rfl, rfl, (by decide : 0 + 0 ≤ _), (by decide : 0 + 0 ≤ _)⟩)
  dsimp only [Pt.U, Pt.locs, Pt.cells, Pt.slots] at X16 l16 y16 z16 st16 hQ16
  subst l16 y16 z16
  obtain ⟨rfl, N16q, K16, Vn16⟩ := hQ16
  replace N0 := Fr.app N0 N16q
  refine gt st16 ?_
  show Go p e below s QQ 0 0 (T16.setTop (mkF m 157 #[.val (.ref r0), .val (.long p1), .second, .val (.long p2), .second, .val (.long p3), .second, .val (.long p4), .second, .val (.long p5), .second, .val (.int (0 : Int32)), .val (.int (oI (5 * r + 5))), .val (.int (oI r))] []))
  replace F_pages_r0 := F_pages_r0.keep K16 (ninS ne_r0_pa nin0)
  replace F_size_r0 := F_size_r0.keep K16 (ninS ne_r0_pa nin0)
  replace E_r0 := E_r0.keep K16
  replace V_pg := V_pg.keep K16 (ninS ne_pg_pa nin0)
  replace ZZ := Nat.le_trans ZZ K16.1
  replace KK := KK.trans K16 (allS (Or.inl (by simp)) all0)
  have V_pa := Vn16
  refine gs (fun t => XS.aloadN X16.here hx rfl (hb hby d3_157) rfl rfl) ?_
  show Go p e below s QQ 0 0 (T16.setTop (mkF m 158 #[.val (.ref r0), .val (.long p1), .second, .val (.long p2), .second, .val (.long p3), .second, .val (.long p4), .second, .val (.long p5), .second, .val (.int (0 : Int32)), .val (.int (oI (5 * r + 5))), .val (.int (oI r))] [(.ref r0)]))
  refine gs (fun t => XS.iload X16.here hx rfl (hb hby d3_158) rfl) ?_
  show Go p e below s QQ 0 0 (T16.setTop (mkF m 160 #[.val (.ref r0), .val (.long p1), .second, .val (.long p2), .second, .val (.long p3), .second, .val (.long p4), .second, .val (.long p5), .second, .val (.int (0 : Int32)), .val (.int (oI (5 * r + 5))), .val (.int (oI r))] [(.int (oI r)), (.ref r0)]))
  refine gs (fun t => XS.iconst X16.here hx rfl (hb hby d3_160)) ?_
  show Go p e below s QQ 0 0 (T16.setTop (mkF m 161 #[.val (.ref r0), .val (.long p1), .second, .val (.long p2), .second, .val (.long p3), .second, .val (.long p4), .second, .val (.long p5), .second, .val (.int (0 : Int32)), .val (.int (oI (5 * r + 5))), .val (.int (oI r))] [(.int (3 : Int32)), (.int (oI r)), (.ref r0)]))
  refine gs (fun t => XS.lload X16.here hx rfl (hb hby d3_161) rfl) ?_
  show Go p e below s QQ 0 0 (T16.setTop (mkF m 163 #[.val (.ref r0), .val (.long p1), .second, .val (.long p2), .second, .val (.long p3), .second, .val (.long p4), .second, .val (.long p5), .second, .val (.int (0 : Int32)), .val (.int (oI (5 * r + 5))), .val (.int (oI r))] [(.long p4), (.int (3 : Int32)), (.int (oI r)), (.ref r0)]))
  show Go p e below s QQ 0 0 (T16.setTop (mkF m 163 #[.val (.ref r0), .val (.long p1), .second, .val (.long p2), .second, .val (.long p3), .second, .val (.long p4), .second, .val (.long p5), .second, .val (.int (0 : Int32)), .val (.int (oI (5 * r + 5))), .val (.int (oI r))] [(.long p4), (.int (oI 3)), (.int (oI r)), (.ref r0)]))
  obtain ⟨cq17, kq17, q17a, q17b, q17c⟩ := isOf hZ rfl E_r0
  obtain ⟨_, _, ⟨T17, L17, k17, n17⟩, -, X17, ⟨Lc17, hQ17, l17, y17, z17⟩, st17⟩ := X16.virtualBack hx (y := (⟨"com/example/interval/interval/service/SlotTable", "set", "(IIJ)V"⟩ : MethodName)) (z := (⟨"com/example/interval/interval/service/SlotTable", "set", "(IIJ)V"⟩ : MethodName)) hown (mvT hZ (hw _ (List.mem_of_getElem? (i := 26) rfl))) (mvT hZ (hw _ (List.mem_of_getElem? (i := 27) rfl))) (notFace_of_selects (args := #[]) (mvT hZ (hw _ (List.mem_of_getElem? (i := 29) rfl)))) (mvT hZ (hw _ (List.mem_of_getElem? (i := 29) rfl))) (mvT hZ (hw _ (List.mem_of_getElem? (i := 28) rfl))) (by decide) (backOf (W := 0) (rm5 l Z a0 hw [] r0 p4 r 3 pg pa fpg (updv (updv (updv fa (5 * r + 0) (.long p1)) (5 * r + 1) (.long p2)) (5 * r + 2) (.long p3)) T16.heap n0 ZZ F_pages_r0 V_pg hpg V_pa ge_pa ne_r0_pg ne_r0_pa ne_pg_pa (by omega) (by omega)) hZ (hw _ (List.mem_of_getElem? (i := 30) rfl)) (hw _ (List.mem_of_getElem? (i := 4) rfl)) (by decide) (by decide)) q17a q17c (g := (mkF m 163 #[.val (.ref r0), .val (.long p1), .second, .val (.long p2), .second, .val (.long p3), .second, .val (.long p4), .second, .val (.long p5), .second, .val (.int (0 : Int32)), .val (.int (oI (5 * r + 5))), .val (.int (oI r))] [(.long p4), (.int (oI 3)), (.int (oI r)), (.ref r0)])) rfl (by rw [hml]; rfl) (Steps.refl _) (argsL := [(.int (oI r)), (.int (oI 3)), (.long p4)]) (rest := []) (lenOf pd_1 rfl) rfl (by show 2 * 0 + _ ≤ _; exact Nat.le_of_eq rfl) (hb hby d3_163) (fun _ _ => ⟨rfl, rfl, (by decide : 0 + 0 ≤ _), (by decide : 0 + 0 ≤ _)⟩)
  dsimp only [Pt.U, Pt.locs, Pt.cells, Pt.slots] at X17 l17 y17 z17 st17 hQ17
  subst l17 y17 z17
  obtain ⟨rfl, N17q, K17, Vn17⟩ := hQ17
  replace N0 := Fr.app N0 N17q
  refine gt st17 ?_
  show Go p e below s QQ 0 0 (T17.setTop (mkF m 166 #[.val (.ref r0), .val (.long p1), .second, .val (.long p2), .second, .val (.long p3), .second, .val (.long p4), .second, .val (.long p5), .second, .val (.int (0 : Int32)), .val (.int (oI (5 * r + 5))), .val (.int (oI r))] []))
  replace F_pages_r0 := F_pages_r0.keep K17 (ninS ne_r0_pa nin0)
  replace F_size_r0 := F_size_r0.keep K17 (ninS ne_r0_pa nin0)
  replace E_r0 := E_r0.keep K17
  replace V_pg := V_pg.keep K17 (ninS ne_pg_pa nin0)
  replace ZZ := Nat.le_trans ZZ K17.1
  replace KK := KK.trans K17 (allS (Or.inl (by simp)) all0)
  have V_pa := Vn17
  refine gs (fun t => XS.aloadN X17.here hx rfl (hb hby d3_166) rfl rfl) ?_
  show Go p e below s QQ 0 0 (T17.setTop (mkF m 167 #[.val (.ref r0), .val (.long p1), .second, .val (.long p2), .second, .val (.long p3), .second, .val (.long p4), .second, .val (.long p5), .second, .val (.int (0 : Int32)), .val (.int (oI (5 * r + 5))), .val (.int (oI r))] [(.ref r0)]))
  refine gs (fun t => XS.iload X17.here hx rfl (hb hby d3_167) rfl) ?_
  show Go p e below s QQ 0 0 (T17.setTop (mkF m 169 #[.val (.ref r0), .val (.long p1), .second, .val (.long p2), .second, .val (.long p3), .second, .val (.long p4), .second, .val (.long p5), .second, .val (.int (0 : Int32)), .val (.int (oI (5 * r + 5))), .val (.int (oI r))] [(.int (oI r)), (.ref r0)]))
  refine gs (fun t => XS.iconst X17.here hx rfl (hb hby d3_169)) ?_
  show Go p e below s QQ 0 0 (T17.setTop (mkF m 170 #[.val (.ref r0), .val (.long p1), .second, .val (.long p2), .second, .val (.long p3), .second, .val (.long p4), .second, .val (.long p5), .second, .val (.int (0 : Int32)), .val (.int (oI (5 * r + 5))), .val (.int (oI r))] [(.int (4 : Int32)), (.int (oI r)), (.ref r0)]))
  refine gs (fun t => XS.lload X17.here hx rfl (hb hby d3_170) rfl) ?_
  show Go p e below s QQ 0 0 (T17.setTop (mkF m 172 #[.val (.ref r0), .val (.long p1), .second, .val (.long p2), .second, .val (.long p3), .second, .val (.long p4), .second, .val (.long p5), .second, .val (.int (0 : Int32)), .val (.int (oI (5 * r + 5))), .val (.int (oI r))] [(.long p5), (.int (4 : Int32)), (.int (oI r)), (.ref r0)]))
  show Go p e below s QQ 0 0 (T17.setTop (mkF m 172 #[.val (.ref r0), .val (.long p1), .second, .val (.long p2), .second, .val (.long p3), .second, .val (.long p4), .second, .val (.long p5), .second, .val (.int (0 : Int32)), .val (.int (oI (5 * r + 5))), .val (.int (oI r))] [(.long p5), (.int (oI 4)), (.int (oI r)), (.ref r0)]))
  obtain ⟨cq18, kq18, q18a, q18b, q18c⟩ := isOf hZ rfl E_r0
  obtain ⟨_, _, ⟨T18, L18, k18, n18⟩, -, X18, ⟨Lc18, hQ18, l18, y18, z18⟩, st18⟩ := X17.virtualBack hx (y := (⟨"com/example/interval/interval/service/SlotTable", "set", "(IIJ)V"⟩ : MethodName)) (z := (⟨"com/example/interval/interval/service/SlotTable", "set", "(IIJ)V"⟩ : MethodName)) hown (mvT hZ (hw _ (List.mem_of_getElem? (i := 26) rfl))) (mvT hZ (hw _ (List.mem_of_getElem? (i := 27) rfl))) (notFace_of_selects (args := #[]) (mvT hZ (hw _ (List.mem_of_getElem? (i := 29) rfl)))) (mvT hZ (hw _ (List.mem_of_getElem? (i := 29) rfl))) (mvT hZ (hw _ (List.mem_of_getElem? (i := 28) rfl))) (by decide) (backOf (W := 0) (rm5 l Z a0 hw [] r0 p5 r 4 pg pa fpg (updv (updv (updv (updv fa (5 * r + 0) (.long p1)) (5 * r + 1) (.long p2)) (5 * r + 2) (.long p3)) (5 * r + 3) (.long p4)) T17.heap n0 ZZ F_pages_r0 V_pg hpg V_pa ge_pa ne_r0_pg ne_r0_pa ne_pg_pa (by omega) (by omega)) hZ (hw _ (List.mem_of_getElem? (i := 30) rfl)) (hw _ (List.mem_of_getElem? (i := 4) rfl)) (by decide) (by decide)) q18a q18c (g := (mkF m 172 #[.val (.ref r0), .val (.long p1), .second, .val (.long p2), .second, .val (.long p3), .second, .val (.long p4), .second, .val (.long p5), .second, .val (.int (0 : Int32)), .val (.int (oI (5 * r + 5))), .val (.int (oI r))] [(.long p5), (.int (oI 4)), (.int (oI r)), (.ref r0)])) rfl (by rw [hml]; rfl) (Steps.refl _) (argsL := [(.int (oI r)), (.int (oI 4)), (.long p5)]) (rest := []) (lenOf pd_1 rfl) rfl (by show 2 * 0 + _ ≤ _; exact Nat.le_of_eq rfl) (hb hby d3_172) (fun _ _ => ⟨rfl, rfl, (by decide : 0 + 0 ≤ _), (by decide : 0 + 0 ≤ _)⟩)
  dsimp only [Pt.U, Pt.locs, Pt.cells, Pt.slots] at X18 l18 y18 z18 st18 hQ18
  subst l18 y18 z18
  obtain ⟨rfl, N18q, K18, Vn18⟩ := hQ18
  replace N0 := Fr.app N0 N18q
  refine gt st18 ?_
  show Go p e below s QQ 0 0 (T18.setTop (mkF m 175 #[.val (.ref r0), .val (.long p1), .second, .val (.long p2), .second, .val (.long p3), .second, .val (.long p4), .second, .val (.long p5), .second, .val (.int (0 : Int32)), .val (.int (oI (5 * r + 5))), .val (.int (oI r))] []))
  replace F_pages_r0 := F_pages_r0.keep K18 (ninS ne_r0_pa nin0)
  replace F_size_r0 := F_size_r0.keep K18 (ninS ne_r0_pa nin0)
  replace E_r0 := E_r0.keep K18
  replace V_pg := V_pg.keep K18 (ninS ne_pg_pa nin0)
  replace ZZ := Nat.le_trans ZZ K18.1
  replace KK := KK.trans K18 (allS (Or.inl (by simp)) all0)
  have V_pa := Vn18
  refine gs (fun t => XS.iload X18.here hx rfl (hb hby d3_175) rfl) ?_
  show Go p e below s QQ 0 0 (T18.setTop (mkF m 177 #[.val (.ref r0), .val (.long p1), .second, .val (.long p2), .second, .val (.long p3), .second, .val (.long p4), .second, .val (.long p5), .second, .val (.int (0 : Int32)), .val (.int (oI (5 * r + 5))), .val (.int (oI r))] [(.int (oI r))]))
  exact goI X18 hx Bd.notSynchronized Bd.returns (hb hby d3_177) (by rw [← hQQ]; exact ⟨rfl, N0, KK, F_pages_r0, F_size_r0, V_pa⟩) (by decide) (by decide)
theorem d1_0 : decode prog_27_method_1_code 0 = .ok (.aload_n 0, 1) := by decide +kernel
theorem d1_1 : decode prog_27_method_1_code 1 = .ok (.invokespecial 3, 3) := by decide +kernel
theorem d1_4 : decode prog_27_method_1_code 4 = .ok (.aload_n 0, 1) := by decide +kernel
theorem d1_5 : decode prog_27_method_1_code 5 = .ok (.iconst 1, 1) := by decide +kernel
theorem d1_6 : decode prog_27_method_1_code 6 = .ok (.anewarray 9, 3) := by decide +kernel
theorem d1_9 : decode prog_27_method_1_code 9 = .ok (.dup, 1) := by decide +kernel
theorem d1_10 : decode prog_27_method_1_code 10 = .ok (.iconst 0, 1) := by decide +kernel
theorem d1_11 : decode prog_27_method_1_code 11 = .ok (.bipush 40, 2) := by decide +kernel
theorem d1_13 : decode prog_27_method_1_code 13 = .ok (.newarray .long, 2) := by decide +kernel
theorem d1_15 : decode prog_27_method_1_code 15 = .ok (.aastore, 1) := by decide +kernel
theorem d1_16 : decode prog_27_method_1_code 16 = .ok (.putfield 11, 3) := by decide +kernel
theorem d1_19 : decode prog_27_method_1_code 19 = .ok (.return_, 1) := by decide +kernel
theorem pn_1 : plainName "com/example/interval/interval/service/SlotTable" = true := by first | (simp [plainName, overriddenIn]; done) | decide +kernel
def Qrm1 (Z : State) (r0 : Addr) (h0 : Heap) (n0 : Nat) (v : Option Value) (h : Heap) (L : List Loc) : Prop := ∃ pg pa : Addr, v = none ∧ Fr n0 L ∧ Keep h0 h [r0] ∧ Fld Z h r0 "com/example/interval/interval/service/SlotTable" "pages" "[[J" (.ref pg) ∧ Fld Z h r0 "com/example/interval/interval/service/SlotTable" "size" "I" (.int (oI 0)) ∧ Arf Z h pg (.array .long) 1 (updv (fun _ => .null) 0 (.ref pa)) ∧ Arf Z h pa .long 40 (fun _ => .long 0) ∧ h0.size ≤ pg ∧ h0.size ≤ pa ∧ pg ≠ pa
set_option maxRecDepth 65536 in
set_option maxHeartbeats 40000000 in
theorem rm1 (l : Launch) (Z : State) (a0 : Array Value) (hw : ∀ d ∈ tables_1, d.before a0 Z = true) (ws : List Jvm.Cond) (r0 : Addr) (h0 : Heap) (n0 : Nat) (Z0 : n0 ≤ h0.size) (F_pages_r0 : Fld Z h0 r0 "com/example/interval/interval/service/SlotTable" "pages" "[[J" .null) (F_size_r0 : Fld Z h0 r0 "com/example/interval/interval/service/SlotTable" "size" "I" (.int (0 : Int32))) (E_r0 : Exa Z h0 r0 "com/example/interval/interval/service/SlotTable") (ge_r0 : n0 ≤ r0) :
    MetFree l (⟨"com/example/interval/interval/service/SlotTable", "<init>", "()V"⟩ : MethodName) (head1 (Jvm.Cond.code (⟨"com/example/interval/interval/service/SlotTable", "<init>", "()V"⟩ : MethodName) prog_27_method_1_code 1 none :: ws) ({ frames := 1, cells := 2, slots := 41, locals := 12 } : Room)) (fun a U => a = #[(.ref r0)] ∧ Z.Warmed39 U.vm ∧ U.heap = h0) (fun _ _ _ _ _ => True) (fun _ U o U' => ∃ v L, o = .returned v ∧ Qrm1 Z r0 h0 n0 v U'.heap L ∧ FrameEnd U o U' L ({ frames := 1, cells := 2, slots := 41, locals := 12 } : Room).cells ({ frames := 1, cells := 2, slots := 41, locals := 12 } : Room).slots) := by
  refine MetFree.of_bodySF (plainFor_of_name pn_1) hisR ?_
  intro p e s m args below meth c s₁ Bd hml0 hP hK
  obtain ⟨rfl, hZ, hh⟩ := hP
  have hx := Bd.exec
  have hby := Bd.bytes
  have hml : c.maxLocals = 1 := hml0
  have hown : s.vm.findClass "com/example/interval/interval/service/SlotTable" = some m.cls := findClass_of_methodNamed Bd.named
  have hnm := (name_of_methodNamed Bd.named Bd.method).1
  have X0 : Stand p l e ({ frames := 1, cells := 2, slots := 41, locals := 12 } : Room) s m #[(.ref r0)] below meth c s₁ [] 0 0 := Stand.of_body Bd
  have e0 : s₁.heap = h0 := by rw [← hh, Bd.state]; rfl
  have N0 := Fr.nil n0
  have ZZ := Z0
  have KK : Keep h0 h0 [r0] := Keep.refl h0 _
  show Go p e below s (Qrm1 Z r0 h0 n0) 2 41 (s₁.setTop (entryFrame m #[(.ref r0)] 1))
  generalize hQQ : (Qrm1 Z r0 h0 n0) = QQ
  refine gs (fun t k => castTop (g' := (mkF m 0 #[.val (.ref r0)] [])) (by first | (simp [entryFrame, mkF, argsToLocals, Value.category, maxLocals]; done) | rfl) k) ?_
  show Go p e below s QQ 2 41 (s₁.setTop (mkF m 0 #[.val (.ref r0)] []))
  refine gs (fun t => XS.aloadN X0.here hx rfl (hb hby d1_0) rfl rfl) ?_
  show Go p e below s QQ 2 41 (s₁.setTop (mkF m 1 #[.val (.ref r0)] [(.ref r0)]))
  obtain ⟨T19, X19, e19, st19⟩ := initO X0 hx hZ hown (hw _ (List.mem_of_getElem? (i := 8) rfl)) (hw _ (List.mem_of_getElem? (i := 9) rfl)) (hw _ (List.mem_of_getElem? (i := 10) rfl)) e0 (g := (mkF m 1 #[.val (.ref r0)] [(.ref r0)])) rfl (by rw [hml]; rfl) rfl (hb hby d1_1) (by decide) (W := 0) (by show 2 * 0 + _ ≤ _; exact Nat.le_of_eq rfl) (by decide)
  refine gs st19 ?_
  show Go p e below s QQ 2 41 (T19.setTop (mkF m 4 #[.val (.ref r0)] []))
  refine gs (fun t => XS.aloadN X19.here hx rfl (hb hby d1_4) rfl rfl) ?_
  show Go p e below s QQ 2 41 (T19.setTop (mkF m 5 #[.val (.ref r0)] [(.ref r0)]))
  refine gs (fun t => XS.iconst X19.here hx rfl (hb hby d1_5)) ?_
  show Go p e below s QQ 2 41 (T19.setTop (mkF m 6 #[.val (.ref r0)] [(.int (1 : Int32)), (.ref r0)]))
  obtain ⟨T20, h20, k20, X20, e20, E20, A20, Q20, O20, st20⟩ := newRA X19 hx hZ hown (ty := .long) (by decide) (hw _ (List.mem_of_getElem? (i := 11) rfl)) (hw _ (List.mem_of_getElem? (i := 12) rfl)) e19 (g := (mkF m 6 #[.val (.ref r0)] [(.int (1 : Int32)), (.ref r0)])) rfl (hb hby d1_6) rfl (by decide) (cap := 1) (by decide) (by decide) (by decide) (by decide) (ad := "[[J") (by decide)
  obtain ⟨b20, g20⟩ : ∃ z, z = h0.size := ⟨_, rfl⟩
  rw [← g20] at A20 st20 Q20
  have ge_b20 : n0 ≤ b20 := by rw [g20]; exact ZZ
  have sz_b20 : h0.size ≤ b20 := by rw [g20]; exact KK.1
  have ne_r0_b20 : r0 ≠ b20 := by rw [g20]; exact Nat.ne_of_lt F_pages_r0.lt
  refine gs st20 ?_
  show Go p e below s QQ 2 41 (T20.setTop (mkF m 9 #[.val (.ref r0)] [(.ref b20), (.ref r0)]))
  replace F_pages_r0 := F_pages_r0.ext E20
  replace F_size_r0 := F_size_r0.ext E20
  replace E_r0 := E_r0.ext E20
  replace ZZ := Nat.le_trans ZZ E20.1
  replace KK := KK.ext E20
  have V_b20 : Arf Z h20 b20 (.array .long) 1 (fun _ => .null) := Arf.new A20
  have TK_b20 : Tak Z h20 b20 "[J" := Tak.ofA A20 O20
  refine gs (fun t => XS.dup X20.here hx rfl (hb hby d1_9) rfl rfl) ?_
  show Go p e below s QQ 2 41 (T20.setTop (mkF m 10 #[.val (.ref r0)] [(.ref b20), (.ref b20), (.ref r0)]))
  refine gs (fun t => XS.iconst X20.here hx rfl (hb hby d1_10)) ?_
  show Go p e below s QQ 2 41 (T20.setTop (mkF m 11 #[.val (.ref r0)] [(.int (0 : Int32)), (.ref b20), (.ref b20), (.ref r0)]))
  refine gs (fun t => XS.bipush X20.here hx rfl (hb hby d1_11)) ?_
  show Go p e below s QQ 2 41 (T20.setTop (mkF m 13 #[.val (.ref r0)] [(.int (40 : Int32)), (.int (0 : Int32)), (.ref b20), (.ref b20), (.ref r0)]))
  obtain ⟨T21, h21, k21, X21, e21, E21, A21, Q21, st21⟩ := newPE X20 hx hZ (hw _ (List.mem_of_getElem? (i := 0) rfl)) e20 (g := (mkF m 13 #[.val (.ref r0)] [(.int (40 : Int32)), (.int (0 : Int32)), (.ref b20), (.ref b20), (.ref r0)])) rfl (hb hby d1_13) rfl (by decide) (cap := 40) (by decide) (by decide) (by decide) (by decide) (ad := "[J") (by decide)
  obtain ⟨b21, g21⟩ : ∃ z, z = h20.size := ⟨_, rfl⟩
  rw [← g21] at A21 st21 Q21
  have ge_b21 : n0 ≤ b21 := by rw [g21]; exact ZZ
  have sz_b21 : h0.size ≤ b21 := by rw [g21]; exact KK.1
  have ne_r0_b21 : r0 ≠ b21 := by rw [g21]; exact Nat.ne_of_lt F_pages_r0.lt
  have ne_b20_b21 : b20 ≠ b21 := by rw [g21]; exact Nat.ne_of_lt V_b20.lt
  refine gs st21 ?_
  show Go p e below s QQ 2 41 (T21.setTop (mkF m 15 #[.val (.ref r0)] [(.ref b21), (.int (0 : Int32)), (.ref b20), (.ref b20), (.ref r0)]))
  replace F_pages_r0 := F_pages_r0.ext E21
  replace F_size_r0 := F_size_r0.ext E21
  replace E_r0 := E_r0.ext E21
  replace V_b20 := V_b20.ext E21
  replace TK_b20 := TK_b20.ext E21
  replace ZZ := Nat.le_trans ZZ E21.1
  replace KK := KK.ext E21
  have V_b21 : Arf Z h21 b21 .long 40 (fun _ => .long 0) := Arf.new A21
  have Ex_b21 := Q21
  obtain ⟨T22, h22, X22, e22, W22, V22, st22⟩ := stRf X21 hx hZ e21 V_b20 rfl (TK_b20.sto (Ins.self Ex_b21)) (j := (0 : Int32)) (by decide) (g := (mkF m 15 #[.val (.ref r0)] [(.ref b21), (.int (0 : Int32)), (.ref b20), (.ref b20), (.ref r0)])) rfl rfl (hb hby d1_15)
  replace N0 := Fr.snoc X22 N0 ge_b20
  refine gs st22 ?_
  show Go p e below s QQ 2 41 (T22.setTop (mkF m 16 #[.val (.ref r0)] [(.ref b20), (.ref r0)]))
  replace F_pages_r0 := F_pages_r0.other W22 (Or.inl ne_r0_b20)
  replace F_size_r0 := F_size_r0.other W22 (Or.inl ne_r0_b20)
  replace E_r0 := E_r0.wr W22
  replace TK_b20 := TK_b20.wr W22
  replace V_b21 := V_b21.other W22 (Ne.symm ne_b20_b21)
  replace Ex_b21 := Ex_b21.wr W22
  replace ZZ : n0 ≤ h22.size := by rw [W22.size]; exact ZZ
  replace KK := KK.wr W22 (Or.inr sz_b20)
  replace V_b20 : Arf Z h22 b20 (.array .long) 1 (updv (fun _ => .null) 0 (.ref b21)) := V22
  obtain ⟨T23, h23, X23, e23, W23, st23⟩ := putF X22 hx hZ hown (host := "") (Or.inl (hw _ (List.mem_of_getElem? (i := 14) rfl))) Via.refl e22 F_pages_r0 E_r0 (Or.inl (hw _ (List.mem_of_getElem? (i := 15) rfl))) (hw _ (List.mem_of_getElem? (i := 3) rfl)) (ty := (.array (.array .long))) (by decide) rfl rfl (g := (mkF m 16 #[.val (.ref r0)] [(.ref b20), (.ref r0)])) rfl rfl (hb hby d1_16)
  replace N0 := Fr.snoc X23 N0 ge_r0
  refine gs st23 ?_
  show Go p e below s QQ 2 41 (T23.setTop (mkF m 19 #[.val (.ref r0)] []))
  replace F_pages_r0 := F_pages_r0.same W23
  replace F_size_r0 := F_size_r0.other W23 (Or.inr (slot_ne (Or.inl (hw _ (List.mem_of_getElem? (i := 22) rfl))) (Or.inl (hw _ (List.mem_of_getElem? (i := 15) rfl))) (by decide) (t := .int) (t' := (.array (.array .long))) (by decide) (by decide)))
  replace E_r0 := E_r0.wr W23
  replace V_b20 := V_b20.other W23 (Ne.symm ne_r0_b20)
  replace TK_b20 := TK_b20.wr W23
  replace V_b21 := V_b21.other W23 (Ne.symm ne_r0_b21)
  replace Ex_b21 := Ex_b21.wr W23
  replace ZZ : n0 ≤ h23.size := by rw [W23.size]; exact ZZ
  replace KK := KK.wr W23 (Or.inl (by simp))
  exact goV X23 hx Bd.notSynchronized Bd.returns (hb hby d1_19) (by rw [← hQQ, e23]; exact ⟨b20, b21, rfl, N0, KK, F_pages_r0, F_size_r0, V_b20, V_b21, sz_b20, sz_b21, ne_b20_b21⟩) (by decide) (by decide)
theorem d6_0 : decode prog_27_method_7_code 0 = .ok (.aload_n 0, 1) := by decide +kernel
theorem d6_1 : decode prog_27_method_7_code 1 = .ok (.dup, 1) := by decide +kernel
theorem d6_2 : decode prog_27_method_7_code 2 = .ok (.getfield 15, 3) := by decide +kernel
theorem d6_5 : decode prog_27_method_7_code 5 = .ok (.iconst 1, 1) := by decide +kernel
theorem d6_6 : decode prog_27_method_7_code 6 = .ok (.isub, 1) := by decide +kernel
theorem d6_7 : decode prog_27_method_7_code 7 = .ok (.putfield 15, 3) := by decide +kernel
theorem d6_10 : decode prog_27_method_7_code 10 = .ok (.aload_n 0, 1) := by decide +kernel
theorem d6_11 : decode prog_27_method_7_code 11 = .ok (.getfield 15, 3) := by decide +kernel
theorem d6_14 : decode prog_27_method_7_code 14 = .ok (.iconst 1, 1) := by decide +kernel
theorem d6_15 : decode prog_27_method_7_code 15 = .ok (.isub, 1) := by decide +kernel
theorem d6_16 : decode prog_27_method_7_code 16 = .ok (.bipush 12, 2) := by decide +kernel
theorem d6_18 : decode prog_27_method_7_code 18 = .ok (.ishr, 1) := by decide +kernel
theorem d6_19 : decode prog_27_method_7_code 19 = .ok (.iconst 2, 1) := by decide +kernel
theorem d6_20 : decode prog_27_method_7_code 20 = .ok (.iadd, 1) := by decide +kernel
theorem d6_21 : decode prog_27_method_7_code 21 = .ok (.istore_n 1, 1) := by decide +kernel
theorem d6_22 : decode prog_27_method_7_code 22 = .ok (.iload_n 1, 1) := by decide +kernel
theorem d6_23 : decode prog_27_method_7_code 23 = .ok (.aload_n 0, 1) := by decide +kernel
theorem d6_24 : decode prog_27_method_7_code 24 = .ok (.getfield 11, 3) := by decide +kernel
theorem d6_27 : decode prog_27_method_7_code 27 = .ok (.arraylength, 1) := by decide +kernel
theorem d6_28 : decode prog_27_method_7_code 28 = .ok (.if_icmp .ge 10, 3) := by decide +kernel
theorem d6_31 : decode prog_27_method_7_code 31 = .ok (.aload_n 0, 1) := by decide +kernel
theorem d6_32 : decode prog_27_method_7_code 32 = .ok (.getfield 11, 3) := by decide +kernel
theorem d6_35 : decode prog_27_method_7_code 35 = .ok (.iload_n 1, 1) := by decide +kernel
theorem d6_36 : decode prog_27_method_7_code 36 = .ok (.aconst_null, 1) := by decide +kernel
theorem d6_37 : decode prog_27_method_7_code 37 = .ok (.aastore, 1) := by decide +kernel
theorem d6_38 : decode prog_27_method_7_code 38 = .ok (.return_, 1) := by decide +kernel
theorem pn_6 : plainName "com/example/interval/interval/service/SlotTable" = true := by first | (simp [plainName, overriddenIn]; done) | decide +kernel
def Qrm6 (Z : State) (r0 : Addr) (r : Nat) (pg : Addr) (fpg : Nat → Value) (h0 : Heap) (n0 : Nat) (v : Option Value) (h : Heap) (L : List Loc) : Prop := v = none ∧ Fr n0 L ∧ Keep h0 h [r0] ∧ Fld Z h r0 "com/example/interval/interval/service/SlotTable" "pages" "[[J" (.ref pg) ∧ Fld Z h r0 "com/example/interval/interval/service/SlotTable" "size" "I" (.int (oI r))
set_option maxRecDepth 65536 in
set_option maxHeartbeats 40000000 in
theorem rm6 (l : Launch) (Z : State) (a0 : Array Value) (hw : ∀ d ∈ tables_1, d.before a0 Z = true) (ws : List Jvm.Cond) (r0 : Addr) (r : Nat) (pg : Addr) (fpg : Nat → Value) (h0 : Heap) (n0 : Nat) (Z0 : n0 ≤ h0.size) (F_pages_r0 : Fld Z h0 r0 "com/example/interval/interval/service/SlotTable" "pages" "[[J" (.ref pg)) (F_size_r0 : Fld Z h0 r0 "com/example/interval/interval/service/SlotTable" "size" "I" (.int (oI (r + 1)))) (E_r0 : Exa Z h0 r0 "com/example/interval/interval/service/SlotTable") (V_pg : Arf Z h0 pg (.array .long) 1 fpg) (ge_r0 : n0 ≤ r0) (ne_r0_pg : r0 ≠ pg) (hr : r < 100) :
    MetFree l (⟨"com/example/interval/interval/service/SlotTable", "removeLast", "()V"⟩ : MethodName) (head1 (Jvm.Cond.code (⟨"com/example/interval/interval/service/SlotTable", "removeLast", "()V"⟩ : MethodName) prog_27_method_7_code 2 none :: ws) ({ frames := 0, cells := 0, slots := 0, locals := 0 } : Room)) (fun a U => a = #[(.ref r0)] ∧ Z.Warmed39 U.vm ∧ U.heap = h0) (fun _ _ _ _ _ => True) (fun _ U o U' => ∃ v L, o = .returned v ∧ Qrm6 Z r0 r pg fpg h0 n0 v U'.heap L ∧ FrameEnd U o U' L ({ frames := 0, cells := 0, slots := 0, locals := 0 } : Room).cells ({ frames := 0, cells := 0, slots := 0, locals := 0 } : Room).slots) := by
  refine MetFree.of_bodySF (plainFor_of_name pn_6) hisR ?_
  intro p e s m args below meth c s₁ Bd hml0 hP hK
  obtain ⟨rfl, hZ, hh⟩ := hP
  have hx := Bd.exec
  have hby := Bd.bytes
  have hml : c.maxLocals = 2 := hml0
  have hown : s.vm.findClass "com/example/interval/interval/service/SlotTable" = some m.cls := findClass_of_methodNamed Bd.named
  have hnm := (name_of_methodNamed Bd.named Bd.method).1
  have X0 : Stand p l e ({ frames := 0, cells := 0, slots := 0, locals := 0 } : Room) s m #[(.ref r0)] below meth c s₁ [] 0 0 := Stand.of_body Bd
  have e0 : s₁.heap = h0 := by rw [← hh, Bd.state]; rfl
  have N0 := Fr.nil n0
  have ZZ := Z0
  have KK : Keep h0 h0 [r0] := Keep.refl h0 _
  show Go p e below s (Qrm6 Z r0 r pg fpg h0 n0) 0 0 (s₁.setTop (entryFrame m #[(.ref r0)] 2))
  generalize hQQ : (Qrm6 Z r0 r pg fpg h0 n0) = QQ
  refine gs (fun t k => castTop (g' := (mkF m 0 #[.val (.ref r0), .unset] [])) (by first | (simp [entryFrame, mkF, argsToLocals, Value.category, maxLocals]; done) | rfl) k) ?_
  show Go p e below s QQ 0 0 (s₁.setTop (mkF m 0 #[.val (.ref r0), .unset] []))
  refine gs (fun t => XS.aloadN X0.here hx rfl (hb hby d6_0) rfl rfl) ?_
  show Go p e below s QQ 0 0 (s₁.setTop (mkF m 1 #[.val (.ref r0), .unset] [(.ref r0)]))
  refine gs (fun t => XS.dup X0.here hx rfl (hb hby d6_1) rfl rfl) ?_
  show Go p e below s QQ 0 0 (s₁.setTop (mkF m 2 #[.val (.ref r0), .unset] [(.ref r0), (.ref r0)]))
  obtain ⟨T24, X24, e24, st24⟩ := getF X0 hx hZ hown (host := "") (Or.inl (hw _ (List.mem_of_getElem? (i := 21) rfl))) Via.refl e0 F_size_r0 (g := (mkF m 2 #[.val (.ref r0), .unset] [(.ref r0), (.ref r0)])) rfl rfl (hb hby d6_2)
  refine gs st24 ?_
  show Go p e below s QQ 0 0 (T24.setTop (mkF m 5 #[.val (.ref r0), .unset] [(.int (oI (r + 1))), (.ref r0)]))
  refine gs (fun t => XS.iconst X24.here hx rfl (hb hby d6_5)) ?_
  show Go p e below s QQ 0 0 (T24.setTop (mkF m 6 #[.val (.ref r0), .unset] [(.int (1 : Int32)), (.int (oI (r + 1))), (.ref r0)]))
  refine gs (fun t => XS.isub X24.here hx rfl (hb hby d6_6) rfl) ?_
  show Go p e below s QQ 0 0 (T24.setTop (mkF m 7 #[.val (.ref r0), .unset] [(.int ((oI (r + 1)) - (1 : Int32))), (.ref r0)]))
  rw [show ((oI (r + 1)) - (1 : Int32)) = (oI r) from own_dec hr]
  show Go p e below s QQ 0 0 (T24.setTop (mkF m 7 #[.val (.ref r0), .unset] [(.int (oI r)), (.ref r0)]))
  obtain ⟨T25, h25, X25, e25, W25, st25⟩ := putF X24 hx hZ hown (host := "") (Or.inl (hw _ (List.mem_of_getElem? (i := 21) rfl))) Via.refl e24 F_size_r0 E_r0 (Or.inl (hw _ (List.mem_of_getElem? (i := 22) rfl))) (hw _ (List.mem_of_getElem? (i := 3) rfl)) (ty := .int) (by decide) rfl rfl (g := (mkF m 7 #[.val (.ref r0), .unset] [(.int (oI r)), (.ref r0)])) rfl rfl (hb hby d6_7)
  replace N0 := Fr.snoc X25 N0 ge_r0
  refine gs st25 ?_
  show Go p e below s QQ 0 0 (T25.setTop (mkF m 10 #[.val (.ref r0), .unset] []))
  replace F_pages_r0 := F_pages_r0.other W25 (Or.inr (slot_ne (Or.inl (hw _ (List.mem_of_getElem? (i := 15) rfl))) (Or.inl (hw _ (List.mem_of_getElem? (i := 22) rfl))) (by decide) (t := (.array (.array .long))) (t' := .int) (by decide) (by decide)))
  replace F_size_r0 := F_size_r0.same W25
  replace E_r0 := E_r0.wr W25
  replace V_pg := V_pg.other W25 (Ne.symm ne_r0_pg)
  replace ZZ : n0 ≤ h25.size := by rw [W25.size]; exact ZZ
  replace KK := KK.wr W25 (Or.inl (by simp))
  refine gs (fun t => XS.aloadN X25.here hx rfl (hb hby d6_10) rfl rfl) ?_
  show Go p e below s QQ 0 0 (T25.setTop (mkF m 11 #[.val (.ref r0), .unset] [(.ref r0)]))
  obtain ⟨T26, X26, e26, st26⟩ := getF X25 hx hZ hown (host := "") (Or.inl (hw _ (List.mem_of_getElem? (i := 21) rfl))) Via.refl e25 F_size_r0 (g := (mkF m 11 #[.val (.ref r0), .unset] [(.ref r0)])) rfl rfl (hb hby d6_11)
  refine gs st26 ?_
  show Go p e below s QQ 0 0 (T26.setTop (mkF m 14 #[.val (.ref r0), .unset] [(.int (oI r))]))
  refine gs (fun t => XS.iconst X26.here hx rfl (hb hby d6_14)) ?_
  show Go p e below s QQ 0 0 (T26.setTop (mkF m 15 #[.val (.ref r0), .unset] [(.int (1 : Int32)), (.int (oI r))]))
  refine gs (fun t => XS.isub X26.here hx rfl (hb hby d6_15) rfl) ?_
  show Go p e below s QQ 0 0 (T26.setTop (mkF m 16 #[.val (.ref r0), .unset] [(.int ((oI r) - (1 : Int32)))]))
  refine gs (fun t => XS.bipush X26.here hx rfl (hb hby d6_16)) ?_
  show Go p e below s QQ 0 0 (T26.setTop (mkF m 18 #[.val (.ref r0), .unset] [(.int (12 : Int32)), (.int ((oI r) - (1 : Int32)))]))
  refine gs (fun t => XS.ishr X26.here hx rfl (hb hby d6_18) rfl) ?_
  show Go p e below s QQ 0 0 (T26.setTop (mkF m 19 #[.val (.ref r0), .unset] [(.int (((oI r) - (1 : Int32)) >>> ((12 : Int32) &&& 31)))]))
  refine gs (fun t => XS.iconst X26.here hx rfl (hb hby d6_19)) ?_
  show Go p e below s QQ 0 0 (T26.setTop (mkF m 20 #[.val (.ref r0), .unset] [(.int (2 : Int32)), (.int (((oI r) - (1 : Int32)) >>> ((12 : Int32) &&& 31)))]))
  refine gs (fun t => XS.iadd X26.here hx rfl (hb hby d6_20) rfl) ?_
  show Go p e below s QQ 0 0 (T26.setTop (mkF m 21 #[.val (.ref r0), .unset] [(.int ((((oI r) - (1 : Int32)) >>> ((12 : Int32) &&& 31)) + (2 : Int32)))]))
  refine gs (fun t => XS.istoreN X26.here hx rfl (hb hby d6_21) rfl (l' := #[.val (.ref r0), .val (.int ((((oI r) - (1 : Int32)) >>> ((12 : Int32) &&& 31)) + (2 : Int32)))]) rfl) ?_
  show Go p e below s QQ 0 0 (T26.setTop (mkF m 22 #[.val (.ref r0), .val (.int ((((oI r) - (1 : Int32)) >>> ((12 : Int32) &&& 31)) + (2 : Int32)))] []))
  refine gs (fun t => XS.iloadN X26.here hx rfl (hb hby d6_22) rfl) ?_
  show Go p e below s QQ 0 0 (T26.setTop (mkF m 23 #[.val (.ref r0), .val (.int ((((oI r) - (1 : Int32)) >>> ((12 : Int32) &&& 31)) + (2 : Int32)))] [(.int ((((oI r) - (1 : Int32)) >>> ((12 : Int32) &&& 31)) + (2 : Int32)))]))
  refine gs (fun t => XS.aloadN X26.here hx rfl (hb hby d6_23) rfl rfl) ?_
  show Go p e below s QQ 0 0 (T26.setTop (mkF m 24 #[.val (.ref r0), .val (.int ((((oI r) - (1 : Int32)) >>> ((12 : Int32) &&& 31)) + (2 : Int32)))] [(.ref r0), (.int ((((oI r) - (1 : Int32)) >>> ((12 : Int32) &&& 31)) + (2 : Int32)))]))
  obtain ⟨T27, X27, e27, st27⟩ := getF X26 hx hZ hown (host := "") (Or.inl (hw _ (List.mem_of_getElem? (i := 14) rfl))) Via.refl e26 F_pages_r0 (g := (mkF m 24 #[.val (.ref r0), .val (.int ((((oI r) - (1 : Int32)) >>> ((12 : Int32) &&& 31)) + (2 : Int32)))] [(.ref r0), (.int ((((oI r) - (1 : Int32)) >>> ((12 : Int32) &&& 31)) + (2 : Int32)))])) rfl rfl (hb hby d6_24)
  refine gs st27 ?_
  show Go p e below s QQ 0 0 (T27.setTop (mkF m 27 #[.val (.ref r0), .val (.int ((((oI r) - (1 : Int32)) >>> ((12 : Int32) &&& 31)) + (2 : Int32)))] [(.ref pg), (.int ((((oI r) - (1 : Int32)) >>> ((12 : Int32) &&& 31)) + (2 : Int32)))]))
  refine gs (fun t => lenf X27 hx hZ e27 V_pg (z := (1 : Int32)) rfl (g := (mkF m 27 #[.val (.ref r0), .val (.int ((((oI r) - (1 : Int32)) >>> ((12 : Int32) &&& 31)) + (2 : Int32)))] [(.ref pg), (.int ((((oI r) - (1 : Int32)) >>> ((12 : Int32) &&& 31)) + (2 : Int32)))])) rfl rfl (hb hby d6_27) t) ?_
  show Go p e below s QQ 0 0 (T27.setTop (mkF m 28 #[.val (.ref r0), .val (.int ((((oI r) - (1 : Int32)) >>> ((12 : Int32) &&& 31)) + (2 : Int32)))] [(.int (1 : Int32)), (.int ((((oI r) - (1 : Int32)) >>> ((12 : Int32) &&& 31)) + (2 : Int32)))]))
  refine gs (fun t => XS.icmpYes X27.here hx rfl (pc0 := 28) (pc' := 38) rfl (hb hby d6_28) rfl (flt (own_unused hr : ¬ (((((oI r) - (1 : Int32)) >>> ((12 : Int32) &&& 31)) + (2 : Int32)) < (1 : Int32)))).2.1 (by decide) (by decide)) ?_
  show Go p e below s QQ 0 0 (T27.setTop (mkF m 38 #[.val (.ref r0), .val (.int ((((oI r) - (1 : Int32)) >>> ((12 : Int32) &&& 31)) + (2 : Int32)))] []))
  exact goV X27 hx Bd.notSynchronized Bd.returns (hb hby d6_38) (by rw [← hQQ, e27]; exact ⟨rfl, N0, KK, F_pages_r0, F_size_r0⟩) (by decide) (by decide)
theorem d7_0 : decode prog_27_method_2_code 0 = .ok (.aload_n 0, 1) := by decide +kernel
theorem d7_1 : decode prog_27_method_2_code 1 = .ok (.getfield 15, 3) := by decide +kernel
theorem d7_4 : decode prog_27_method_2_code 4 = .ok (.ireturn, 1) := by decide +kernel
theorem pn_7 : plainName "com/example/interval/interval/service/SlotTable" = true := by first | (simp [plainName, overriddenIn]; done) | decide +kernel
def Qrm7 (Z : State) (r0 : Addr) (q : Int32) (h0 : Heap) (n0 : Nat) (v : Option Value) (h : Heap) (L : List Loc) : Prop := v = some (.int q) ∧ Fr n0 L ∧ h = h0
set_option maxRecDepth 65536 in
set_option maxHeartbeats 40000000 in
theorem rm7 (l : Launch) (Z : State) (a0 : Array Value) (hw : ∀ d ∈ tables_1, d.before a0 Z = true) (ws : List Jvm.Cond) (r0 : Addr) (q : Int32) (h0 : Heap) (n0 : Nat) (Z0 : n0 ≤ h0.size) (F_size_r0 : Fld Z h0 r0 "com/example/interval/interval/service/SlotTable" "size" "I" (.int q)) :
    MetFree l (⟨"com/example/interval/interval/service/SlotTable", "size", "()I"⟩ : MethodName) (head1 (Jvm.Cond.code (⟨"com/example/interval/interval/service/SlotTable", "size", "()I"⟩ : MethodName) prog_27_method_2_code 1 (some .int) :: ws) ({ frames := 0, cells := 0, slots := 0, locals := 0 } : Room)) (fun a U => a = #[(.ref r0)] ∧ Z.Warmed39 U.vm ∧ U.heap = h0) (fun _ _ _ _ _ => True) (fun _ U o U' => ∃ v L, o = .returned v ∧ Qrm7 Z r0 q h0 n0 v U'.heap L ∧ FrameEnd U o U' L ({ frames := 0, cells := 0, slots := 0, locals := 0 } : Room).cells ({ frames := 0, cells := 0, slots := 0, locals := 0 } : Room).slots) := by
  refine MetFree.of_bodySF (plainFor_of_name pn_7) hisR ?_
  intro p e s m args below meth c s₁ Bd hml0 hP hK
  obtain ⟨rfl, hZ, hh⟩ := hP
  have hx := Bd.exec
  have hby := Bd.bytes
  have hml : c.maxLocals = 1 := hml0
  have hown : s.vm.findClass "com/example/interval/interval/service/SlotTable" = some m.cls := findClass_of_methodNamed Bd.named
  have hnm := (name_of_methodNamed Bd.named Bd.method).1
  have X0 : Stand p l e ({ frames := 0, cells := 0, slots := 0, locals := 0 } : Room) s m #[(.ref r0)] below meth c s₁ [] 0 0 := Stand.of_body Bd
  have e0 : s₁.heap = h0 := by rw [← hh, Bd.state]; rfl
  have N0 := Fr.nil n0
  have ZZ := Z0
  show Go p e below s (Qrm7 Z r0 q h0 n0) 0 0 (s₁.setTop (entryFrame m #[(.ref r0)] 1))
  generalize hQQ : (Qrm7 Z r0 q h0 n0) = QQ
  refine gs (fun t k => castTop (g' := (mkF m 0 #[.val (.ref r0)] [])) (by first | (simp [entryFrame, mkF, argsToLocals, Value.category, maxLocals]; done) | rfl) k) ?_
  show Go p e below s QQ 0 0 (s₁.setTop (mkF m 0 #[.val (.ref r0)] []))
  refine gs (fun t => XS.aloadN X0.here hx rfl (hb hby d7_0) rfl rfl) ?_
  show Go p e below s QQ 0 0 (s₁.setTop (mkF m 1 #[.val (.ref r0)] [(.ref r0)]))
  obtain ⟨T28, X28, e28, st28⟩ := getF X0 hx hZ hown (host := "") (Or.inl (hw _ (List.mem_of_getElem? (i := 21) rfl))) Via.refl e0 F_size_r0 (g := (mkF m 1 #[.val (.ref r0)] [(.ref r0)])) rfl rfl (hb hby d7_1)
  refine gs st28 ?_
  show Go p e below s QQ 0 0 (T28.setTop (mkF m 4 #[.val (.ref r0)] [(.int q)]))
  exact goI X28 hx Bd.notSynchronized Bd.returns (hb hby d7_4) (by rw [← hQQ, e28]; exact ⟨rfl, N0, rfl⟩) (by decide) (by decide)
theorem pn_0 : plainName "com/example/interval/interval/service/SlotTableRemoveLastPinLaw" = true := by first | (simp [plainName, overriddenIn]; done) | decide +kernel
def Qrm0 (Z : State) (p0 : Int64) (p1 : Int64) (p2 : Int64) (p3 : Int64) (p4 : Int64) (p5 : Int32) (h0 : Heap) (n0 : Nat) (v : Option Value) (h : Heap) (L : List Loc) : Prop := v = some (.int 1) ∧ Fr n0 L
set_option maxRecDepth 65536 in
set_option maxHeartbeats 40000000 in
theorem rm0 (l : Launch) (Z : State) (a0 : Array Value) (hw : ∀ d ∈ tables_1, d.before a0 Z = true) (ws : List Jvm.Cond) (p0 : Int64) (p1 : Int64) (p2 : Int64) (p3 : Int64) (p4 : Int64) (p5 : Int32) (h0 : Heap) (n0 : Nat) (Z0 : n0 ≤ h0.size) :
    MetFree l x (head1 (Jvm.Cond.code x code maxLocals ret :: ws) room_1) (fun a U => a = #[(.long p0), (.long p1), (.long p2), (.long p3), (.long p4), (.int p5)] ∧ Z.Warmed39 U.vm ∧ U.heap = h0) (fun _ _ _ _ _ => True) (fun _ U o U' => ∃ v L, o = .returned v ∧ Qrm0 Z p0 p1 p2 p3 p4 p5 h0 n0 v U'.heap L ∧ FrameEnd U o U' L room_1.cells room_1.slots) := by
  refine MetFree.of_bodySF (plainFor_of_name pn_0) hisR ?_
  intro p e s m args below meth c s₁ Bd hml0 hP hK
  obtain ⟨rfl, hZ, hh⟩ := hP
  have hx := Bd.exec
  have hby := Bd.bytes
  have hml : c.maxLocals = 17 := hml0
  have hown : s.vm.findClass "com/example/interval/interval/service/SlotTableRemoveLastPinLaw" = some m.cls := findClass_of_methodNamed Bd.named
  have hnm := (name_of_methodNamed Bd.named Bd.method).1
  have X0 : Stand p l e room_1 s m #[(.long p0), (.long p1), (.long p2), (.long p3), (.long p4), (.int p5)] below meth c s₁ [] 0 0 := Stand.of_body Bd
  have e0 : s₁.heap = h0 := by rw [← hh, Bd.state]; rfl
  have N0 := Fr.nil n0
  have ZZ := Z0
  show Go p e below s (Qrm0 Z p0 p1 p2 p3 p4 p5 h0 n0) room_1.cells room_1.slots (s₁.setTop (entryFrame m #[(.long p0), (.long p1), (.long p2), (.long p3), (.long p4), (.int p5)] maxLocals))
  generalize hQQ : (Qrm0 Z p0 p1 p2 p3 p4 p5 h0 n0) = QQ
  refine gs (fun t k => castTop (g' := (mkF m 0 #[.val (.long p0), .second, .val (.long p1), .second, .val (.long p2), .second, .val (.long p3), .second, .val (.long p4), .second, .val (.int p5), .unset, .unset, .unset, .unset, .unset, .unset] [])) (by first | (simp [entryFrame, mkF, argsToLocals, Value.category, maxLocals]; done) | rfl) k) ?_
  show Go p e below s QQ room_1.cells room_1.slots (s₁.setTop (mkF m 0 #[.val (.long p0), .second, .val (.long p1), .second, .val (.long p2), .second, .val (.long p3), .second, .val (.long p4), .second, .val (.int p5), .unset, .unset, .unset, .unset, .unset, .unset] []))
  refine gs (fun t => XS.iconst X0.here hx rfl (hb hby at_0)) ?_
  show Go p e below s QQ room_1.cells room_1.slots (s₁.setTop (mkF m 1 #[.val (.long p0), .second, .val (.long p1), .second, .val (.long p2), .second, .val (.long p3), .second, .val (.long p4), .second, .val (.int p5), .unset, .unset, .unset, .unset, .unset, .unset] [(.int (5 : Int32))]))
  obtain ⟨T29, h29, k29, X29, e29, E29, A29, st29⟩ := newP X0 hx hZ (hw _ (List.mem_of_getElem? (i := 0) rfl)) e0 (g := (mkF m 1 #[.val (.long p0), .second, .val (.long p1), .second, .val (.long p2), .second, .val (.long p3), .second, .val (.long p4), .second, .val (.int p5), .unset, .unset, .unset, .unset, .unset, .unset] [(.int (5 : Int32))])) rfl (hb hby at_1) rfl (by decide) (cap := 5) (by decide) (by decide) (by decide) (by decide)
  obtain ⟨b29, g29⟩ : ∃ z, z = h0.size := ⟨_, rfl⟩
  rw [← g29] at A29 st29
  have ge_b29 : n0 ≤ b29 := by rw [g29]; exact ZZ
  refine gs st29 ?_
  show Go p e below s QQ room_1.cells room_1.slots (T29.setTop (mkF m 3 #[.val (.long p0), .second, .val (.long p1), .second, .val (.long p2), .second, .val (.long p3), .second, .val (.long p4), .second, .val (.int p5), .unset, .unset, .unset, .unset, .unset, .unset] [(.ref b29)]))
  replace ZZ := Nat.le_trans ZZ E29.1
  have V_b29 : Arf Z h29 b29 .long 5 (fun _ => .long 0) := Arf.new A29
  refine gs (fun t => XS.dup X29.here hx rfl (hb hby at_3) rfl rfl) ?_
  show Go p e below s QQ room_1.cells room_1.slots (T29.setTop (mkF m 4 #[.val (.long p0), .second, .val (.long p1), .second, .val (.long p2), .second, .val (.long p3), .second, .val (.long p4), .second, .val (.int p5), .unset, .unset, .unset, .unset, .unset, .unset] [(.ref b29), (.ref b29)]))
  refine gs (fun t => XS.iconst X29.here hx rfl (hb hby at_4)) ?_
  show Go p e below s QQ room_1.cells room_1.slots (T29.setTop (mkF m 5 #[.val (.long p0), .second, .val (.long p1), .second, .val (.long p2), .second, .val (.long p3), .second, .val (.long p4), .second, .val (.int p5), .unset, .unset, .unset, .unset, .unset, .unset] [(.int (0 : Int32)), (.ref b29), (.ref b29)]))
  refine gs (fun t => XS.lloadN X29.here hx rfl (hb hby at_5) rfl) ?_
  show Go p e below s QQ room_1.cells room_1.slots (T29.setTop (mkF m 6 #[.val (.long p0), .second, .val (.long p1), .second, .val (.long p2), .second, .val (.long p3), .second, .val (.long p4), .second, .val (.int p5), .unset, .unset, .unset, .unset, .unset, .unset] [(.long p0), (.int (0 : Int32)), (.ref b29), (.ref b29)]))
  obtain ⟨T30, h30, X30, e30, W30, V30, st30⟩ := stJf X29 hx hZ e29 V_b29 (j := (0 : Int32)) (by decide) (g := (mkF m 6 #[.val (.long p0), .second, .val (.long p1), .second, .val (.long p2), .second, .val (.long p3), .second, .val (.long p4), .second, .val (.int p5), .unset, .unset, .unset, .unset, .unset, .unset] [(.long p0), (.int (0 : Int32)), (.ref b29), (.ref b29)])) rfl rfl (hb hby at_6)
  replace N0 := Fr.snoc X30 N0 ge_b29
  refine gs st30 ?_
  show Go p e below s QQ room_1.cells room_1.slots (T30.setTop (mkF m 7 #[.val (.long p0), .second, .val (.long p1), .second, .val (.long p2), .second, .val (.long p3), .second, .val (.long p4), .second, .val (.int p5), .unset, .unset, .unset, .unset, .unset, .unset] [(.ref b29)]))
  replace ZZ : n0 ≤ h30.size := by rw [W30.size]; exact ZZ
  replace V_b29 : Arf Z h30 b29 .long 5 (updv (fun _ => .long 0) 0 (.long p0)) := V30
  refine gs (fun t => XS.dup X30.here hx rfl (hb hby at_7) rfl rfl) ?_
  show Go p e below s QQ room_1.cells room_1.slots (T30.setTop (mkF m 8 #[.val (.long p0), .second, .val (.long p1), .second, .val (.long p2), .second, .val (.long p3), .second, .val (.long p4), .second, .val (.int p5), .unset, .unset, .unset, .unset, .unset, .unset] [(.ref b29), (.ref b29)]))
  refine gs (fun t => XS.iconst X30.here hx rfl (hb hby at_8)) ?_
  show Go p e below s QQ room_1.cells room_1.slots (T30.setTop (mkF m 9 #[.val (.long p0), .second, .val (.long p1), .second, .val (.long p2), .second, .val (.long p3), .second, .val (.long p4), .second, .val (.int p5), .unset, .unset, .unset, .unset, .unset, .unset] [(.int (1 : Int32)), (.ref b29), (.ref b29)]))
  refine gs (fun t => XS.lloadN X30.here hx rfl (hb hby at_9) rfl) ?_
  show Go p e below s QQ room_1.cells room_1.slots (T30.setTop (mkF m 10 #[.val (.long p0), .second, .val (.long p1), .second, .val (.long p2), .second, .val (.long p3), .second, .val (.long p4), .second, .val (.int p5), .unset, .unset, .unset, .unset, .unset, .unset] [(.long p1), (.int (1 : Int32)), (.ref b29), (.ref b29)]))
  obtain ⟨T31, h31, X31, e31, W31, V31, st31⟩ := stJf X30 hx hZ e30 V_b29 (j := (1 : Int32)) (by decide) (g := (mkF m 10 #[.val (.long p0), .second, .val (.long p1), .second, .val (.long p2), .second, .val (.long p3), .second, .val (.long p4), .second, .val (.int p5), .unset, .unset, .unset, .unset, .unset, .unset] [(.long p1), (.int (1 : Int32)), (.ref b29), (.ref b29)])) rfl rfl (hb hby at_10)
  replace N0 := Fr.snoc X31 N0 ge_b29
  refine gs st31 ?_
  show Go p e below s QQ room_1.cells room_1.slots (T31.setTop (mkF m 11 #[.val (.long p0), .second, .val (.long p1), .second, .val (.long p2), .second, .val (.long p3), .second, .val (.long p4), .second, .val (.int p5), .unset, .unset, .unset, .unset, .unset, .unset] [(.ref b29)]))
  replace ZZ : n0 ≤ h31.size := by rw [W31.size]; exact ZZ
  replace V_b29 : Arf Z h31 b29 .long 5 (updv (updv (fun _ => .long 0) 0 (.long p0)) 1 (.long p1)) := V31
  refine gs (fun t => XS.dup X31.here hx rfl (hb hby at_11) rfl rfl) ?_
  show Go p e below s QQ room_1.cells room_1.slots (T31.setTop (mkF m 12 #[.val (.long p0), .second, .val (.long p1), .second, .val (.long p2), .second, .val (.long p3), .second, .val (.long p4), .second, .val (.int p5), .unset, .unset, .unset, .unset, .unset, .unset] [(.ref b29), (.ref b29)]))
  refine gs (fun t => XS.iconst X31.here hx rfl (hb hby at_12)) ?_
  show Go p e below s QQ room_1.cells room_1.slots (T31.setTop (mkF m 13 #[.val (.long p0), .second, .val (.long p1), .second, .val (.long p2), .second, .val (.long p3), .second, .val (.long p4), .second, .val (.int p5), .unset, .unset, .unset, .unset, .unset, .unset] [(.int (2 : Int32)), (.ref b29), (.ref b29)]))
  refine gs (fun t => XS.lload X31.here hx rfl (hb hby at_13) rfl) ?_
  show Go p e below s QQ room_1.cells room_1.slots (T31.setTop (mkF m 15 #[.val (.long p0), .second, .val (.long p1), .second, .val (.long p2), .second, .val (.long p3), .second, .val (.long p4), .second, .val (.int p5), .unset, .unset, .unset, .unset, .unset, .unset] [(.long p2), (.int (2 : Int32)), (.ref b29), (.ref b29)]))
  obtain ⟨T32, h32, X32, e32, W32, V32, st32⟩ := stJf X31 hx hZ e31 V_b29 (j := (2 : Int32)) (by decide) (g := (mkF m 15 #[.val (.long p0), .second, .val (.long p1), .second, .val (.long p2), .second, .val (.long p3), .second, .val (.long p4), .second, .val (.int p5), .unset, .unset, .unset, .unset, .unset, .unset] [(.long p2), (.int (2 : Int32)), (.ref b29), (.ref b29)])) rfl rfl (hb hby at_15)
  replace N0 := Fr.snoc X32 N0 ge_b29
  refine gs st32 ?_
  show Go p e below s QQ room_1.cells room_1.slots (T32.setTop (mkF m 16 #[.val (.long p0), .second, .val (.long p1), .second, .val (.long p2), .second, .val (.long p3), .second, .val (.long p4), .second, .val (.int p5), .unset, .unset, .unset, .unset, .unset, .unset] [(.ref b29)]))
  replace ZZ : n0 ≤ h32.size := by rw [W32.size]; exact ZZ
  replace V_b29 : Arf Z h32 b29 .long 5 (updv (updv (updv (fun _ => .long 0) 0 (.long p0)) 1 (.long p1)) 2 (.long p2)) := V32
  refine gs (fun t => XS.dup X32.here hx rfl (hb hby at_16) rfl rfl) ?_
  show Go p e below s QQ room_1.cells room_1.slots (T32.setTop (mkF m 17 #[.val (.long p0), .second, .val (.long p1), .second, .val (.long p2), .second, .val (.long p3), .second, .val (.long p4), .second, .val (.int p5), .unset, .unset, .unset, .unset, .unset, .unset] [(.ref b29), (.ref b29)]))
  refine gs (fun t => XS.iconst X32.here hx rfl (hb hby at_17)) ?_
  show Go p e below s QQ room_1.cells room_1.slots (T32.setTop (mkF m 18 #[.val (.long p0), .second, .val (.long p1), .second, .val (.long p2), .second, .val (.long p3), .second, .val (.long p4), .second, .val (.int p5), .unset, .unset, .unset, .unset, .unset, .unset] [(.int (3 : Int32)), (.ref b29), (.ref b29)]))
  refine gs (fun t => XS.lload X32.here hx rfl (hb hby at_18) rfl) ?_
  show Go p e below s QQ room_1.cells room_1.slots (T32.setTop (mkF m 20 #[.val (.long p0), .second, .val (.long p1), .second, .val (.long p2), .second, .val (.long p3), .second, .val (.long p4), .second, .val (.int p5), .unset, .unset, .unset, .unset, .unset, .unset] [(.long p3), (.int (3 : Int32)), (.ref b29), (.ref b29)]))
  obtain ⟨T33, h33, X33, e33, W33, V33, st33⟩ := stJf X32 hx hZ e32 V_b29 (j := (3 : Int32)) (by decide) (g := (mkF m 20 #[.val (.long p0), .second, .val (.long p1), .second, .val (.long p2), .second, .val (.long p3), .second, .val (.long p4), .second, .val (.int p5), .unset, .unset, .unset, .unset, .unset, .unset] [(.long p3), (.int (3 : Int32)), (.ref b29), (.ref b29)])) rfl rfl (hb hby at_20)
  replace N0 := Fr.snoc X33 N0 ge_b29
  refine gs st33 ?_
  show Go p e below s QQ room_1.cells room_1.slots (T33.setTop (mkF m 21 #[.val (.long p0), .second, .val (.long p1), .second, .val (.long p2), .second, .val (.long p3), .second, .val (.long p4), .second, .val (.int p5), .unset, .unset, .unset, .unset, .unset, .unset] [(.ref b29)]))
  replace ZZ : n0 ≤ h33.size := by rw [W33.size]; exact ZZ
  replace V_b29 : Arf Z h33 b29 .long 5 (updv (updv (updv (updv (fun _ => .long 0) 0 (.long p0)) 1 (.long p1)) 2 (.long p2)) 3 (.long p3)) := V33
  refine gs (fun t => XS.dup X33.here hx rfl (hb hby at_21) rfl rfl) ?_
  show Go p e below s QQ room_1.cells room_1.slots (T33.setTop (mkF m 22 #[.val (.long p0), .second, .val (.long p1), .second, .val (.long p2), .second, .val (.long p3), .second, .val (.long p4), .second, .val (.int p5), .unset, .unset, .unset, .unset, .unset, .unset] [(.ref b29), (.ref b29)]))
  refine gs (fun t => XS.iconst X33.here hx rfl (hb hby at_22)) ?_
  show Go p e below s QQ room_1.cells room_1.slots (T33.setTop (mkF m 23 #[.val (.long p0), .second, .val (.long p1), .second, .val (.long p2), .second, .val (.long p3), .second, .val (.long p4), .second, .val (.int p5), .unset, .unset, .unset, .unset, .unset, .unset] [(.int (4 : Int32)), (.ref b29), (.ref b29)]))
  refine gs (fun t => XS.lload X33.here hx rfl (hb hby at_23) rfl) ?_
  show Go p e below s QQ room_1.cells room_1.slots (T33.setTop (mkF m 25 #[.val (.long p0), .second, .val (.long p1), .second, .val (.long p2), .second, .val (.long p3), .second, .val (.long p4), .second, .val (.int p5), .unset, .unset, .unset, .unset, .unset, .unset] [(.long p4), (.int (4 : Int32)), (.ref b29), (.ref b29)]))
  obtain ⟨T34, h34, X34, e34, W34, V34, st34⟩ := stJf X33 hx hZ e33 V_b29 (j := (4 : Int32)) (by decide) (g := (mkF m 25 #[.val (.long p0), .second, .val (.long p1), .second, .val (.long p2), .second, .val (.long p3), .second, .val (.long p4), .second, .val (.int p5), .unset, .unset, .unset, .unset, .unset, .unset] [(.long p4), (.int (4 : Int32)), (.ref b29), (.ref b29)])) rfl rfl (hb hby at_25)
  replace N0 := Fr.snoc X34 N0 ge_b29
  refine gs st34 ?_
  show Go p e below s QQ room_1.cells room_1.slots (T34.setTop (mkF m 26 #[.val (.long p0), .second, .val (.long p1), .second, .val (.long p2), .second, .val (.long p3), .second, .val (.long p4), .second, .val (.int p5), .unset, .unset, .unset, .unset, .unset, .unset] [(.ref b29)]))
  replace ZZ : n0 ≤ h34.size := by rw [W34.size]; exact ZZ
  replace V_b29 : Arf Z h34 b29 .long 5 (updv (updv (updv (updv (updv (fun _ => .long 0) 0 (.long p0)) 1 (.long p1)) 2 (.long p2)) 3 (.long p3)) 4 (.long p4)) := V34
  replace V_b29 : Arf Z h34 b29 .long 5 (fun i => .long (own_sel p0 p1 p2 p3 p4 i)) := V_b29.congr (fun i hi => by rcases own_5 hi with rfl | rfl | rfl | rfl | rfl <;> rfl)
  refine gs (fun t => XS.astore X34.here hx rfl (hb hby at_26) rfl rfl (l' := #[.val (.long p0), .second, .val (.long p1), .second, .val (.long p2), .second, .val (.long p3), .second, .val (.long p4), .second, .val (.int p5), .val (.ref b29), .unset, .unset, .unset, .unset, .unset]) rfl) ?_
  show Go p e below s QQ room_1.cells room_1.slots (T34.setTop (mkF m 28 #[.val (.long p0), .second, .val (.long p1), .second, .val (.long p2), .second, .val (.long p3), .second, .val (.long p4), .second, .val (.int p5), .val (.ref b29), .unset, .unset, .unset, .unset, .unset] []))
  refine gs (fun t => XS.iconst X34.here hx rfl (hb hby at_28)) ?_
  show Go p e below s QQ room_1.cells room_1.slots (T34.setTop (mkF m 29 #[.val (.long p0), .second, .val (.long p1), .second, .val (.long p2), .second, .val (.long p3), .second, .val (.long p4), .second, .val (.int p5), .val (.ref b29), .unset, .unset, .unset, .unset, .unset] [(.int (1 : Int32))]))
  refine gs (fun t => XS.iload X34.here hx rfl (hb hby at_29) rfl) ?_
  show Go p e below s QQ room_1.cells room_1.slots (T34.setTop (mkF m 31 #[.val (.long p0), .second, .val (.long p1), .second, .val (.long p2), .second, .val (.long p3), .second, .val (.long p4), .second, .val (.int p5), .val (.ref b29), .unset, .unset, .unset, .unset, .unset] [(.int p5), (.int (1 : Int32))]))
  refine gs (fun t => XS.iconst X34.here hx rfl (hb hby at_31)) ?_
  show Go p e below s QQ room_1.cells room_1.slots (T34.setTop (mkF m 32 #[.val (.long p0), .second, .val (.long p1), .second, .val (.long p2), .second, .val (.long p3), .second, .val (.long p4), .second, .val (.int p5), .val (.ref b29), .unset, .unset, .unset, .unset, .unset] [(.int (1 : Int32)), (.int p5), (.int (1 : Int32))]))
  refine gs (fun t => XS.iand X34.here hx rfl (hb hby at_32) rfl) ?_
  show Go p e below s QQ room_1.cells room_1.slots (T34.setTop (mkF m 33 #[.val (.long p0), .second, .val (.long p1), .second, .val (.long p2), .second, .val (.long p3), .second, .val (.long p4), .second, .val (.int p5), .val (.ref b29), .unset, .unset, .unset, .unset, .unset] [(.int (p5 &&& (1 : Int32))), (.int (1 : Int32))]))
  refine gs (fun t => XS.iadd X34.here hx rfl (hb hby at_33) rfl) ?_
  show Go p e below s QQ room_1.cells room_1.slots (T34.setTop (mkF m 34 #[.val (.long p0), .second, .val (.long p1), .second, .val (.long p2), .second, .val (.long p3), .second, .val (.long p4), .second, .val (.int p5), .val (.ref b29), .unset, .unset, .unset, .unset, .unset] [(.int ((1 : Int32) + (p5 &&& (1 : Int32))))]))
  refine gs (fun t => XS.iload X34.here hx rfl (hb hby at_34) rfl) ?_
  show Go p e below s QQ room_1.cells room_1.slots (T34.setTop (mkF m 36 #[.val (.long p0), .second, .val (.long p1), .second, .val (.long p2), .second, .val (.long p3), .second, .val (.long p4), .second, .val (.int p5), .val (.ref b29), .unset, .unset, .unset, .unset, .unset] [(.int p5), (.int ((1 : Int32) + (p5 &&& (1 : Int32))))]))
  refine gs (fun t => XS.iconst X34.here hx rfl (hb hby at_36)) ?_
  show Go p e below s QQ room_1.cells room_1.slots (T34.setTop (mkF m 37 #[.val (.long p0), .second, .val (.long p1), .second, .val (.long p2), .second, .val (.long p3), .second, .val (.long p4), .second, .val (.int p5), .val (.ref b29), .unset, .unset, .unset, .unset, .unset] [(.int (1 : Int32)), (.int p5), (.int ((1 : Int32) + (p5 &&& (1 : Int32))))]))
  refine gs (fun t => XS.iushr X34.here hx rfl (hb hby at_37) rfl) ?_
  show Go p e below s QQ room_1.cells room_1.slots (T34.setTop (mkF m 38 #[.val (.long p0), .second, .val (.long p1), .second, .val (.long p2), .second, .val (.long p3), .second, .val (.long p4), .second, .val (.int p5), .val (.ref b29), .unset, .unset, .unset, .unset, .unset] [(.int ((p5.toUInt32 >>> ((1 : Int32) &&& 31).toUInt32).toInt32)), (.int ((1 : Int32) + (p5 &&& (1 : Int32))))]))
  refine gs (fun t => XS.iconst X34.here hx rfl (hb hby at_38)) ?_
  show Go p e below s QQ room_1.cells room_1.slots (T34.setTop (mkF m 39 #[.val (.long p0), .second, .val (.long p1), .second, .val (.long p2), .second, .val (.long p3), .second, .val (.long p4), .second, .val (.int p5), .val (.ref b29), .unset, .unset, .unset, .unset, .unset] [(.int (1 : Int32)), (.int ((p5.toUInt32 >>> ((1 : Int32) &&& 31).toUInt32).toInt32)), (.int ((1 : Int32) + (p5 &&& (1 : Int32))))]))
  refine gs (fun t => XS.iand X34.here hx rfl (hb hby at_39) rfl) ?_
  show Go p e below s QQ room_1.cells room_1.slots (T34.setTop (mkF m 40 #[.val (.long p0), .second, .val (.long p1), .second, .val (.long p2), .second, .val (.long p3), .second, .val (.long p4), .second, .val (.int p5), .val (.ref b29), .unset, .unset, .unset, .unset, .unset] [(.int (((p5.toUInt32 >>> ((1 : Int32) &&& 31).toUInt32).toInt32) &&& (1 : Int32))), (.int ((1 : Int32) + (p5 &&& (1 : Int32))))]))
  refine gs (fun t => XS.iadd X34.here hx rfl (hb hby at_40) rfl) ?_
  show Go p e below s QQ room_1.cells room_1.slots (T34.setTop (mkF m 41 #[.val (.long p0), .second, .val (.long p1), .second, .val (.long p2), .second, .val (.long p3), .second, .val (.long p4), .second, .val (.int p5), .val (.ref b29), .unset, .unset, .unset, .unset, .unset] [(.int (((1 : Int32) + (p5 &&& (1 : Int32))) + (((p5.toUInt32 >>> ((1 : Int32) &&& 31).toUInt32).toInt32) &&& (1 : Int32))))]))
  generalize hkk : (((1 : Int32) + (p5 &&& (1 : Int32))) + (((p5.toUInt32 >>> ((1 : Int32) &&& 31).toUInt32).toInt32) &&& (1 : Int32))) = kk
  show Go p e below s QQ room_1.cells room_1.slots (T34.setTop (mkF m 41 #[.val (.long p0), .second, .val (.long p1), .second, .val (.long p2), .second, .val (.long p3), .second, .val (.long p4), .second, .val (.int p5), .val (.ref b29), .unset, .unset, .unset, .unset, .unset] [(.int kk)]))
  refine gs (fun t => XS.istore X34.here hx rfl (hb hby at_41) rfl (l' := #[.val (.long p0), .second, .val (.long p1), .second, .val (.long p2), .second, .val (.long p3), .second, .val (.long p4), .second, .val (.int p5), .val (.ref b29), .val (.int kk), .unset, .unset, .unset, .unset]) rfl) ?_
  show Go p e below s QQ room_1.cells room_1.slots (T34.setTop (mkF m 43 #[.val (.long p0), .second, .val (.long p1), .second, .val (.long p2), .second, .val (.long p3), .second, .val (.long p4), .second, .val (.int p5), .val (.ref b29), .val (.int kk), .unset, .unset, .unset, .unset] []))
  refine gs (fun t => XS.iload X34.here hx rfl (hb hby at_43) rfl) ?_
  show Go p e below s QQ room_1.cells room_1.slots (T34.setTop (mkF m 45 #[.val (.long p0), .second, .val (.long p1), .second, .val (.long p2), .second, .val (.long p3), .second, .val (.long p4), .second, .val (.int p5), .val (.ref b29), .val (.int kk), .unset, .unset, .unset, .unset] [(.int p5)]))
  refine gs (fun t => XS.iconst X34.here hx rfl (hb hby at_45)) ?_
  show Go p e below s QQ room_1.cells room_1.slots (T34.setTop (mkF m 46 #[.val (.long p0), .second, .val (.long p1), .second, .val (.long p2), .second, .val (.long p3), .second, .val (.long p4), .second, .val (.int p5), .val (.ref b29), .val (.int kk), .unset, .unset, .unset, .unset] [(.int (2 : Int32)), (.int p5)]))
  refine gs (fun t => XS.iushr X34.here hx rfl (hb hby at_46) rfl) ?_
  show Go p e below s QQ room_1.cells room_1.slots (T34.setTop (mkF m 47 #[.val (.long p0), .second, .val (.long p1), .second, .val (.long p2), .second, .val (.long p3), .second, .val (.long p4), .second, .val (.int p5), .val (.ref b29), .val (.int kk), .unset, .unset, .unset, .unset] [(.int ((p5.toUInt32 >>> ((2 : Int32) &&& 31).toUInt32).toInt32))]))
  refine gs (fun t => X34.ldcInt hx hown (mvT hZ (hw _ (List.mem_of_getElem? (i := 1) rfl))) (g := (mkF m 47 #[.val (.long p0), .second, .val (.long p1), .second, .val (.long p2), .second, .val (.long p3), .second, .val (.long p4), .second, .val (.int p5), .val (.ref b29), .val (.int kk), .unset, .unset, .unset, .unset] [(.int ((p5.toUInt32 >>> ((2 : Int32) &&& 31).toUInt32).toInt32))])) rfl (hb hby at_47) t) ?_
  show Go p e below s QQ room_1.cells room_1.slots (T34.setTop (mkF m 49 #[.val (.long p0), .second, .val (.long p1), .second, .val (.long p2), .second, .val (.long p3), .second, .val (.long p4), .second, .val (.int p5), .val (.ref b29), .val (.int kk), .unset, .unset, .unset, .unset] [(.int (2147483647 : Int32)), (.int ((p5.toUInt32 >>> ((2 : Int32) &&& 31).toUInt32).toInt32))]))
  refine gs (fun t => XS.iand X34.here hx rfl (hb hby at_49) rfl) ?_
  show Go p e below s QQ room_1.cells room_1.slots (T34.setTop (mkF m 50 #[.val (.long p0), .second, .val (.long p1), .second, .val (.long p2), .second, .val (.long p3), .second, .val (.long p4), .second, .val (.int p5), .val (.ref b29), .val (.int kk), .unset, .unset, .unset, .unset] [(.int (((p5.toUInt32 >>> ((2 : Int32) &&& 31).toUInt32).toInt32) &&& (2147483647 : Int32)))]))
  refine gs (fun t => XS.iconst X34.here hx rfl (hb hby at_50)) ?_
  show Go p e below s QQ room_1.cells room_1.slots (T34.setTop (mkF m 51 #[.val (.long p0), .second, .val (.long p1), .second, .val (.long p2), .second, .val (.long p3), .second, .val (.long p4), .second, .val (.int p5), .val (.ref b29), .val (.int kk), .unset, .unset, .unset, .unset] [(.int (5 : Int32)), (.int (((p5.toUInt32 >>> ((2 : Int32) &&& 31).toUInt32).toInt32) &&& (2147483647 : Int32)))]))
  refine gs (fun t => iremM X34 hx (g := (mkF m 51 #[.val (.long p0), .second, .val (.long p1), .second, .val (.long p2), .second, .val (.long p3), .second, .val (.long p4), .second, .val (.int p5), .val (.ref b29), .val (.int kk), .unset, .unset, .unset, .unset] [(.int (5 : Int32)), (.int (((p5.toUInt32 >>> ((2 : Int32) &&& 31).toUInt32).toInt32) &&& (2147483647 : Int32)))])) rfl (hb hby at_51) rfl (by decide)) ?_
  show Go p e below s QQ room_1.cells room_1.slots (T34.setTop (mkF m 52 #[.val (.long p0), .second, .val (.long p1), .second, .val (.long p2), .second, .val (.long p3), .second, .val (.long p4), .second, .val (.int p5), .val (.ref b29), .val (.int kk), .unset, .unset, .unset, .unset] [(.int ((((p5.toUInt32 >>> ((2 : Int32) &&& 31).toUInt32).toInt32) &&& (2147483647 : Int32)) % (5 : Int32)))]))
  generalize hgg : ((((p5.toUInt32 >>> ((2 : Int32) &&& 31).toUInt32).toInt32) &&& (2147483647 : Int32)) % (5 : Int32)) = gg
  show Go p e below s QQ room_1.cells room_1.slots (T34.setTop (mkF m 52 #[.val (.long p0), .second, .val (.long p1), .second, .val (.long p2), .second, .val (.long p3), .second, .val (.long p4), .second, .val (.int p5), .val (.ref b29), .val (.int kk), .unset, .unset, .unset, .unset] [(.int gg)]))
  have hk3 := own_kk p5 hkk
  obtain ⟨f, hf5, rfl⟩ := own_ff p5 hgg
  clear hkk hgg
  show Go p e below s QQ room_1.cells room_1.slots (T34.setTop (mkF m 52 #[.val (.long p0), .second, .val (.long p1), .second, .val (.long p2), .second, .val (.long p3), .second, .val (.long p4), .second, .val (.int p5), .val (.ref b29), .val (.int kk), .unset, .unset, .unset, .unset] [(.int (oI f))]))
  refine gs (fun t => XS.istore X34.here hx rfl (hb hby at_52) rfl (l' := #[.val (.long p0), .second, .val (.long p1), .second, .val (.long p2), .second, .val (.long p3), .second, .val (.long p4), .second, .val (.int p5), .val (.ref b29), .val (.int kk), .val (.int (oI f)), .unset, .unset, .unset]) rfl) ?_
  show Go p e below s QQ room_1.cells room_1.slots (T34.setTop (mkF m 54 #[.val (.long p0), .second, .val (.long p1), .second, .val (.long p2), .second, .val (.long p3), .second, .val (.long p4), .second, .val (.int p5), .val (.ref b29), .val (.int kk), .val (.int (oI f)), .unset, .unset, .unset] []))
  obtain ⟨T35, h35, X35, e35, E35, A35, D35, -, st35⟩ := newO X34 hx hZ hown (hw _ (List.mem_of_getElem? (i := 2) rfl)) (hw _ (List.mem_of_getElem? (i := 3) rfl)) (hw _ (List.mem_of_getElem? (i := 4) rfl)) e34 (g := (mkF m 54 #[.val (.long p0), .second, .val (.long p1), .second, .val (.long p2), .second, .val (.long p3), .second, .val (.long p4), .second, .val (.int p5), .val (.ref b29), .val (.int kk), .val (.int (oI f)), .unset, .unset, .unset] [])) rfl (hb hby at_54) (by decide) (by decide)
  obtain ⟨b35, g35⟩ : ∃ z, z = h34.size := ⟨_, rfl⟩
  rw [← g35] at A35 D35 st35
  have ge_b35 : n0 ≤ b35 := by rw [g35]; exact ZZ
  have ne_b29_b35 : b29 ≠ b35 := by rw [g35]; exact Nat.ne_of_lt V_b29.lt
  refine gs st35 ?_
  show Go p e below s QQ room_1.cells room_1.slots (T35.setTop (mkF m 57 #[.val (.long p0), .second, .val (.long p1), .second, .val (.long p2), .second, .val (.long p3), .second, .val (.long p4), .second, .val (.int p5), .val (.ref b29), .val (.int kk), .val (.int (oI f)), .unset, .unset, .unset] [(.ref b35)]))
  replace V_b29 := V_b29.ext E35
  replace ZZ := Nat.le_trans ZZ E35.1
  have Ex_b35 := A35
  have F_pages_b35 : Fld Z h35 b35 "com/example/interval/interval/service/SlotTable" "pages" "[[J" .null := D35 (Or.inl (hw _ (List.mem_of_getElem? (i := 15) rfl))) (ty := (.array (.array .long))) (by decide)
  have F_size_b35 : Fld Z h35 b35 "com/example/interval/interval/service/SlotTable" "size" "I" (.int (0 : Int32)) := D35 (Or.inl (hw _ (List.mem_of_getElem? (i := 22) rfl))) (ty := .int) (by decide)
  refine gs (fun t => XS.dup X35.here hx rfl (hb hby at_57) rfl rfl) ?_
  show Go p e below s QQ room_1.cells room_1.slots (T35.setTop (mkF m 58 #[.val (.long p0), .second, .val (.long p1), .second, .val (.long p2), .second, .val (.long p3), .second, .val (.long p4), .second, .val (.int p5), .val (.ref b29), .val (.int kk), .val (.int (oI f)), .unset, .unset, .unset] [(.ref b35), (.ref b35)]))
  have ZZm36 := ZZ
  have lt36_b29 := V_b29.lt
  have lt36_b35 := Ex_b35.lt
  obtain ⟨_, _, ⟨T37, L37, k37, n37⟩, -, X37, ⟨Lc37, hQ37, l37, y37, z37⟩, st37⟩ := X35.specialBack hx (y := (⟨"com/example/interval/interval/service/SlotTable", "<init>", "()V"⟩ : MethodName)) rfl hown (mvT hZ (hw _ (List.mem_of_getElem? (i := 5) rfl))) (mvT hZ (hw _ (List.mem_of_getElem? (i := 6) rfl))) (mvT hZ (hw _ (List.mem_of_getElem? (i := 7) rfl))) (by decide) (backOf (W := 1) (rm1 l Z a0 hw [] b35 h35 n0 ZZ F_pages_b35 F_size_b35 Ex_b35 ge_b35) hZ (hw _ (List.mem_of_getElem? (i := 7) rfl)) (hw _ (List.mem_of_getElem? (i := 4) rfl)) (by decide) (by decide)) (g := (mkF m 58 #[.val (.long p0), .second, .val (.long p1), .second, .val (.long p2), .second, .val (.long p3), .second, .val (.long p4), .second, .val (.int p5), .val (.ref b29), .val (.int kk), .val (.int (oI f)), .unset, .unset, .unset] [(.ref b35), (.ref b35)])) rfl (by rw [hml]; rfl) (Steps.refl _) (a := b35) (argsL := []) (rest := [(.ref b35)]) (lenOf pd_2 rfl) rfl (by show 2 * 0 + _ ≤ _; exact Nat.le_of_eq rfl) (hb hby at_58) (fun _ _ => ⟨rfl, e35, (by decide : 2 + 2 ≤ _), (by decide : 7 + 41 ≤ _)⟩)
  dsimp only [Pt.U, Pt.locs, Pt.cells, Pt.slots] at X37 l37 y37 z37 st37 hQ37
  subst l37 y37 z37
  obtain ⟨pg, pa, rfl, N37q, K37, Fp, Fs, V_pg, V_pa, gpg, gpa, ngp⟩ := hQ37
  replace N0 := Fr.app N0 N37q
  refine gt st37 ?_
  show Go p e below s QQ room_1.cells room_1.slots (T37.setTop (mkF m 61 #[.val (.long p0), .second, .val (.long p1), .second, .val (.long p2), .second, .val (.long p3), .second, .val (.long p4), .second, .val (.int p5), .val (.ref b29), .val (.int kk), .val (.int (oI f)), .unset, .unset, .unset] [(.ref b35)]))
  replace V_b29 := V_b29.keep K37 (ninS ne_b29_b35 nin0)
  replace Ex_b35 := Ex_b35.keep K37
  replace ZZ := Nat.le_trans ZZ K37.1
  have ne_b29_pg : b29 ≠ pg := Nat.ne_of_lt (Nat.lt_of_lt_of_le lt36_b29 gpg)
  have ne_b35_pg : b35 ≠ pg := Nat.ne_of_lt (Nat.lt_of_lt_of_le lt36_b35 gpg)
  have ge_pg : n0 ≤ pg := Nat.le_trans ZZm36 gpg
  have ne_b29_pa : b29 ≠ pa := Nat.ne_of_lt (Nat.lt_of_lt_of_le lt36_b29 gpa)
  have ne_b35_pa : b35 ≠ pa := Nat.ne_of_lt (Nat.lt_of_lt_of_le lt36_b35 gpa)
  have ge_pa : n0 ≤ pa := Nat.le_trans ZZm36 gpa
  refine gs (fun t => XS.astore X37.here hx rfl (hb hby at_61) rfl rfl (l' := #[.val (.long p0), .second, .val (.long p1), .second, .val (.long p2), .second, .val (.long p3), .second, .val (.long p4), .second, .val (.int p5), .val (.ref b29), .val (.int kk), .val (.int (oI f)), .val (.ref b35), .unset, .unset]) rfl) ?_
  show Go p e below s QQ room_1.cells room_1.slots (T37.setTop (mkF m 63 #[.val (.long p0), .second, .val (.long p1), .second, .val (.long p2), .second, .val (.long p3), .second, .val (.long p4), .second, .val (.int p5), .val (.ref b29), .val (.int kk), .val (.int (oI f)), .val (.ref b35), .unset, .unset] []))
  refine gs (fun t => XS.aload X37.here hx rfl (hb hby at_63) rfl rfl) ?_
  show Go p e below s QQ room_1.cells room_1.slots (T37.setTop (mkF m 65 #[.val (.long p0), .second, .val (.long p1), .second, .val (.long p2), .second, .val (.long p3), .second, .val (.long p4), .second, .val (.int p5), .val (.ref b29), .val (.int kk), .val (.int (oI f)), .val (.ref b35), .unset, .unset] [(.ref b35)]))
  refine gs (fun t => XS.lloadN X37.here hx rfl (hb hby at_65) rfl) ?_
  show Go p e below s QQ room_1.cells room_1.slots (T37.setTop (mkF m 66 #[.val (.long p0), .second, .val (.long p1), .second, .val (.long p2), .second, .val (.long p3), .second, .val (.long p4), .second, .val (.int p5), .val (.ref b29), .val (.int kk), .val (.int (oI f)), .val (.ref b35), .unset, .unset] [(.long p0), (.ref b35)]))
  refine gs (fun t => XS.lloadN X37.here hx rfl (hb hby at_66) rfl) ?_
  show Go p e below s QQ room_1.cells room_1.slots (T37.setTop (mkF m 67 #[.val (.long p0), .second, .val (.long p1), .second, .val (.long p2), .second, .val (.long p3), .second, .val (.long p4), .second, .val (.int p5), .val (.ref b29), .val (.int kk), .val (.int (oI f)), .val (.ref b35), .unset, .unset] [(.long p1), (.long p0), (.ref b35)]))
  refine gs (fun t => XS.lload X37.here hx rfl (hb hby at_67) rfl) ?_
  show Go p e below s QQ room_1.cells room_1.slots (T37.setTop (mkF m 69 #[.val (.long p0), .second, .val (.long p1), .second, .val (.long p2), .second, .val (.long p3), .second, .val (.long p4), .second, .val (.int p5), .val (.ref b29), .val (.int kk), .val (.int (oI f)), .val (.ref b35), .unset, .unset] [(.long p2), (.long p1), (.long p0), (.ref b35)]))
  refine gs (fun t => XS.lload X37.here hx rfl (hb hby at_69) rfl) ?_
  show Go p e below s QQ room_1.cells room_1.slots (T37.setTop (mkF m 71 #[.val (.long p0), .second, .val (.long p1), .second, .val (.long p2), .second, .val (.long p3), .second, .val (.long p4), .second, .val (.int p5), .val (.ref b29), .val (.int kk), .val (.int (oI f)), .val (.ref b35), .unset, .unset] [(.long p3), (.long p2), (.long p1), (.long p0), (.ref b35)]))
  refine gs (fun t => XS.lload X37.here hx rfl (hb hby at_71) rfl) ?_
  show Go p e below s QQ room_1.cells room_1.slots (T37.setTop (mkF m 73 #[.val (.long p0), .second, .val (.long p1), .second, .val (.long p2), .second, .val (.long p3), .second, .val (.long p4), .second, .val (.int p5), .val (.ref b29), .val (.int kk), .val (.int (oI f)), .val (.ref b35), .unset, .unset] [(.long p4), (.long p3), (.long p2), (.long p1), (.long p0), (.ref b35)]))
  obtain ⟨cq38, kq38, q38a, q38b, q38c⟩ := isOf hZ rfl Ex_b35
  obtain ⟨_, _, ⟨T38, L38, k38, n38⟩, -, X38, ⟨Lc38, hQ38, l38, y38, z38⟩, st38⟩ := X37.virtualBack hx (y := (⟨"com/example/interval/interval/service/SlotTable", "add", "(JJJJJ)I"⟩ : MethodName)) (z := (⟨"com/example/interval/interval/service/SlotTable", "add", "(JJJJJ)I"⟩ : MethodName)) hown (mvT hZ (hw _ (List.mem_of_getElem? (i := 16) rfl))) (mvT hZ (hw _ (List.mem_of_getElem? (i := 17) rfl))) (notFace_of_selects (args := #[]) (mvT hZ (hw _ (List.mem_of_getElem? (i := 19) rfl)))) (mvT hZ (hw _ (List.mem_of_getElem? (i := 19) rfl))) (mvT hZ (hw _ (List.mem_of_getElem? (i := 18) rfl))) (by decide) (backOf (W := 0) (rm3 l Z a0 hw [] b35 p0 p1 p2 p3 p4 0 pg pa (updv (fun _ => .null) 0 (.ref pa)) (fun _ => .long 0) T37.heap n0 ZZ Fp Fs Ex_b35 V_pg rfl V_pa ge_b35 ge_pa ne_b35_pg ne_b35_pa ngp (by decide)) hZ (hw _ (List.mem_of_getElem? (i := 20) rfl)) (hw _ (List.mem_of_getElem? (i := 4) rfl)) (by decide) (by decide)) q38a q38c (g := (mkF m 73 #[.val (.long p0), .second, .val (.long p1), .second, .val (.long p2), .second, .val (.long p3), .second, .val (.long p4), .second, .val (.int p5), .val (.ref b29), .val (.int kk), .val (.int (oI f)), .val (.ref b35), .unset, .unset] [(.long p4), (.long p3), (.long p2), (.long p1), (.long p0), (.ref b35)])) rfl (by rw [hml]; rfl) (Steps.refl _) (argsL := [(.long p0), (.long p1), (.long p2), (.long p3), (.long p4)]) (rest := []) (lenOf pd_3 rfl) rfl (by show 2 * 0 + _ ≤ _; exact Nat.le_of_eq rfl) (hb hby at_73) (fun _ _ => ⟨rfl, rfl, (by decide : 4 + 0 ≤ _), (by decide : 48 + 0 ≤ _)⟩)
  dsimp only [Pt.U, Pt.locs, Pt.cells, Pt.slots] at X38 l38 y38 z38 st38 hQ38
  subst l38 y38 z38
  obtain ⟨rfl, N38q, K38, Fpn38, Fsn38, Vn38⟩ := hQ38
  replace N0 := Fr.app N0 N38q
  refine gt st38 ?_
  show Go p e below s QQ room_1.cells room_1.slots (T38.setTop (mkF m 76 #[.val (.long p0), .second, .val (.long p1), .second, .val (.long p2), .second, .val (.long p3), .second, .val (.long p4), .second, .val (.int p5), .val (.ref b29), .val (.int kk), .val (.int (oI f)), .val (.ref b35), .unset, .unset] [(.int (oI 0))]))
  replace V_b29 := V_b29.keep K38 (ninS ne_b29_b35 (ninS ne_b29_pa nin0))
  replace Ex_b35 := Ex_b35.keep K38
  replace V_pg := V_pg.keep K38 (ninS (Ne.symm ne_b35_pg) (ninS ngp nin0))
  replace ZZ := Nat.le_trans ZZ K38.1
  have Fp := Fpn38
  have Fs := Fsn38
  have V_pa := Vn38
  refine gs (fun t => XS.pop X38.here hx rfl (hb hby at_76) rfl rfl) ?_
  show Go p e below s QQ room_1.cells room_1.slots (T38.setTop (mkF m 77 #[.val (.long p0), .second, .val (.long p1), .second, .val (.long p2), .second, .val (.long p3), .second, .val (.long p4), .second, .val (.int p5), .val (.ref b29), .val (.int kk), .val (.int (oI f)), .val (.ref b35), .unset, .unset] []))
  refine gs (fun t => XS.iload X38.here hx rfl (hb hby at_77) rfl) ?_
  show Go p e below s QQ room_1.cells room_1.slots (T38.setTop (mkF m 79 #[.val (.long p0), .second, .val (.long p1), .second, .val (.long p2), .second, .val (.long p3), .second, .val (.long p4), .second, .val (.int p5), .val (.ref b29), .val (.int kk), .val (.int (oI f)), .val (.ref b35), .unset, .unset] [(.int kk)]))
  refine gs (fun t => XS.iconst X38.here hx rfl (hb hby at_79)) ?_
  show Go p e below s QQ room_1.cells room_1.slots (T38.setTop (mkF m 80 #[.val (.long p0), .second, .val (.long p1), .second, .val (.long p2), .second, .val (.long p3), .second, .val (.long p4), .second, .val (.int p5), .val (.ref b29), .val (.int kk), .val (.int (oI f)), .val (.ref b35), .unset, .unset] [(.int (2 : Int32)), (.int kk)]))
  rcases hk3 with rfl | rfl | rfl
  · skip
    show Go p e below s QQ room_1.cells room_1.slots (T38.setTop (mkF m 80 #[.val (.long p0), .second, .val (.long p1), .second, .val (.long p2), .second, .val (.long p3), .second, .val (.long p4), .second, .val (.int p5), .val (.ref b29), .val (.int (1 : Int32)), .val (.int (oI f)), .val (.ref b35), .unset, .unset] [(.int (2 : Int32)), (.int (1 : Int32))]))
    refine gs (fun t => XS.icmpYes X38.here hx rfl (pc0 := 80) (pc' := 97) rfl (hb hby at_80) rfl (tlt (by decide : (1 : Int32) < (2 : Int32))).1 (by decide) (by decide)) ?_
    show Go p e below s QQ room_1.cells room_1.slots (T38.setTop (mkF m 97 #[.val (.long p0), .second, .val (.long p1), .second, .val (.long p2), .second, .val (.long p3), .second, .val (.long p4), .second, .val (.int p5), .val (.ref b29), .val (.int (1 : Int32)), .val (.int (oI f)), .val (.ref b35), .unset, .unset] []))
    refine gs (fun t => XS.iload X38.here hx rfl (hb hby at_97) rfl) ?_
    show Go p e below s QQ room_1.cells room_1.slots (T38.setTop (mkF m 99 #[.val (.long p0), .second, .val (.long p1), .second, .val (.long p2), .second, .val (.long p3), .second, .val (.long p4), .second, .val (.int p5), .val (.ref b29), .val (.int (1 : Int32)), .val (.int (oI f)), .val (.ref b35), .unset, .unset] [(.int (1 : Int32))]))
    refine gs (fun t => XS.iconst X38.here hx rfl (hb hby at_99)) ?_
    show Go p e below s QQ room_1.cells room_1.slots (T38.setTop (mkF m 100 #[.val (.long p0), .second, .val (.long p1), .second, .val (.long p2), .second, .val (.long p3), .second, .val (.long p4), .second, .val (.int p5), .val (.ref b29), .val (.int (1 : Int32)), .val (.int (oI f)), .val (.ref b35), .unset, .unset] [(.int (3 : Int32)), (.int (1 : Int32))]))
    refine gs (fun t => XS.icmpYes X38.here hx rfl (pc0 := 100) (pc' := 117) rfl (hb hby at_100) rfl (tlt (by decide : (1 : Int32) < (3 : Int32))).1 (by decide) (by decide)) ?_
    show Go p e below s QQ room_1.cells room_1.slots (T38.setTop (mkF m 117 #[.val (.long p0), .second, .val (.long p1), .second, .val (.long p2), .second, .val (.long p3), .second, .val (.long p4), .second, .val (.int p5), .val (.ref b29), .val (.int (1 : Int32)), .val (.int (oI f)), .val (.ref b35), .unset, .unset] []))
    refine gs (fun t => XS.aload X38.here hx rfl (hb hby at_117) rfl rfl) ?_
    show Go p e below s QQ room_1.cells room_1.slots (T38.setTop (mkF m 119 #[.val (.long p0), .second, .val (.long p1), .second, .val (.long p2), .second, .val (.long p3), .second, .val (.long p4), .second, .val (.int p5), .val (.ref b29), .val (.int (1 : Int32)), .val (.int (oI f)), .val (.ref b35), .unset, .unset] [(.ref b35)]))
    obtain ⟨cq39, kq39, q39a, q39b, q39c⟩ := isOf hZ rfl Ex_b35
    obtain ⟨_, _, ⟨T39, L39, k39, n39⟩, -, X39, ⟨Lc39, hQ39, l39, y39, z39⟩, st39⟩ := X38.virtualBack hx (y := (⟨"com/example/interval/interval/service/SlotTable", "removeLast", "()V"⟩ : MethodName)) (z := (⟨"com/example/interval/interval/service/SlotTable", "removeLast", "()V"⟩ : MethodName)) hown (mvT hZ (hw _ (List.mem_of_getElem? (i := 31) rfl))) (mvT hZ (hw _ (List.mem_of_getElem? (i := 32) rfl))) (notFace_of_selects (args := #[]) (mvT hZ (hw _ (List.mem_of_getElem? (i := 34) rfl)))) (mvT hZ (hw _ (List.mem_of_getElem? (i := 34) rfl))) (mvT hZ (hw _ (List.mem_of_getElem? (i := 33) rfl))) (by decide) (backOf (W := 0) (rm6 l Z a0 hw [] b35 0 pg (updv (fun _ => .null) 0 (.ref pa)) T38.heap n0 ZZ Fp Fs Ex_b35 V_pg ge_b35 ne_b35_pg (by decide)) hZ (hw _ (List.mem_of_getElem? (i := 35) rfl)) (hw _ (List.mem_of_getElem? (i := 4) rfl)) (by decide) (by decide)) q39a q39c (g := (mkF m 119 #[.val (.long p0), .second, .val (.long p1), .second, .val (.long p2), .second, .val (.long p3), .second, .val (.long p4), .second, .val (.int p5), .val (.ref b29), .val (.int (1 : Int32)), .val (.int (oI f)), .val (.ref b35), .unset, .unset] [(.ref b35)])) rfl (by rw [hml]; rfl) (Steps.refl _) (argsL := []) (rest := []) (lenOf pd_2 rfl) rfl (by show 2 * 0 + _ ≤ _; exact Nat.le_of_eq rfl) (hb hby at_119) (fun _ _ => ⟨rfl, rfl, (by decide : 4 + 0 ≤ _), (by decide : 48 + 0 ≤ _)⟩)
    dsimp only [Pt.U, Pt.locs, Pt.cells, Pt.slots] at X39 l39 y39 z39 st39 hQ39
    subst l39 y39 z39
    obtain ⟨rfl, N39q, K39, Fpn39, Fsn39⟩ := hQ39
    replace N0 := Fr.app N0 N39q
    refine gt st39 ?_
    show Go p e below s QQ room_1.cells room_1.slots (T39.setTop (mkF m 122 #[.val (.long p0), .second, .val (.long p1), .second, .val (.long p2), .second, .val (.long p3), .second, .val (.long p4), .second, .val (.int p5), .val (.ref b29), .val (.int (1 : Int32)), .val (.int (oI f)), .val (.ref b35), .unset, .unset] []))
    replace V_b29 := V_b29.keep K39 (ninS ne_b29_b35 nin0)
    replace Ex_b35 := Ex_b35.keep K39
    replace V_pg := V_pg.keep K39 (ninS (Ne.symm ne_b35_pg) nin0)
    replace V_pa := V_pa.keep K39 (ninS (Ne.symm ne_b35_pa) nin0)
    replace ZZ := Nat.le_trans ZZ K39.1
    have Fp := Fpn39
    have Fs := Fsn39
    refine gs (fun t => XS.aload X39.here hx rfl (hb hby at_122) rfl rfl) ?_
    show Go p e below s QQ room_1.cells room_1.slots (T39.setTop (mkF m 124 #[.val (.long p0), .second, .val (.long p1), .second, .val (.long p2), .second, .val (.long p3), .second, .val (.long p4), .second, .val (.int p5), .val (.ref b29), .val (.int (1 : Int32)), .val (.int (oI f)), .val (.ref b35), .unset, .unset] [(.ref b35)]))
    obtain ⟨cq40, kq40, q40a, q40b, q40c⟩ := isOf hZ rfl Ex_b35
    obtain ⟨_, _, ⟨T40, L40, k40, n40⟩, -, X40, ⟨Lc40, hQ40, l40, y40, z40⟩, st40⟩ := X39.virtualBack hx (y := (⟨"com/example/interval/interval/service/SlotTable", "size", "()I"⟩ : MethodName)) (z := (⟨"com/example/interval/interval/service/SlotTable", "size", "()I"⟩ : MethodName)) hown (mvT hZ (hw _ (List.mem_of_getElem? (i := 36) rfl))) (mvT hZ (hw _ (List.mem_of_getElem? (i := 37) rfl))) (notFace_of_selects (args := #[]) (mvT hZ (hw _ (List.mem_of_getElem? (i := 39) rfl)))) (mvT hZ (hw _ (List.mem_of_getElem? (i := 39) rfl))) (mvT hZ (hw _ (List.mem_of_getElem? (i := 38) rfl))) (by decide) (backOf (W := 0) (rm7 l Z a0 hw [] b35 (oI 0) T39.heap n0 ZZ Fs) hZ (hw _ (List.mem_of_getElem? (i := 40) rfl)) (hw _ (List.mem_of_getElem? (i := 4) rfl)) (by decide) (by decide)) q40a q40c (g := (mkF m 124 #[.val (.long p0), .second, .val (.long p1), .second, .val (.long p2), .second, .val (.long p3), .second, .val (.long p4), .second, .val (.int p5), .val (.ref b29), .val (.int (1 : Int32)), .val (.int (oI f)), .val (.ref b35), .unset, .unset] [(.ref b35)])) rfl (by rw [hml]; rfl) (Steps.refl _) (argsL := []) (rest := []) (lenOf pd_4 rfl) rfl (by show 2 * 0 + _ ≤ _; exact Nat.le_of_eq rfl) (hb hby at_124) (fun _ _ => ⟨rfl, rfl, (by decide : 4 + 0 ≤ _), (by decide : 48 + 0 ≤ _)⟩)
    dsimp only [Pt.U, Pt.locs, Pt.cells, Pt.slots] at X40 l40 y40 z40 st40 hQ40
    subst l40 y40 z40
    obtain ⟨rfl, N40q, e40⟩ := hQ40
    replace N0 := Fr.app N0 N40q
    refine gt st40 ?_
    show Go p e below s QQ room_1.cells room_1.slots (T40.setTop (mkF m 127 #[.val (.long p0), .second, .val (.long p1), .second, .val (.long p2), .second, .val (.long p3), .second, .val (.long p4), .second, .val (.int p5), .val (.ref b29), .val (.int (1 : Int32)), .val (.int (oI f)), .val (.ref b35), .unset, .unset] [(.int (oI 0))]))
    refine gs (fun t => XS.iload X40.here hx rfl (hb hby at_127) rfl) ?_
    show Go p e below s QQ room_1.cells room_1.slots (T40.setTop (mkF m 129 #[.val (.long p0), .second, .val (.long p1), .second, .val (.long p2), .second, .val (.long p3), .second, .val (.long p4), .second, .val (.int p5), .val (.ref b29), .val (.int (1 : Int32)), .val (.int (oI f)), .val (.ref b35), .unset, .unset] [(.int (1 : Int32)), (.int (oI 0))]))
    refine gs (fun t => XS.iconst X40.here hx rfl (hb hby at_129)) ?_
    show Go p e below s QQ room_1.cells room_1.slots (T40.setTop (mkF m 130 #[.val (.long p0), .second, .val (.long p1), .second, .val (.long p2), .second, .val (.long p3), .second, .val (.long p4), .second, .val (.int p5), .val (.ref b29), .val (.int (1 : Int32)), .val (.int (oI f)), .val (.ref b35), .unset, .unset] [(.int (1 : Int32)), (.int (1 : Int32)), (.int (oI 0))]))
    refine gs (fun t => XS.isub X40.here hx rfl (hb hby at_130) rfl) ?_
    show Go p e below s QQ room_1.cells room_1.slots (T40.setTop (mkF m 131 #[.val (.long p0), .second, .val (.long p1), .second, .val (.long p2), .second, .val (.long p3), .second, .val (.long p4), .second, .val (.int p5), .val (.ref b29), .val (.int (1 : Int32)), .val (.int (oI f)), .val (.ref b35), .unset, .unset] [(.int (0 : Int32)), (.int (oI 0))]))
    refine gs (fun t => XS.icmpNo X40.here hx rfl (hb hby at_131) rfl (teq (by decide : (oI 0) = (0 : Int32))).2) ?_
    show Go p e below s QQ room_1.cells room_1.slots (T40.setTop (mkF m 134 #[.val (.long p0), .second, .val (.long p1), .second, .val (.long p2), .second, .val (.long p3), .second, .val (.long p4), .second, .val (.int p5), .val (.ref b29), .val (.int (1 : Int32)), .val (.int (oI f)), .val (.ref b35), .unset, .unset] []))
    refine gs (fun t => XS.iconst X40.here hx rfl (hb hby at_134)) ?_
    show Go p e below s QQ room_1.cells room_1.slots (T40.setTop (mkF m 135 #[.val (.long p0), .second, .val (.long p1), .second, .val (.long p2), .second, .val (.long p3), .second, .val (.long p4), .second, .val (.int p5), .val (.ref b29), .val (.int (1 : Int32)), .val (.int (oI f)), .val (.ref b35), .unset, .unset] [(.int (1 : Int32))]))
    refine gs (fun t => XS.goto X40.here hx rfl (pc0 := 135) (pc' := 139) rfl (hb hby at_135) (by decide) (by decide)) ?_
    show Go p e below s QQ room_1.cells room_1.slots (T40.setTop (mkF m 139 #[.val (.long p0), .second, .val (.long p1), .second, .val (.long p2), .second, .val (.long p3), .second, .val (.long p4), .second, .val (.int p5), .val (.ref b29), .val (.int (1 : Int32)), .val (.int (oI f)), .val (.ref b35), .unset, .unset] [(.int (1 : Int32))]))
    refine gs (fun t => XS.istore X40.here hx rfl (hb hby at_139) rfl (l' := #[.val (.long p0), .second, .val (.long p1), .second, .val (.long p2), .second, .val (.long p3), .second, .val (.long p4), .second, .val (.int p5), .val (.ref b29), .val (.int (1 : Int32)), .val (.int (oI f)), .val (.ref b35), .val (.int (1 : Int32)), .unset]) rfl) ?_
    show Go p e below s QQ room_1.cells room_1.slots (T40.setTop (mkF m 141 #[.val (.long p0), .second, .val (.long p1), .second, .val (.long p2), .second, .val (.long p3), .second, .val (.long p4), .second, .val (.int p5), .val (.ref b29), .val (.int (1 : Int32)), .val (.int (oI f)), .val (.ref b35), .val (.int (1 : Int32)), .unset] []))
    refine gs (fun t => XS.iload X40.here hx rfl (hb hby at_141) rfl) ?_
    show Go p e below s QQ room_1.cells room_1.slots (T40.setTop (mkF m 143 #[.val (.long p0), .second, .val (.long p1), .second, .val (.long p2), .second, .val (.long p3), .second, .val (.long p4), .second, .val (.int p5), .val (.ref b29), .val (.int (1 : Int32)), .val (.int (oI f)), .val (.ref b35), .val (.int (1 : Int32)), .unset] [(.int (1 : Int32))]))
    refine gs (fun t => XS.iconst X40.here hx rfl (hb hby at_143)) ?_
    show Go p e below s QQ room_1.cells room_1.slots (T40.setTop (mkF m 144 #[.val (.long p0), .second, .val (.long p1), .second, .val (.long p2), .second, .val (.long p3), .second, .val (.long p4), .second, .val (.int p5), .val (.ref b29), .val (.int (1 : Int32)), .val (.int (oI f)), .val (.ref b35), .val (.int (1 : Int32)), .unset] [(.int (2 : Int32)), (.int (1 : Int32))]))
    refine gs (fun t => XS.icmpYes X40.here hx rfl (pc0 := 144) (pc' := 188) rfl (hb hby at_144) rfl (tlt (by decide : (1 : Int32) < (2 : Int32))).1 (by decide) (by decide)) ?_
    show Go p e below s QQ room_1.cells room_1.slots (T40.setTop (mkF m 188 #[.val (.long p0), .second, .val (.long p1), .second, .val (.long p2), .second, .val (.long p3), .second, .val (.long p4), .second, .val (.int p5), .val (.ref b29), .val (.int (1 : Int32)), .val (.int (oI f)), .val (.ref b35), .val (.int (1 : Int32)), .unset] []))
    refine gs (fun t => XS.aload X40.here hx rfl (hb hby at_188) rfl rfl) ?_
    show Go p e below s QQ room_1.cells room_1.slots (T40.setTop (mkF m 190 #[.val (.long p0), .second, .val (.long p1), .second, .val (.long p2), .second, .val (.long p3), .second, .val (.long p4), .second, .val (.int p5), .val (.ref b29), .val (.int (1 : Int32)), .val (.int (oI f)), .val (.ref b35), .val (.int (1 : Int32)), .unset] [(.ref b35)]))
    refine gs (fun t => XS.lload X40.here hx rfl (hb hby at_190) rfl) ?_
    show Go p e below s QQ room_1.cells room_1.slots (T40.setTop (mkF m 192 #[.val (.long p0), .second, .val (.long p1), .second, .val (.long p2), .second, .val (.long p3), .second, .val (.long p4), .second, .val (.int p5), .val (.ref b29), .val (.int (1 : Int32)), .val (.int (oI f)), .val (.ref b35), .val (.int (1 : Int32)), .unset] [(.long p4), (.ref b35)]))
    refine gs (fun t => XS.lload X40.here hx rfl (hb hby at_192) rfl) ?_
    show Go p e below s QQ room_1.cells room_1.slots (T40.setTop (mkF m 194 #[.val (.long p0), .second, .val (.long p1), .second, .val (.long p2), .second, .val (.long p3), .second, .val (.long p4), .second, .val (.int p5), .val (.ref b29), .val (.int (1 : Int32)), .val (.int (oI f)), .val (.ref b35), .val (.int (1 : Int32)), .unset] [(.long p3), (.long p4), (.ref b35)]))
    refine gs (fun t => XS.lload X40.here hx rfl (hb hby at_194) rfl) ?_
    show Go p e below s QQ room_1.cells room_1.slots (T40.setTop (mkF m 196 #[.val (.long p0), .second, .val (.long p1), .second, .val (.long p2), .second, .val (.long p3), .second, .val (.long p4), .second, .val (.int p5), .val (.ref b29), .val (.int (1 : Int32)), .val (.int (oI f)), .val (.ref b35), .val (.int (1 : Int32)), .unset] [(.long p2), (.long p3), (.long p4), (.ref b35)]))
    refine gs (fun t => XS.lloadN X40.here hx rfl (hb hby at_196) rfl) ?_
    show Go p e below s QQ room_1.cells room_1.slots (T40.setTop (mkF m 197 #[.val (.long p0), .second, .val (.long p1), .second, .val (.long p2), .second, .val (.long p3), .second, .val (.long p4), .second, .val (.int p5), .val (.ref b29), .val (.int (1 : Int32)), .val (.int (oI f)), .val (.ref b35), .val (.int (1 : Int32)), .unset] [(.long p1), (.long p2), (.long p3), (.long p4), (.ref b35)]))
    refine gs (fun t => XS.lloadN X40.here hx rfl (hb hby at_197) rfl) ?_
    show Go p e below s QQ room_1.cells room_1.slots (T40.setTop (mkF m 198 #[.val (.long p0), .second, .val (.long p1), .second, .val (.long p2), .second, .val (.long p3), .second, .val (.long p4), .second, .val (.int p5), .val (.ref b29), .val (.int (1 : Int32)), .val (.int (oI f)), .val (.ref b35), .val (.int (1 : Int32)), .unset] [(.long p0), (.long p1), (.long p2), (.long p3), (.long p4), (.ref b35)]))
    obtain ⟨cq41, kq41, q41a, q41b, q41c⟩ := isOf hZ e40 Ex_b35
    obtain ⟨_, _, ⟨T41, L41, k41, n41⟩, -, X41, ⟨Lc41, hQ41, l41, y41, z41⟩, st41⟩ := X40.virtualBack hx (y := (⟨"com/example/interval/interval/service/SlotTable", "add", "(JJJJJ)I"⟩ : MethodName)) (z := (⟨"com/example/interval/interval/service/SlotTable", "add", "(JJJJJ)I"⟩ : MethodName)) hown (mvT hZ (hw _ (List.mem_of_getElem? (i := 16) rfl))) (mvT hZ (hw _ (List.mem_of_getElem? (i := 17) rfl))) (notFace_of_selects (args := #[]) (mvT hZ (hw _ (List.mem_of_getElem? (i := 19) rfl)))) (mvT hZ (hw _ (List.mem_of_getElem? (i := 19) rfl))) (mvT hZ (hw _ (List.mem_of_getElem? (i := 18) rfl))) (by decide) (backOf (W := 0) (rm3 l Z a0 hw [] b35 p4 p3 p2 p1 p0 0 pg pa (updv (fun _ => .null) 0 (.ref pa)) (own_add (fun _ => .long 0) 0 p0 p1 p2 p3 p4) T39.heap n0 ZZ Fp Fs Ex_b35 V_pg rfl V_pa ge_b35 ge_pa ne_b35_pg ne_b35_pa ngp (by decide)) hZ (hw _ (List.mem_of_getElem? (i := 20) rfl)) (hw _ (List.mem_of_getElem? (i := 4) rfl)) (by decide) (by decide)) q41a q41c (g := (mkF m 198 #[.val (.long p0), .second, .val (.long p1), .second, .val (.long p2), .second, .val (.long p3), .second, .val (.long p4), .second, .val (.int p5), .val (.ref b29), .val (.int (1 : Int32)), .val (.int (oI f)), .val (.ref b35), .val (.int (1 : Int32)), .unset] [(.long p0), (.long p1), (.long p2), (.long p3), (.long p4), (.ref b35)])) rfl (by rw [hml]; rfl) (Steps.refl _) (argsL := [(.long p4), (.long p3), (.long p2), (.long p1), (.long p0)]) (rest := []) (lenOf pd_3 rfl) rfl (by show 2 * 0 + _ ≤ _; exact Nat.le_of_eq rfl) (hb hby at_198) (fun _ _ => ⟨rfl, e40, (by decide : 4 + 0 ≤ _), (by decide : 48 + 0 ≤ _)⟩)
    dsimp only [Pt.U, Pt.locs, Pt.cells, Pt.slots] at X41 l41 y41 z41 st41 hQ41
    subst l41 y41 z41
    obtain ⟨rfl, N41q, K41, Fpn41, Fsn41, Vn41⟩ := hQ41
    replace N0 := Fr.app N0 N41q
    refine gt st41 ?_
    show Go p e below s QQ room_1.cells room_1.slots (T41.setTop (mkF m 201 #[.val (.long p0), .second, .val (.long p1), .second, .val (.long p2), .second, .val (.long p3), .second, .val (.long p4), .second, .val (.int p5), .val (.ref b29), .val (.int (1 : Int32)), .val (.int (oI f)), .val (.ref b35), .val (.int (1 : Int32)), .unset] [(.int (oI 0))]))
    replace V_b29 := V_b29.keep K41 (ninS ne_b29_b35 (ninS ne_b29_pa nin0))
    replace Ex_b35 := Ex_b35.keep K41
    replace V_pg := V_pg.keep K41 (ninS (Ne.symm ne_b35_pg) (ninS ngp nin0))
    replace ZZ := Nat.le_trans ZZ K41.1
    have Fp := Fpn41
    have Fs := Fsn41
    have V_pa := Vn41
    refine gs (fun t => XS.istore X41.here hx rfl (hb hby at_201) rfl (l' := #[.val (.long p0), .second, .val (.long p1), .second, .val (.long p2), .second, .val (.long p3), .second, .val (.long p4), .second, .val (.int p5), .val (.ref b29), .val (.int (1 : Int32)), .val (.int (oI f)), .val (.ref b35), .val (.int (1 : Int32)), .val (.int (oI 0))]) rfl) ?_
    show Go p e below s QQ room_1.cells room_1.slots (T41.setTop (mkF m 203 #[.val (.long p0), .second, .val (.long p1), .second, .val (.long p2), .second, .val (.long p3), .second, .val (.long p4), .second, .val (.int p5), .val (.ref b29), .val (.int (1 : Int32)), .val (.int (oI f)), .val (.ref b35), .val (.int (1 : Int32)), .val (.int (oI 0))] []))
    refine gs (fun t => XS.iload X41.here hx rfl (hb hby at_203) rfl) ?_
    show Go p e below s QQ room_1.cells room_1.slots (T41.setTop (mkF m 205 #[.val (.long p0), .second, .val (.long p1), .second, .val (.long p2), .second, .val (.long p3), .second, .val (.long p4), .second, .val (.int p5), .val (.ref b29), .val (.int (1 : Int32)), .val (.int (oI f)), .val (.ref b35), .val (.int (1 : Int32)), .val (.int (oI 0))] [(.int (1 : Int32))]))
    refine gs (fun t => XS.ifNo X41.here hx rfl (hb hby at_205) rfl ((if0 _ _).trans (feq (by decide : ¬ ((1 : Int32) = (0 : Int32)))).1)) ?_
    show Go p e below s QQ room_1.cells room_1.slots (T41.setTop (mkF m 208 #[.val (.long p0), .second, .val (.long p1), .second, .val (.long p2), .second, .val (.long p3), .second, .val (.long p4), .second, .val (.int p5), .val (.ref b29), .val (.int (1 : Int32)), .val (.int (oI f)), .val (.ref b35), .val (.int (1 : Int32)), .val (.int (oI 0))] []))
    refine gs (fun t => XS.iload X41.here hx rfl (hb hby at_208) rfl) ?_
    show Go p e below s QQ room_1.cells room_1.slots (T41.setTop (mkF m 210 #[.val (.long p0), .second, .val (.long p1), .second, .val (.long p2), .second, .val (.long p3), .second, .val (.long p4), .second, .val (.int p5), .val (.ref b29), .val (.int (1 : Int32)), .val (.int (oI f)), .val (.ref b35), .val (.int (1 : Int32)), .val (.int (oI 0))] [(.int (oI 0))]))
    refine gs (fun t => XS.iload X41.here hx rfl (hb hby at_210) rfl) ?_
    show Go p e below s QQ room_1.cells room_1.slots (T41.setTop (mkF m 212 #[.val (.long p0), .second, .val (.long p1), .second, .val (.long p2), .second, .val (.long p3), .second, .val (.long p4), .second, .val (.int p5), .val (.ref b29), .val (.int (1 : Int32)), .val (.int (oI f)), .val (.ref b35), .val (.int (1 : Int32)), .val (.int (oI 0))] [(.int (1 : Int32)), (.int (oI 0))]))
    refine gs (fun t => XS.iconst X41.here hx rfl (hb hby at_212)) ?_
    show Go p e below s QQ room_1.cells room_1.slots (T41.setTop (mkF m 213 #[.val (.long p0), .second, .val (.long p1), .second, .val (.long p2), .second, .val (.long p3), .second, .val (.long p4), .second, .val (.int p5), .val (.ref b29), .val (.int (1 : Int32)), .val (.int (oI f)), .val (.ref b35), .val (.int (1 : Int32)), .val (.int (oI 0))] [(.int (1 : Int32)), (.int (1 : Int32)), (.int (oI 0))]))
    refine gs (fun t => XS.isub X41.here hx rfl (hb hby at_213) rfl) ?_
    show Go p e below s QQ room_1.cells room_1.slots (T41.setTop (mkF m 214 #[.val (.long p0), .second, .val (.long p1), .second, .val (.long p2), .second, .val (.long p3), .second, .val (.long p4), .second, .val (.int p5), .val (.ref b29), .val (.int (1 : Int32)), .val (.int (oI f)), .val (.ref b35), .val (.int (1 : Int32)), .val (.int (oI 0))] [(.int (0 : Int32)), (.int (oI 0))]))
    refine gs (fun t => XS.icmpNo X41.here hx rfl (hb hby at_214) rfl (teq (by decide : (oI 0) = (0 : Int32))).2) ?_
    show Go p e below s QQ room_1.cells room_1.slots (T41.setTop (mkF m 217 #[.val (.long p0), .second, .val (.long p1), .second, .val (.long p2), .second, .val (.long p3), .second, .val (.long p4), .second, .val (.int p5), .val (.ref b29), .val (.int (1 : Int32)), .val (.int (oI f)), .val (.ref b35), .val (.int (1 : Int32)), .val (.int (oI 0))] []))
    refine gs (fun t => XS.aload X41.here hx rfl (hb hby at_217) rfl rfl) ?_
    show Go p e below s QQ room_1.cells room_1.slots (T41.setTop (mkF m 219 #[.val (.long p0), .second, .val (.long p1), .second, .val (.long p2), .second, .val (.long p3), .second, .val (.long p4), .second, .val (.int p5), .val (.ref b29), .val (.int (1 : Int32)), .val (.int (oI f)), .val (.ref b35), .val (.int (1 : Int32)), .val (.int (oI 0))] [(.ref b35)]))
    refine gs (fun t => XS.iload X41.here hx rfl (hb hby at_219) rfl) ?_
    show Go p e below s QQ room_1.cells room_1.slots (T41.setTop (mkF m 221 #[.val (.long p0), .second, .val (.long p1), .second, .val (.long p2), .second, .val (.long p3), .second, .val (.long p4), .second, .val (.int p5), .val (.ref b29), .val (.int (1 : Int32)), .val (.int (oI f)), .val (.ref b35), .val (.int (1 : Int32)), .val (.int (oI 0))] [(.int (oI 0)), (.ref b35)]))
    refine gs (fun t => XS.iload X41.here hx rfl (hb hby at_221) rfl) ?_
    show Go p e below s QQ room_1.cells room_1.slots (T41.setTop (mkF m 223 #[.val (.long p0), .second, .val (.long p1), .second, .val (.long p2), .second, .val (.long p3), .second, .val (.long p4), .second, .val (.int p5), .val (.ref b29), .val (.int (1 : Int32)), .val (.int (oI f)), .val (.ref b35), .val (.int (1 : Int32)), .val (.int (oI 0))] [(.int (oI f)), (.int (oI 0)), (.ref b35)]))
    obtain ⟨cq42, kq42, q42a, q42b, q42c⟩ := isOf hZ rfl Ex_b35
    obtain ⟨_, _, ⟨T42, L42, k42, n42⟩, -, X42, ⟨Lc42, hQ42, l42, y42, z42⟩, st42⟩ := X41.virtualBack hx (y := (⟨"com/example/interval/interval/service/SlotTable", "get", "(II)J"⟩ : MethodName)) (z := (⟨"com/example/interval/interval/service/SlotTable", "get", "(II)J"⟩ : MethodName)) hown (mvT hZ (hw _ (List.mem_of_getElem? (i := 41) rfl))) (mvT hZ (hw _ (List.mem_of_getElem? (i := 42) rfl))) (notFace_of_selects (args := #[]) (mvT hZ (hw _ (List.mem_of_getElem? (i := 44) rfl)))) (mvT hZ (hw _ (List.mem_of_getElem? (i := 44) rfl))) (mvT hZ (hw _ (List.mem_of_getElem? (i := 43) rfl))) (by decide) (backOf (W := 0) (rm8 l Z a0 hw [] b35 0 f pg pa (updv (fun _ => .null) 0 (.ref pa)) (own_add (own_add (fun _ => .long 0) 0 p0 p1 p2 p3 p4) 0 p4 p3 p2 p1 p0) (own_sel p4 p3 p2 p1 p0 f) T41.heap n0 ZZ Fp V_pg rfl V_pa (by decide) (by omega) (own_addeq _ 0 _ _ _ _ _ hf5)) hZ (hw _ (List.mem_of_getElem? (i := 45) rfl)) (hw _ (List.mem_of_getElem? (i := 4) rfl)) (by decide) (by decide)) q42a q42c (g := (mkF m 223 #[.val (.long p0), .second, .val (.long p1), .second, .val (.long p2), .second, .val (.long p3), .second, .val (.long p4), .second, .val (.int p5), .val (.ref b29), .val (.int (1 : Int32)), .val (.int (oI f)), .val (.ref b35), .val (.int (1 : Int32)), .val (.int (oI 0))] [(.int (oI f)), (.int (oI 0)), (.ref b35)])) rfl (by rw [hml]; rfl) (Steps.refl _) (argsL := [(.int (oI 0)), (.int (oI f))]) (rest := []) (lenOf pd_5 rfl) rfl (by show 2 * 0 + _ ≤ _; exact Nat.le_of_eq rfl) (hb hby at_223) (fun _ _ => ⟨rfl, rfl, (by decide : 4 + 0 ≤ _), (by decide : 48 + 0 ≤ _)⟩)
    dsimp only [Pt.U, Pt.locs, Pt.cells, Pt.slots] at X42 l42 y42 z42 st42 hQ42
    subst l42 y42 z42
    obtain ⟨rfl, N42q, e42⟩ := hQ42
    replace N0 := Fr.app N0 N42q
    refine gt st42 ?_
    show Go p e below s QQ room_1.cells room_1.slots (T42.setTop (mkF m 226 #[.val (.long p0), .second, .val (.long p1), .second, .val (.long p2), .second, .val (.long p3), .second, .val (.long p4), .second, .val (.int p5), .val (.ref b29), .val (.int (1 : Int32)), .val (.int (oI f)), .val (.ref b35), .val (.int (1 : Int32)), .val (.int (oI 0))] [(.long (own_sel p4 p3 p2 p1 p0 f))]))
    refine gs (fun t => XS.aload X42.here hx rfl (hb hby at_226) rfl rfl) ?_
    show Go p e below s QQ room_1.cells room_1.slots (T42.setTop (mkF m 228 #[.val (.long p0), .second, .val (.long p1), .second, .val (.long p2), .second, .val (.long p3), .second, .val (.long p4), .second, .val (.int p5), .val (.ref b29), .val (.int (1 : Int32)), .val (.int (oI f)), .val (.ref b35), .val (.int (1 : Int32)), .val (.int (oI 0))] [(.ref b29), (.long (own_sel p4 p3 p2 p1 p0 f))]))
    refine gs (fun t => XS.iconst X42.here hx rfl (hb hby at_228)) ?_
    show Go p e below s QQ room_1.cells room_1.slots (T42.setTop (mkF m 229 #[.val (.long p0), .second, .val (.long p1), .second, .val (.long p2), .second, .val (.long p3), .second, .val (.long p4), .second, .val (.int p5), .val (.ref b29), .val (.int (1 : Int32)), .val (.int (oI f)), .val (.ref b35), .val (.int (1 : Int32)), .val (.int (oI 0))] [(.int (4 : Int32)), (.ref b29), (.long (own_sel p4 p3 p2 p1 p0 f))]))
    refine gs (fun t => XS.iload X42.here hx rfl (hb hby at_229) rfl) ?_
    show Go p e below s QQ room_1.cells room_1.slots (T42.setTop (mkF m 231 #[.val (.long p0), .second, .val (.long p1), .second, .val (.long p2), .second, .val (.long p3), .second, .val (.long p4), .second, .val (.int p5), .val (.ref b29), .val (.int (1 : Int32)), .val (.int (oI f)), .val (.ref b35), .val (.int (1 : Int32)), .val (.int (oI 0))] [(.int (oI f)), (.int (4 : Int32)), (.ref b29), (.long (own_sel p4 p3 p2 p1 p0 f))]))
    refine gs (fun t => XS.isub X42.here hx rfl (hb hby at_231) rfl) ?_
    show Go p e below s QQ room_1.cells room_1.slots (T42.setTop (mkF m 232 #[.val (.long p0), .second, .val (.long p1), .second, .val (.long p2), .second, .val (.long p3), .second, .val (.long p4), .second, .val (.int p5), .val (.ref b29), .val (.int (1 : Int32)), .val (.int (oI f)), .val (.ref b35), .val (.int (1 : Int32)), .val (.int (oI 0))] [(.int ((4 : Int32) - (oI f))), (.ref b29), (.long (own_sel p4 p3 p2 p1 p0 f))]))
    rw [show ((4 : Int32) - (oI f)) = (oI (4 - f)) from own_4f hf5]
    show Go p e below s QQ room_1.cells room_1.slots (T42.setTop (mkF m 232 #[.val (.long p0), .second, .val (.long p1), .second, .val (.long p2), .second, .val (.long p3), .second, .val (.long p4), .second, .val (.int p5), .val (.ref b29), .val (.int (1 : Int32)), .val (.int (oI f)), .val (.ref b35), .val (.int (1 : Int32)), .val (.int (oI 0))] [(.int (oI (4 - f))), (.ref b29), (.long (own_sel p4 p3 p2 p1 p0 f))]))
    refine gs (fun t => ldJf X42 hx hZ e42 V_b29 (j := (oI (4 - f))) (v := (.long (own_sel p0 p1 p2 p3 p4 (4 - f)))) (own_oin (by omega) (by decide)) (by rw [oI_c (by omega)]) (g := (mkF m 232 #[.val (.long p0), .second, .val (.long p1), .second, .val (.long p2), .second, .val (.long p3), .second, .val (.long p4), .second, .val (.int p5), .val (.ref b29), .val (.int (1 : Int32)), .val (.int (oI f)), .val (.ref b35), .val (.int (1 : Int32)), .val (.int (oI 0))] [(.int (oI (4 - f))), (.ref b29), (.long (own_sel p4 p3 p2 p1 p0 f))])) rfl rfl (hb hby at_232) t) ?_
    show Go p e below s QQ room_1.cells room_1.slots (T42.setTop (mkF m 233 #[.val (.long p0), .second, .val (.long p1), .second, .val (.long p2), .second, .val (.long p3), .second, .val (.long p4), .second, .val (.int p5), .val (.ref b29), .val (.int (1 : Int32)), .val (.int (oI f)), .val (.ref b35), .val (.int (1 : Int32)), .val (.int (oI 0))] [(.long (own_sel p0 p1 p2 p3 p4 (4 - f))), (.long (own_sel p4 p3 p2 p1 p0 f))]))
    refine gs (fun t => XS.lcmp X42.here hx rfl (hb hby at_233) rfl) ?_
    show Go p e below s QQ room_1.cells room_1.slots (T42.setTop (mkF m 234 #[.val (.long p0), .second, .val (.long p1), .second, .val (.long p2), .second, .val (.long p3), .second, .val (.long p4), .second, .val (.int p5), .val (.ref b29), .val (.int (1 : Int32)), .val (.int (oI f)), .val (.ref b35), .val (.int (1 : Int32)), .val (.int (oI 0))] [(.int (lcmpW (own_sel p4 p3 p2 p1 p0 f) (own_sel p0 p1 p2 p3 p4 (4 - f))))]))
    refine gs (fun t => XS.ifNo X42.here hx rfl (hb hby at_234) rfl ((if0 _ _).trans (teq ((lw_eq _ _).mpr (by rcases own_5 hf5 with rfl | rfl | rfl | rfl | rfl <;> rfl) : (lcmpW (own_sel p4 p3 p2 p1 p0 f) (own_sel p0 p1 p2 p3 p4 (4 - f))) = (0 : Int32))).2)) ?_
    show Go p e below s QQ room_1.cells room_1.slots (T42.setTop (mkF m 237 #[.val (.long p0), .second, .val (.long p1), .second, .val (.long p2), .second, .val (.long p3), .second, .val (.long p4), .second, .val (.int p5), .val (.ref b29), .val (.int (1 : Int32)), .val (.int (oI f)), .val (.ref b35), .val (.int (1 : Int32)), .val (.int (oI 0))] []))
    refine gs (fun t => XS.iconst X42.here hx rfl (hb hby at_237)) ?_
    show Go p e below s QQ room_1.cells room_1.slots (T42.setTop (mkF m 238 #[.val (.long p0), .second, .val (.long p1), .second, .val (.long p2), .second, .val (.long p3), .second, .val (.long p4), .second, .val (.int p5), .val (.ref b29), .val (.int (1 : Int32)), .val (.int (oI f)), .val (.ref b35), .val (.int (1 : Int32)), .val (.int (oI 0))] [(.int (1 : Int32))]))
    refine gs (fun t => XS.goto X42.here hx rfl (pc0 := 238) (pc' := 242) rfl (hb hby at_238) (by decide) (by decide)) ?_
    show Go p e below s QQ room_1.cells room_1.slots (T42.setTop (mkF m 242 #[.val (.long p0), .second, .val (.long p1), .second, .val (.long p2), .second, .val (.long p3), .second, .val (.long p4), .second, .val (.int p5), .val (.ref b29), .val (.int (1 : Int32)), .val (.int (oI f)), .val (.ref b35), .val (.int (1 : Int32)), .val (.int (oI 0))] [(.int (1 : Int32))]))
    refine gs (fun t => XS.istore X42.here hx rfl (hb hby at_242) rfl (l' := #[.val (.long p0), .second, .val (.long p1), .second, .val (.long p2), .second, .val (.long p3), .second, .val (.long p4), .second, .val (.int p5), .val (.ref b29), .val (.int (1 : Int32)), .val (.int (oI f)), .val (.ref b35), .val (.int (1 : Int32)), .val (.int (oI 0))]) rfl) ?_
    show Go p e below s QQ room_1.cells room_1.slots (T42.setTop (mkF m 244 #[.val (.long p0), .second, .val (.long p1), .second, .val (.long p2), .second, .val (.long p3), .second, .val (.long p4), .second, .val (.int p5), .val (.ref b29), .val (.int (1 : Int32)), .val (.int (oI f)), .val (.ref b35), .val (.int (1 : Int32)), .val (.int (oI 0))] []))
    refine gs (fun t => XS.iload X42.here hx rfl (hb hby at_244) rfl) ?_
    show Go p e below s QQ room_1.cells room_1.slots (T42.setTop (mkF m 246 #[.val (.long p0), .second, .val (.long p1), .second, .val (.long p2), .second, .val (.long p3), .second, .val (.long p4), .second, .val (.int p5), .val (.ref b29), .val (.int (1 : Int32)), .val (.int (oI f)), .val (.ref b35), .val (.int (1 : Int32)), .val (.int (oI 0))] [(.int (1 : Int32))]))
    exact goB X42 hx Bd.notSynchronized Bd.returns (by simp) (w := (1 : Int32)) (by first | rfl | decide) (hb hby at_246) (by rw [← hQQ, e42]; exact ⟨rfl, N0⟩) (by decide) (by decide)
  · skip
    show Go p e below s QQ room_1.cells room_1.slots (T38.setTop (mkF m 80 #[.val (.long p0), .second, .val (.long p1), .second, .val (.long p2), .second, .val (.long p3), .second, .val (.long p4), .second, .val (.int p5), .val (.ref b29), .val (.int (2 : Int32)), .val (.int (oI f)), .val (.ref b35), .unset, .unset] [(.int (2 : Int32)), (.int (2 : Int32))]))
    refine gs (fun t => XS.icmpNo X38.here hx rfl (hb hby at_80) rfl (flt (by decide : ¬ ((2 : Int32) < (2 : Int32)))).1) ?_
    show Go p e below s QQ room_1.cells room_1.slots (T38.setTop (mkF m 83 #[.val (.long p0), .second, .val (.long p1), .second, .val (.long p2), .second, .val (.long p3), .second, .val (.long p4), .second, .val (.int p5), .val (.ref b29), .val (.int (2 : Int32)), .val (.int (oI f)), .val (.ref b35), .unset, .unset] []))
    refine gs (fun t => XS.aload X38.here hx rfl (hb hby at_83) rfl rfl) ?_
    show Go p e below s QQ room_1.cells room_1.slots (T38.setTop (mkF m 85 #[.val (.long p0), .second, .val (.long p1), .second, .val (.long p2), .second, .val (.long p3), .second, .val (.long p4), .second, .val (.int p5), .val (.ref b29), .val (.int (2 : Int32)), .val (.int (oI f)), .val (.ref b35), .unset, .unset] [(.ref b35)]))
    refine gs (fun t => XS.lloadN X38.here hx rfl (hb hby at_85) rfl) ?_
    show Go p e below s QQ room_1.cells room_1.slots (T38.setTop (mkF m 86 #[.val (.long p0), .second, .val (.long p1), .second, .val (.long p2), .second, .val (.long p3), .second, .val (.long p4), .second, .val (.int p5), .val (.ref b29), .val (.int (2 : Int32)), .val (.int (oI f)), .val (.ref b35), .unset, .unset] [(.long p1), (.ref b35)]))
    refine gs (fun t => XS.lload X38.here hx rfl (hb hby at_86) rfl) ?_
    show Go p e below s QQ room_1.cells room_1.slots (T38.setTop (mkF m 88 #[.val (.long p0), .second, .val (.long p1), .second, .val (.long p2), .second, .val (.long p3), .second, .val (.long p4), .second, .val (.int p5), .val (.ref b29), .val (.int (2 : Int32)), .val (.int (oI f)), .val (.ref b35), .unset, .unset] [(.long p2), (.long p1), (.ref b35)]))
    refine gs (fun t => XS.lload X38.here hx rfl (hb hby at_88) rfl) ?_
    show Go p e below s QQ room_1.cells room_1.slots (T38.setTop (mkF m 90 #[.val (.long p0), .second, .val (.long p1), .second, .val (.long p2), .second, .val (.long p3), .second, .val (.long p4), .second, .val (.int p5), .val (.ref b29), .val (.int (2 : Int32)), .val (.int (oI f)), .val (.ref b35), .unset, .unset] [(.long p3), (.long p2), (.long p1), (.ref b35)]))
    refine gs (fun t => XS.lload X38.here hx rfl (hb hby at_90) rfl) ?_
    show Go p e below s QQ room_1.cells room_1.slots (T38.setTop (mkF m 92 #[.val (.long p0), .second, .val (.long p1), .second, .val (.long p2), .second, .val (.long p3), .second, .val (.long p4), .second, .val (.int p5), .val (.ref b29), .val (.int (2 : Int32)), .val (.int (oI f)), .val (.ref b35), .unset, .unset] [(.long p4), (.long p3), (.long p2), (.long p1), (.ref b35)]))
    refine gs (fun t => XS.lloadN X38.here hx rfl (hb hby at_92) rfl) ?_
    show Go p e below s QQ room_1.cells room_1.slots (T38.setTop (mkF m 93 #[.val (.long p0), .second, .val (.long p1), .second, .val (.long p2), .second, .val (.long p3), .second, .val (.long p4), .second, .val (.int p5), .val (.ref b29), .val (.int (2 : Int32)), .val (.int (oI f)), .val (.ref b35), .unset, .unset] [(.long p0), (.long p4), (.long p3), (.long p2), (.long p1), (.ref b35)]))
    obtain ⟨cq43, kq43, q43a, q43b, q43c⟩ := isOf hZ rfl Ex_b35
    obtain ⟨_, _, ⟨T43, L43, k43, n43⟩, -, X43, ⟨Lc43, hQ43, l43, y43, z43⟩, st43⟩ := X38.virtualBack hx (y := (⟨"com/example/interval/interval/service/SlotTable", "add", "(JJJJJ)I"⟩ : MethodName)) (z := (⟨"com/example/interval/interval/service/SlotTable", "add", "(JJJJJ)I"⟩ : MethodName)) hown (mvT hZ (hw _ (List.mem_of_getElem? (i := 16) rfl))) (mvT hZ (hw _ (List.mem_of_getElem? (i := 17) rfl))) (notFace_of_selects (args := #[]) (mvT hZ (hw _ (List.mem_of_getElem? (i := 19) rfl)))) (mvT hZ (hw _ (List.mem_of_getElem? (i := 19) rfl))) (mvT hZ (hw _ (List.mem_of_getElem? (i := 18) rfl))) (by decide) (backOf (W := 0) (rm3 l Z a0 hw [] b35 p1 p2 p3 p4 p0 (0 + 1) pg pa (updv (fun _ => .null) 0 (.ref pa)) (own_add (fun _ => .long 0) 0 p0 p1 p2 p3 p4) T38.heap n0 ZZ Fp Fs Ex_b35 V_pg rfl V_pa ge_b35 ge_pa ne_b35_pg ne_b35_pa ngp (by decide)) hZ (hw _ (List.mem_of_getElem? (i := 20) rfl)) (hw _ (List.mem_of_getElem? (i := 4) rfl)) (by decide) (by decide)) q43a q43c (g := (mkF m 93 #[.val (.long p0), .second, .val (.long p1), .second, .val (.long p2), .second, .val (.long p3), .second, .val (.long p4), .second, .val (.int p5), .val (.ref b29), .val (.int (2 : Int32)), .val (.int (oI f)), .val (.ref b35), .unset, .unset] [(.long p0), (.long p4), (.long p3), (.long p2), (.long p1), (.ref b35)])) rfl (by rw [hml]; rfl) (Steps.refl _) (argsL := [(.long p1), (.long p2), (.long p3), (.long p4), (.long p0)]) (rest := []) (lenOf pd_3 rfl) rfl (by show 2 * 0 + _ ≤ _; exact Nat.le_of_eq rfl) (hb hby at_93) (fun _ _ => ⟨rfl, rfl, (by decide : 4 + 0 ≤ _), (by decide : 48 + 0 ≤ _)⟩)
    dsimp only [Pt.U, Pt.locs, Pt.cells, Pt.slots] at X43 l43 y43 z43 st43 hQ43
    subst l43 y43 z43
    obtain ⟨rfl, N43q, K43, Fpn43, Fsn43, Vn43⟩ := hQ43
    replace N0 := Fr.app N0 N43q
    refine gt st43 ?_
    show Go p e below s QQ room_1.cells room_1.slots (T43.setTop (mkF m 96 #[.val (.long p0), .second, .val (.long p1), .second, .val (.long p2), .second, .val (.long p3), .second, .val (.long p4), .second, .val (.int p5), .val (.ref b29), .val (.int (2 : Int32)), .val (.int (oI f)), .val (.ref b35), .unset, .unset] [(.int (oI (0 + 1)))]))
    replace V_b29 := V_b29.keep K43 (ninS ne_b29_b35 (ninS ne_b29_pa nin0))
    replace Ex_b35 := Ex_b35.keep K43
    replace V_pg := V_pg.keep K43 (ninS (Ne.symm ne_b35_pg) (ninS ngp nin0))
    replace ZZ := Nat.le_trans ZZ K43.1
    have Fp := Fpn43
    have Fs := Fsn43
    have V_pa := Vn43
    refine gs (fun t => XS.pop X43.here hx rfl (hb hby at_96) rfl rfl) ?_
    show Go p e below s QQ room_1.cells room_1.slots (T43.setTop (mkF m 97 #[.val (.long p0), .second, .val (.long p1), .second, .val (.long p2), .second, .val (.long p3), .second, .val (.long p4), .second, .val (.int p5), .val (.ref b29), .val (.int (2 : Int32)), .val (.int (oI f)), .val (.ref b35), .unset, .unset] []))
    refine gs (fun t => XS.iload X43.here hx rfl (hb hby at_97) rfl) ?_
    show Go p e below s QQ room_1.cells room_1.slots (T43.setTop (mkF m 99 #[.val (.long p0), .second, .val (.long p1), .second, .val (.long p2), .second, .val (.long p3), .second, .val (.long p4), .second, .val (.int p5), .val (.ref b29), .val (.int (2 : Int32)), .val (.int (oI f)), .val (.ref b35), .unset, .unset] [(.int (2 : Int32))]))
    refine gs (fun t => XS.iconst X43.here hx rfl (hb hby at_99)) ?_
    show Go p e below s QQ room_1.cells room_1.slots (T43.setTop (mkF m 100 #[.val (.long p0), .second, .val (.long p1), .second, .val (.long p2), .second, .val (.long p3), .second, .val (.long p4), .second, .val (.int p5), .val (.ref b29), .val (.int (2 : Int32)), .val (.int (oI f)), .val (.ref b35), .unset, .unset] [(.int (3 : Int32)), (.int (2 : Int32))]))
    refine gs (fun t => XS.icmpYes X43.here hx rfl (pc0 := 100) (pc' := 117) rfl (hb hby at_100) rfl (tlt (by decide : (2 : Int32) < (3 : Int32))).1 (by decide) (by decide)) ?_
    show Go p e below s QQ room_1.cells room_1.slots (T43.setTop (mkF m 117 #[.val (.long p0), .second, .val (.long p1), .second, .val (.long p2), .second, .val (.long p3), .second, .val (.long p4), .second, .val (.int p5), .val (.ref b29), .val (.int (2 : Int32)), .val (.int (oI f)), .val (.ref b35), .unset, .unset] []))
    refine gs (fun t => XS.aload X43.here hx rfl (hb hby at_117) rfl rfl) ?_
    show Go p e below s QQ room_1.cells room_1.slots (T43.setTop (mkF m 119 #[.val (.long p0), .second, .val (.long p1), .second, .val (.long p2), .second, .val (.long p3), .second, .val (.long p4), .second, .val (.int p5), .val (.ref b29), .val (.int (2 : Int32)), .val (.int (oI f)), .val (.ref b35), .unset, .unset] [(.ref b35)]))
    obtain ⟨cq44, kq44, q44a, q44b, q44c⟩ := isOf hZ rfl Ex_b35
    obtain ⟨_, _, ⟨T44, L44, k44, n44⟩, -, X44, ⟨Lc44, hQ44, l44, y44, z44⟩, st44⟩ := X43.virtualBack hx (y := (⟨"com/example/interval/interval/service/SlotTable", "removeLast", "()V"⟩ : MethodName)) (z := (⟨"com/example/interval/interval/service/SlotTable", "removeLast", "()V"⟩ : MethodName)) hown (mvT hZ (hw _ (List.mem_of_getElem? (i := 31) rfl))) (mvT hZ (hw _ (List.mem_of_getElem? (i := 32) rfl))) (notFace_of_selects (args := #[]) (mvT hZ (hw _ (List.mem_of_getElem? (i := 34) rfl)))) (mvT hZ (hw _ (List.mem_of_getElem? (i := 34) rfl))) (mvT hZ (hw _ (List.mem_of_getElem? (i := 33) rfl))) (by decide) (backOf (W := 0) (rm6 l Z a0 hw [] b35 (0 + 1) pg (updv (fun _ => .null) 0 (.ref pa)) T43.heap n0 ZZ Fp Fs Ex_b35 V_pg ge_b35 ne_b35_pg (by decide)) hZ (hw _ (List.mem_of_getElem? (i := 35) rfl)) (hw _ (List.mem_of_getElem? (i := 4) rfl)) (by decide) (by decide)) q44a q44c (g := (mkF m 119 #[.val (.long p0), .second, .val (.long p1), .second, .val (.long p2), .second, .val (.long p3), .second, .val (.long p4), .second, .val (.int p5), .val (.ref b29), .val (.int (2 : Int32)), .val (.int (oI f)), .val (.ref b35), .unset, .unset] [(.ref b35)])) rfl (by rw [hml]; rfl) (Steps.refl _) (argsL := []) (rest := []) (lenOf pd_2 rfl) rfl (by show 2 * 0 + _ ≤ _; exact Nat.le_of_eq rfl) (hb hby at_119) (fun _ _ => ⟨rfl, rfl, (by decide : 4 + 0 ≤ _), (by decide : 48 + 0 ≤ _)⟩)
    dsimp only [Pt.U, Pt.locs, Pt.cells, Pt.slots] at X44 l44 y44 z44 st44 hQ44
    subst l44 y44 z44
    obtain ⟨rfl, N44q, K44, Fpn44, Fsn44⟩ := hQ44
    replace N0 := Fr.app N0 N44q
    refine gt st44 ?_
    show Go p e below s QQ room_1.cells room_1.slots (T44.setTop (mkF m 122 #[.val (.long p0), .second, .val (.long p1), .second, .val (.long p2), .second, .val (.long p3), .second, .val (.long p4), .second, .val (.int p5), .val (.ref b29), .val (.int (2 : Int32)), .val (.int (oI f)), .val (.ref b35), .unset, .unset] []))
    replace V_b29 := V_b29.keep K44 (ninS ne_b29_b35 nin0)
    replace Ex_b35 := Ex_b35.keep K44
    replace V_pg := V_pg.keep K44 (ninS (Ne.symm ne_b35_pg) nin0)
    replace V_pa := V_pa.keep K44 (ninS (Ne.symm ne_b35_pa) nin0)
    replace ZZ := Nat.le_trans ZZ K44.1
    have Fp := Fpn44
    have Fs := Fsn44
    refine gs (fun t => XS.aload X44.here hx rfl (hb hby at_122) rfl rfl) ?_
    show Go p e below s QQ room_1.cells room_1.slots (T44.setTop (mkF m 124 #[.val (.long p0), .second, .val (.long p1), .second, .val (.long p2), .second, .val (.long p3), .second, .val (.long p4), .second, .val (.int p5), .val (.ref b29), .val (.int (2 : Int32)), .val (.int (oI f)), .val (.ref b35), .unset, .unset] [(.ref b35)]))
    obtain ⟨cq45, kq45, q45a, q45b, q45c⟩ := isOf hZ rfl Ex_b35
    obtain ⟨_, _, ⟨T45, L45, k45, n45⟩, -, X45, ⟨Lc45, hQ45, l45, y45, z45⟩, st45⟩ := X44.virtualBack hx (y := (⟨"com/example/interval/interval/service/SlotTable", "size", "()I"⟩ : MethodName)) (z := (⟨"com/example/interval/interval/service/SlotTable", "size", "()I"⟩ : MethodName)) hown (mvT hZ (hw _ (List.mem_of_getElem? (i := 36) rfl))) (mvT hZ (hw _ (List.mem_of_getElem? (i := 37) rfl))) (notFace_of_selects (args := #[]) (mvT hZ (hw _ (List.mem_of_getElem? (i := 39) rfl)))) (mvT hZ (hw _ (List.mem_of_getElem? (i := 39) rfl))) (mvT hZ (hw _ (List.mem_of_getElem? (i := 38) rfl))) (by decide) (backOf (W := 0) (rm7 l Z a0 hw [] b35 (oI (0 + 1)) T44.heap n0 ZZ Fs) hZ (hw _ (List.mem_of_getElem? (i := 40) rfl)) (hw _ (List.mem_of_getElem? (i := 4) rfl)) (by decide) (by decide)) q45a q45c (g := (mkF m 124 #[.val (.long p0), .second, .val (.long p1), .second, .val (.long p2), .second, .val (.long p3), .second, .val (.long p4), .second, .val (.int p5), .val (.ref b29), .val (.int (2 : Int32)), .val (.int (oI f)), .val (.ref b35), .unset, .unset] [(.ref b35)])) rfl (by rw [hml]; rfl) (Steps.refl _) (argsL := []) (rest := []) (lenOf pd_4 rfl) rfl (by show 2 * 0 + _ ≤ _; exact Nat.le_of_eq rfl) (hb hby at_124) (fun _ _ => ⟨rfl, rfl, (by decide : 4 + 0 ≤ _), (by decide : 48 + 0 ≤ _)⟩)
    dsimp only [Pt.U, Pt.locs, Pt.cells, Pt.slots] at X45 l45 y45 z45 st45 hQ45
    subst l45 y45 z45
    obtain ⟨rfl, N45q, e45⟩ := hQ45
    replace N0 := Fr.app N0 N45q
    refine gt st45 ?_
    show Go p e below s QQ room_1.cells room_1.slots (T45.setTop (mkF m 127 #[.val (.long p0), .second, .val (.long p1), .second, .val (.long p2), .second, .val (.long p3), .second, .val (.long p4), .second, .val (.int p5), .val (.ref b29), .val (.int (2 : Int32)), .val (.int (oI f)), .val (.ref b35), .unset, .unset] [(.int (oI (0 + 1)))]))
    refine gs (fun t => XS.iload X45.here hx rfl (hb hby at_127) rfl) ?_
    show Go p e below s QQ room_1.cells room_1.slots (T45.setTop (mkF m 129 #[.val (.long p0), .second, .val (.long p1), .second, .val (.long p2), .second, .val (.long p3), .second, .val (.long p4), .second, .val (.int p5), .val (.ref b29), .val (.int (2 : Int32)), .val (.int (oI f)), .val (.ref b35), .unset, .unset] [(.int (2 : Int32)), (.int (oI (0 + 1)))]))
    refine gs (fun t => XS.iconst X45.here hx rfl (hb hby at_129)) ?_
    show Go p e below s QQ room_1.cells room_1.slots (T45.setTop (mkF m 130 #[.val (.long p0), .second, .val (.long p1), .second, .val (.long p2), .second, .val (.long p3), .second, .val (.long p4), .second, .val (.int p5), .val (.ref b29), .val (.int (2 : Int32)), .val (.int (oI f)), .val (.ref b35), .unset, .unset] [(.int (1 : Int32)), (.int (2 : Int32)), (.int (oI (0 + 1)))]))
    refine gs (fun t => XS.isub X45.here hx rfl (hb hby at_130) rfl) ?_
    show Go p e below s QQ room_1.cells room_1.slots (T45.setTop (mkF m 131 #[.val (.long p0), .second, .val (.long p1), .second, .val (.long p2), .second, .val (.long p3), .second, .val (.long p4), .second, .val (.int p5), .val (.ref b29), .val (.int (2 : Int32)), .val (.int (oI f)), .val (.ref b35), .unset, .unset] [(.int (1 : Int32)), (.int (oI (0 + 1)))]))
    refine gs (fun t => XS.icmpNo X45.here hx rfl (hb hby at_131) rfl (teq (by decide : (oI (0 + 1)) = (1 : Int32))).2) ?_
    show Go p e below s QQ room_1.cells room_1.slots (T45.setTop (mkF m 134 #[.val (.long p0), .second, .val (.long p1), .second, .val (.long p2), .second, .val (.long p3), .second, .val (.long p4), .second, .val (.int p5), .val (.ref b29), .val (.int (2 : Int32)), .val (.int (oI f)), .val (.ref b35), .unset, .unset] []))
    refine gs (fun t => XS.iconst X45.here hx rfl (hb hby at_134)) ?_
    show Go p e below s QQ room_1.cells room_1.slots (T45.setTop (mkF m 135 #[.val (.long p0), .second, .val (.long p1), .second, .val (.long p2), .second, .val (.long p3), .second, .val (.long p4), .second, .val (.int p5), .val (.ref b29), .val (.int (2 : Int32)), .val (.int (oI f)), .val (.ref b35), .unset, .unset] [(.int (1 : Int32))]))
    refine gs (fun t => XS.goto X45.here hx rfl (pc0 := 135) (pc' := 139) rfl (hb hby at_135) (by decide) (by decide)) ?_
    show Go p e below s QQ room_1.cells room_1.slots (T45.setTop (mkF m 139 #[.val (.long p0), .second, .val (.long p1), .second, .val (.long p2), .second, .val (.long p3), .second, .val (.long p4), .second, .val (.int p5), .val (.ref b29), .val (.int (2 : Int32)), .val (.int (oI f)), .val (.ref b35), .unset, .unset] [(.int (1 : Int32))]))
    refine gs (fun t => XS.istore X45.here hx rfl (hb hby at_139) rfl (l' := #[.val (.long p0), .second, .val (.long p1), .second, .val (.long p2), .second, .val (.long p3), .second, .val (.long p4), .second, .val (.int p5), .val (.ref b29), .val (.int (2 : Int32)), .val (.int (oI f)), .val (.ref b35), .val (.int (1 : Int32)), .unset]) rfl) ?_
    show Go p e below s QQ room_1.cells room_1.slots (T45.setTop (mkF m 141 #[.val (.long p0), .second, .val (.long p1), .second, .val (.long p2), .second, .val (.long p3), .second, .val (.long p4), .second, .val (.int p5), .val (.ref b29), .val (.int (2 : Int32)), .val (.int (oI f)), .val (.ref b35), .val (.int (1 : Int32)), .unset] []))
    refine gs (fun t => XS.iload X45.here hx rfl (hb hby at_141) rfl) ?_
    show Go p e below s QQ room_1.cells room_1.slots (T45.setTop (mkF m 143 #[.val (.long p0), .second, .val (.long p1), .second, .val (.long p2), .second, .val (.long p3), .second, .val (.long p4), .second, .val (.int p5), .val (.ref b29), .val (.int (2 : Int32)), .val (.int (oI f)), .val (.ref b35), .val (.int (1 : Int32)), .unset] [(.int (2 : Int32))]))
    refine gs (fun t => XS.iconst X45.here hx rfl (hb hby at_143)) ?_
    show Go p e below s QQ room_1.cells room_1.slots (T45.setTop (mkF m 144 #[.val (.long p0), .second, .val (.long p1), .second, .val (.long p2), .second, .val (.long p3), .second, .val (.long p4), .second, .val (.int p5), .val (.ref b29), .val (.int (2 : Int32)), .val (.int (oI f)), .val (.ref b35), .val (.int (1 : Int32)), .unset] [(.int (2 : Int32)), (.int (2 : Int32))]))
    refine gs (fun t => XS.icmpNo X45.here hx rfl (hb hby at_144) rfl (flt (by decide : ¬ ((2 : Int32) < (2 : Int32)))).1) ?_
    show Go p e below s QQ room_1.cells room_1.slots (T45.setTop (mkF m 147 #[.val (.long p0), .second, .val (.long p1), .second, .val (.long p2), .second, .val (.long p3), .second, .val (.long p4), .second, .val (.int p5), .val (.ref b29), .val (.int (2 : Int32)), .val (.int (oI f)), .val (.ref b35), .val (.int (1 : Int32)), .unset] []))
    refine gs (fun t => XS.iload X45.here hx rfl (hb hby at_147) rfl) ?_
    show Go p e below s QQ room_1.cells room_1.slots (T45.setTop (mkF m 149 #[.val (.long p0), .second, .val (.long p1), .second, .val (.long p2), .second, .val (.long p3), .second, .val (.long p4), .second, .val (.int p5), .val (.ref b29), .val (.int (2 : Int32)), .val (.int (oI f)), .val (.ref b35), .val (.int (1 : Int32)), .unset] [(.int (2 : Int32))]))
    refine gs (fun t => XS.iconst X45.here hx rfl (hb hby at_149)) ?_
    show Go p e below s QQ room_1.cells room_1.slots (T45.setTop (mkF m 150 #[.val (.long p0), .second, .val (.long p1), .second, .val (.long p2), .second, .val (.long p3), .second, .val (.long p4), .second, .val (.int p5), .val (.ref b29), .val (.int (2 : Int32)), .val (.int (oI f)), .val (.ref b35), .val (.int (1 : Int32)), .unset] [(.int (2 : Int32)), (.int (2 : Int32))]))
    refine gs (fun t => XS.isub X45.here hx rfl (hb hby at_150) rfl) ?_
    show Go p e below s QQ room_1.cells room_1.slots (T45.setTop (mkF m 151 #[.val (.long p0), .second, .val (.long p1), .second, .val (.long p2), .second, .val (.long p3), .second, .val (.long p4), .second, .val (.int p5), .val (.ref b29), .val (.int (2 : Int32)), .val (.int (oI f)), .val (.ref b35), .val (.int (1 : Int32)), .unset] [(.int (0 : Int32))]))
    refine gs (fun t => XS.istore X45.here hx rfl (hb hby at_151) rfl (l' := #[.val (.long p0), .second, .val (.long p1), .second, .val (.long p2), .second, .val (.long p3), .second, .val (.long p4), .second, .val (.int p5), .val (.ref b29), .val (.int (2 : Int32)), .val (.int (oI f)), .val (.ref b35), .val (.int (1 : Int32)), .val (.int (0 : Int32))]) rfl) ?_
    show Go p e below s QQ room_1.cells room_1.slots (T45.setTop (mkF m 153 #[.val (.long p0), .second, .val (.long p1), .second, .val (.long p2), .second, .val (.long p3), .second, .val (.long p4), .second, .val (.int p5), .val (.ref b29), .val (.int (2 : Int32)), .val (.int (oI f)), .val (.ref b35), .val (.int (1 : Int32)), .val (.int (0 : Int32))] []))
    refine gs (fun t => XS.iload X45.here hx rfl (hb hby at_153) rfl) ?_
    show Go p e below s QQ room_1.cells room_1.slots (T45.setTop (mkF m 155 #[.val (.long p0), .second, .val (.long p1), .second, .val (.long p2), .second, .val (.long p3), .second, .val (.long p4), .second, .val (.int p5), .val (.ref b29), .val (.int (2 : Int32)), .val (.int (oI f)), .val (.ref b35), .val (.int (1 : Int32)), .val (.int (0 : Int32))] [(.int (1 : Int32))]))
    refine gs (fun t => XS.ifNo X45.here hx rfl (hb hby at_155) rfl ((if0 _ _).trans (feq (by decide : ¬ ((1 : Int32) = (0 : Int32)))).1)) ?_
    show Go p e below s QQ room_1.cells room_1.slots (T45.setTop (mkF m 158 #[.val (.long p0), .second, .val (.long p1), .second, .val (.long p2), .second, .val (.long p3), .second, .val (.long p4), .second, .val (.int p5), .val (.ref b29), .val (.int (2 : Int32)), .val (.int (oI f)), .val (.ref b35), .val (.int (1 : Int32)), .val (.int (0 : Int32))] []))
    refine gs (fun t => XS.aload X45.here hx rfl (hb hby at_158) rfl rfl) ?_
    show Go p e below s QQ room_1.cells room_1.slots (T45.setTop (mkF m 160 #[.val (.long p0), .second, .val (.long p1), .second, .val (.long p2), .second, .val (.long p3), .second, .val (.long p4), .second, .val (.int p5), .val (.ref b29), .val (.int (2 : Int32)), .val (.int (oI f)), .val (.ref b35), .val (.int (1 : Int32)), .val (.int (0 : Int32))] [(.ref b35)]))
    refine gs (fun t => XS.iload X45.here hx rfl (hb hby at_160) rfl) ?_
    show Go p e below s QQ room_1.cells room_1.slots (T45.setTop (mkF m 162 #[.val (.long p0), .second, .val (.long p1), .second, .val (.long p2), .second, .val (.long p3), .second, .val (.long p4), .second, .val (.int p5), .val (.ref b29), .val (.int (2 : Int32)), .val (.int (oI f)), .val (.ref b35), .val (.int (1 : Int32)), .val (.int (0 : Int32))] [(.int (0 : Int32)), (.ref b35)]))
    refine gs (fun t => XS.iload X45.here hx rfl (hb hby at_162) rfl) ?_
    show Go p e below s QQ room_1.cells room_1.slots (T45.setTop (mkF m 164 #[.val (.long p0), .second, .val (.long p1), .second, .val (.long p2), .second, .val (.long p3), .second, .val (.long p4), .second, .val (.int p5), .val (.ref b29), .val (.int (2 : Int32)), .val (.int (oI f)), .val (.ref b35), .val (.int (1 : Int32)), .val (.int (0 : Int32))] [(.int (oI f)), (.int (0 : Int32)), (.ref b35)]))
    show Go p e below s QQ room_1.cells room_1.slots (T45.setTop (mkF m 164 #[.val (.long p0), .second, .val (.long p1), .second, .val (.long p2), .second, .val (.long p3), .second, .val (.long p4), .second, .val (.int p5), .val (.ref b29), .val (.int (2 : Int32)), .val (.int (oI f)), .val (.ref b35), .val (.int (1 : Int32)), .val (.int (0 : Int32))] [(.int (oI f)), (.int (oI 0)), (.ref b35)]))
    obtain ⟨cq46, kq46, q46a, q46b, q46c⟩ := isOf hZ e45 Ex_b35
    obtain ⟨_, _, ⟨T46, L46, k46, n46⟩, -, X46, ⟨Lc46, hQ46, l46, y46, z46⟩, st46⟩ := X45.virtualBack hx (y := (⟨"com/example/interval/interval/service/SlotTable", "get", "(II)J"⟩ : MethodName)) (z := (⟨"com/example/interval/interval/service/SlotTable", "get", "(II)J"⟩ : MethodName)) hown (mvT hZ (hw _ (List.mem_of_getElem? (i := 41) rfl))) (mvT hZ (hw _ (List.mem_of_getElem? (i := 42) rfl))) (notFace_of_selects (args := #[]) (mvT hZ (hw _ (List.mem_of_getElem? (i := 44) rfl)))) (mvT hZ (hw _ (List.mem_of_getElem? (i := 44) rfl))) (mvT hZ (hw _ (List.mem_of_getElem? (i := 43) rfl))) (by decide) (backOf (W := 0) (rm8 l Z a0 hw [] b35 0 f pg pa (updv (fun _ => .null) 0 (.ref pa)) (own_add (own_add (fun _ => .long 0) 0 p0 p1 p2 p3 p4) (0 + 1) p1 p2 p3 p4 p0) (own_sel p0 p1 p2 p3 p4 f) T44.heap n0 ZZ Fp V_pg rfl V_pa (by decide) (by omega) ((own_addne _ (0 + 1) _ _ _ _ _ (by omega)).trans (own_addeq _ 0 _ _ _ _ _ hf5))) hZ (hw _ (List.mem_of_getElem? (i := 45) rfl)) (hw _ (List.mem_of_getElem? (i := 4) rfl)) (by decide) (by decide)) q46a q46c (g := (mkF m 164 #[.val (.long p0), .second, .val (.long p1), .second, .val (.long p2), .second, .val (.long p3), .second, .val (.long p4), .second, .val (.int p5), .val (.ref b29), .val (.int (2 : Int32)), .val (.int (oI f)), .val (.ref b35), .val (.int (1 : Int32)), .val (.int (0 : Int32))] [(.int (oI f)), (.int (oI 0)), (.ref b35)])) rfl (by rw [hml]; rfl) (Steps.refl _) (argsL := [(.int (oI 0)), (.int (oI f))]) (rest := []) (lenOf pd_5 rfl) rfl (by show 2 * 0 + _ ≤ _; exact Nat.le_of_eq rfl) (hb hby at_164) (fun _ _ => ⟨rfl, e45, (by decide : 4 + 0 ≤ _), (by decide : 48 + 0 ≤ _)⟩)
    dsimp only [Pt.U, Pt.locs, Pt.cells, Pt.slots] at X46 l46 y46 z46 st46 hQ46
    subst l46 y46 z46
    obtain ⟨rfl, N46q, e46⟩ := hQ46
    replace N0 := Fr.app N0 N46q
    refine gt st46 ?_
    show Go p e below s QQ room_1.cells room_1.slots (T46.setTop (mkF m 167 #[.val (.long p0), .second, .val (.long p1), .second, .val (.long p2), .second, .val (.long p3), .second, .val (.long p4), .second, .val (.int p5), .val (.ref b29), .val (.int (2 : Int32)), .val (.int (oI f)), .val (.ref b35), .val (.int (1 : Int32)), .val (.int (0 : Int32))] [(.long (own_sel p0 p1 p2 p3 p4 f))]))
    refine gs (fun t => XS.aload X46.here hx rfl (hb hby at_167) rfl rfl) ?_
    show Go p e below s QQ room_1.cells room_1.slots (T46.setTop (mkF m 169 #[.val (.long p0), .second, .val (.long p1), .second, .val (.long p2), .second, .val (.long p3), .second, .val (.long p4), .second, .val (.int p5), .val (.ref b29), .val (.int (2 : Int32)), .val (.int (oI f)), .val (.ref b35), .val (.int (1 : Int32)), .val (.int (0 : Int32))] [(.ref b29), (.long (own_sel p0 p1 p2 p3 p4 f))]))
    refine gs (fun t => XS.iload X46.here hx rfl (hb hby at_169) rfl) ?_
    show Go p e below s QQ room_1.cells room_1.slots (T46.setTop (mkF m 171 #[.val (.long p0), .second, .val (.long p1), .second, .val (.long p2), .second, .val (.long p3), .second, .val (.long p4), .second, .val (.int p5), .val (.ref b29), .val (.int (2 : Int32)), .val (.int (oI f)), .val (.ref b35), .val (.int (1 : Int32)), .val (.int (0 : Int32))] [(.int (0 : Int32)), (.ref b29), (.long (own_sel p0 p1 p2 p3 p4 f))]))
    refine gs (fun t => XS.iload X46.here hx rfl (hb hby at_171) rfl) ?_
    show Go p e below s QQ room_1.cells room_1.slots (T46.setTop (mkF m 173 #[.val (.long p0), .second, .val (.long p1), .second, .val (.long p2), .second, .val (.long p3), .second, .val (.long p4), .second, .val (.int p5), .val (.ref b29), .val (.int (2 : Int32)), .val (.int (oI f)), .val (.ref b35), .val (.int (1 : Int32)), .val (.int (0 : Int32))] [(.int (oI f)), (.int (0 : Int32)), (.ref b29), (.long (own_sel p0 p1 p2 p3 p4 f))]))
    refine gs (fun t => XS.iadd X46.here hx rfl (hb hby at_173) rfl) ?_
    show Go p e below s QQ room_1.cells room_1.slots (T46.setTop (mkF m 174 #[.val (.long p0), .second, .val (.long p1), .second, .val (.long p2), .second, .val (.long p3), .second, .val (.long p4), .second, .val (.int p5), .val (.ref b29), .val (.int (2 : Int32)), .val (.int (oI f)), .val (.ref b35), .val (.int (1 : Int32)), .val (.int (0 : Int32))] [(.int ((0 : Int32) + (oI f))), (.ref b29), (.long (own_sel p0 p1 p2 p3 p4 f))]))
    refine gs (fun t => XS.iconst X46.here hx rfl (hb hby at_174)) ?_
    show Go p e below s QQ room_1.cells room_1.slots (T46.setTop (mkF m 175 #[.val (.long p0), .second, .val (.long p1), .second, .val (.long p2), .second, .val (.long p3), .second, .val (.long p4), .second, .val (.int p5), .val (.ref b29), .val (.int (2 : Int32)), .val (.int (oI f)), .val (.ref b35), .val (.int (1 : Int32)), .val (.int (0 : Int32))] [(.int (5 : Int32)), (.int ((0 : Int32) + (oI f))), (.ref b29), (.long (own_sel p0 p1 p2 p3 p4 f))]))
    refine gs (fun t => iremM X46 hx (g := (mkF m 175 #[.val (.long p0), .second, .val (.long p1), .second, .val (.long p2), .second, .val (.long p3), .second, .val (.long p4), .second, .val (.int p5), .val (.ref b29), .val (.int (2 : Int32)), .val (.int (oI f)), .val (.ref b35), .val (.int (1 : Int32)), .val (.int (0 : Int32))] [(.int (5 : Int32)), (.int ((0 : Int32) + (oI f))), (.ref b29), (.long (own_sel p0 p1 p2 p3 p4 f))])) rfl (hb hby at_175) rfl (by decide)) ?_
    show Go p e below s QQ room_1.cells room_1.slots (T46.setTop (mkF m 176 #[.val (.long p0), .second, .val (.long p1), .second, .val (.long p2), .second, .val (.long p3), .second, .val (.long p4), .second, .val (.int p5), .val (.ref b29), .val (.int (2 : Int32)), .val (.int (oI f)), .val (.ref b35), .val (.int (1 : Int32)), .val (.int (0 : Int32))] [(.int (((0 : Int32) + (oI f)) % (5 : Int32))), (.ref b29), (.long (own_sel p0 p1 p2 p3 p4 f))]))
    rw [show (((0 : Int32) + (oI f)) % (5 : Int32)) = (oI ((0 + f) % 5)) from own_mod5 (r := 0) (by decide) hf5 (by decide)]
    show Go p e below s QQ room_1.cells room_1.slots (T46.setTop (mkF m 176 #[.val (.long p0), .second, .val (.long p1), .second, .val (.long p2), .second, .val (.long p3), .second, .val (.long p4), .second, .val (.int p5), .val (.ref b29), .val (.int (2 : Int32)), .val (.int (oI f)), .val (.ref b35), .val (.int (1 : Int32)), .val (.int (0 : Int32))] [(.int (oI ((0 + f) % 5))), (.ref b29), (.long (own_sel p0 p1 p2 p3 p4 f))]))
    refine gs (fun t => ldJf X46 hx hZ e46 V_b29 (j := (oI ((0 + f) % 5))) (v := (.long (own_sel p0 p1 p2 p3 p4 ((0 + f) % 5)))) (own_oin (Nat.mod_lt _ (by decide)) (by decide)) (by rw [oI_c (by omega)]) (g := (mkF m 176 #[.val (.long p0), .second, .val (.long p1), .second, .val (.long p2), .second, .val (.long p3), .second, .val (.long p4), .second, .val (.int p5), .val (.ref b29), .val (.int (2 : Int32)), .val (.int (oI f)), .val (.ref b35), .val (.int (1 : Int32)), .val (.int (0 : Int32))] [(.int (oI ((0 + f) % 5))), (.ref b29), (.long (own_sel p0 p1 p2 p3 p4 f))])) rfl rfl (hb hby at_176) t) ?_
    show Go p e below s QQ room_1.cells room_1.slots (T46.setTop (mkF m 177 #[.val (.long p0), .second, .val (.long p1), .second, .val (.long p2), .second, .val (.long p3), .second, .val (.long p4), .second, .val (.int p5), .val (.ref b29), .val (.int (2 : Int32)), .val (.int (oI f)), .val (.ref b35), .val (.int (1 : Int32)), .val (.int (0 : Int32))] [(.long (own_sel p0 p1 p2 p3 p4 ((0 + f) % 5))), (.long (own_sel p0 p1 p2 p3 p4 f))]))
    refine gs (fun t => XS.lcmp X46.here hx rfl (hb hby at_177) rfl) ?_
    show Go p e below s QQ room_1.cells room_1.slots (T46.setTop (mkF m 178 #[.val (.long p0), .second, .val (.long p1), .second, .val (.long p2), .second, .val (.long p3), .second, .val (.long p4), .second, .val (.int p5), .val (.ref b29), .val (.int (2 : Int32)), .val (.int (oI f)), .val (.ref b35), .val (.int (1 : Int32)), .val (.int (0 : Int32))] [(.int (lcmpW (own_sel p0 p1 p2 p3 p4 f) (own_sel p0 p1 p2 p3 p4 ((0 + f) % 5))))]))
    refine gs (fun t => XS.ifNo X46.here hx rfl (hb hby at_178) rfl ((if0 _ _).trans (teq ((lw_eq _ _).mpr (by rcases own_5 hf5 with rfl | rfl | rfl | rfl | rfl <;> rfl) : (lcmpW (own_sel p0 p1 p2 p3 p4 f) (own_sel p0 p1 p2 p3 p4 ((0 + f) % 5))) = (0 : Int32))).2)) ?_
    show Go p e below s QQ room_1.cells room_1.slots (T46.setTop (mkF m 181 #[.val (.long p0), .second, .val (.long p1), .second, .val (.long p2), .second, .val (.long p3), .second, .val (.long p4), .second, .val (.int p5), .val (.ref b29), .val (.int (2 : Int32)), .val (.int (oI f)), .val (.ref b35), .val (.int (1 : Int32)), .val (.int (0 : Int32))] []))
    refine gs (fun t => XS.iconst X46.here hx rfl (hb hby at_181)) ?_
    show Go p e below s QQ room_1.cells room_1.slots (T46.setTop (mkF m 182 #[.val (.long p0), .second, .val (.long p1), .second, .val (.long p2), .second, .val (.long p3), .second, .val (.long p4), .second, .val (.int p5), .val (.ref b29), .val (.int (2 : Int32)), .val (.int (oI f)), .val (.ref b35), .val (.int (1 : Int32)), .val (.int (0 : Int32))] [(.int (1 : Int32))]))
    refine gs (fun t => XS.goto X46.here hx rfl (pc0 := 182) (pc' := 186) rfl (hb hby at_182) (by decide) (by decide)) ?_
    show Go p e below s QQ room_1.cells room_1.slots (T46.setTop (mkF m 186 #[.val (.long p0), .second, .val (.long p1), .second, .val (.long p2), .second, .val (.long p3), .second, .val (.long p4), .second, .val (.int p5), .val (.ref b29), .val (.int (2 : Int32)), .val (.int (oI f)), .val (.ref b35), .val (.int (1 : Int32)), .val (.int (0 : Int32))] [(.int (1 : Int32))]))
    refine gs (fun t => XS.istore X46.here hx rfl (hb hby at_186) rfl (l' := #[.val (.long p0), .second, .val (.long p1), .second, .val (.long p2), .second, .val (.long p3), .second, .val (.long p4), .second, .val (.int p5), .val (.ref b29), .val (.int (2 : Int32)), .val (.int (oI f)), .val (.ref b35), .val (.int (1 : Int32)), .val (.int (0 : Int32))]) rfl) ?_
    show Go p e below s QQ room_1.cells room_1.slots (T46.setTop (mkF m 188 #[.val (.long p0), .second, .val (.long p1), .second, .val (.long p2), .second, .val (.long p3), .second, .val (.long p4), .second, .val (.int p5), .val (.ref b29), .val (.int (2 : Int32)), .val (.int (oI f)), .val (.ref b35), .val (.int (1 : Int32)), .val (.int (0 : Int32))] []))
    refine gs (fun t => XS.aload X46.here hx rfl (hb hby at_188) rfl rfl) ?_
    show Go p e below s QQ room_1.cells room_1.slots (T46.setTop (mkF m 190 #[.val (.long p0), .second, .val (.long p1), .second, .val (.long p2), .second, .val (.long p3), .second, .val (.long p4), .second, .val (.int p5), .val (.ref b29), .val (.int (2 : Int32)), .val (.int (oI f)), .val (.ref b35), .val (.int (1 : Int32)), .val (.int (0 : Int32))] [(.ref b35)]))
    refine gs (fun t => XS.lload X46.here hx rfl (hb hby at_190) rfl) ?_
    show Go p e below s QQ room_1.cells room_1.slots (T46.setTop (mkF m 192 #[.val (.long p0), .second, .val (.long p1), .second, .val (.long p2), .second, .val (.long p3), .second, .val (.long p4), .second, .val (.int p5), .val (.ref b29), .val (.int (2 : Int32)), .val (.int (oI f)), .val (.ref b35), .val (.int (1 : Int32)), .val (.int (0 : Int32))] [(.long p4), (.ref b35)]))
    refine gs (fun t => XS.lload X46.here hx rfl (hb hby at_192) rfl) ?_
    show Go p e below s QQ room_1.cells room_1.slots (T46.setTop (mkF m 194 #[.val (.long p0), .second, .val (.long p1), .second, .val (.long p2), .second, .val (.long p3), .second, .val (.long p4), .second, .val (.int p5), .val (.ref b29), .val (.int (2 : Int32)), .val (.int (oI f)), .val (.ref b35), .val (.int (1 : Int32)), .val (.int (0 : Int32))] [(.long p3), (.long p4), (.ref b35)]))
    refine gs (fun t => XS.lload X46.here hx rfl (hb hby at_194) rfl) ?_
    show Go p e below s QQ room_1.cells room_1.slots (T46.setTop (mkF m 196 #[.val (.long p0), .second, .val (.long p1), .second, .val (.long p2), .second, .val (.long p3), .second, .val (.long p4), .second, .val (.int p5), .val (.ref b29), .val (.int (2 : Int32)), .val (.int (oI f)), .val (.ref b35), .val (.int (1 : Int32)), .val (.int (0 : Int32))] [(.long p2), (.long p3), (.long p4), (.ref b35)]))
    refine gs (fun t => XS.lloadN X46.here hx rfl (hb hby at_196) rfl) ?_
    show Go p e below s QQ room_1.cells room_1.slots (T46.setTop (mkF m 197 #[.val (.long p0), .second, .val (.long p1), .second, .val (.long p2), .second, .val (.long p3), .second, .val (.long p4), .second, .val (.int p5), .val (.ref b29), .val (.int (2 : Int32)), .val (.int (oI f)), .val (.ref b35), .val (.int (1 : Int32)), .val (.int (0 : Int32))] [(.long p1), (.long p2), (.long p3), (.long p4), (.ref b35)]))
    refine gs (fun t => XS.lloadN X46.here hx rfl (hb hby at_197) rfl) ?_
    show Go p e below s QQ room_1.cells room_1.slots (T46.setTop (mkF m 198 #[.val (.long p0), .second, .val (.long p1), .second, .val (.long p2), .second, .val (.long p3), .second, .val (.long p4), .second, .val (.int p5), .val (.ref b29), .val (.int (2 : Int32)), .val (.int (oI f)), .val (.ref b35), .val (.int (1 : Int32)), .val (.int (0 : Int32))] [(.long p0), (.long p1), (.long p2), (.long p3), (.long p4), (.ref b35)]))
    obtain ⟨cq47, kq47, q47a, q47b, q47c⟩ := isOf hZ e46 Ex_b35
    obtain ⟨_, _, ⟨T47, L47, k47, n47⟩, -, X47, ⟨Lc47, hQ47, l47, y47, z47⟩, st47⟩ := X46.virtualBack hx (y := (⟨"com/example/interval/interval/service/SlotTable", "add", "(JJJJJ)I"⟩ : MethodName)) (z := (⟨"com/example/interval/interval/service/SlotTable", "add", "(JJJJJ)I"⟩ : MethodName)) hown (mvT hZ (hw _ (List.mem_of_getElem? (i := 16) rfl))) (mvT hZ (hw _ (List.mem_of_getElem? (i := 17) rfl))) (notFace_of_selects (args := #[]) (mvT hZ (hw _ (List.mem_of_getElem? (i := 19) rfl)))) (mvT hZ (hw _ (List.mem_of_getElem? (i := 19) rfl))) (mvT hZ (hw _ (List.mem_of_getElem? (i := 18) rfl))) (by decide) (backOf (W := 0) (rm3 l Z a0 hw [] b35 p4 p3 p2 p1 p0 (0 + 1) pg pa (updv (fun _ => .null) 0 (.ref pa)) (own_add (own_add (fun _ => .long 0) 0 p0 p1 p2 p3 p4) (0 + 1) p1 p2 p3 p4 p0) T44.heap n0 ZZ Fp Fs Ex_b35 V_pg rfl V_pa ge_b35 ge_pa ne_b35_pg ne_b35_pa ngp (by decide)) hZ (hw _ (List.mem_of_getElem? (i := 20) rfl)) (hw _ (List.mem_of_getElem? (i := 4) rfl)) (by decide) (by decide)) q47a q47c (g := (mkF m 198 #[.val (.long p0), .second, .val (.long p1), .second, .val (.long p2), .second, .val (.long p3), .second, .val (.long p4), .second, .val (.int p5), .val (.ref b29), .val (.int (2 : Int32)), .val (.int (oI f)), .val (.ref b35), .val (.int (1 : Int32)), .val (.int (0 : Int32))] [(.long p0), (.long p1), (.long p2), (.long p3), (.long p4), (.ref b35)])) rfl (by rw [hml]; rfl) (Steps.refl _) (argsL := [(.long p4), (.long p3), (.long p2), (.long p1), (.long p0)]) (rest := []) (lenOf pd_3 rfl) rfl (by show 2 * 0 + _ ≤ _; exact Nat.le_of_eq rfl) (hb hby at_198) (fun _ _ => ⟨rfl, e46, (by decide : 4 + 0 ≤ _), (by decide : 48 + 0 ≤ _)⟩)
    dsimp only [Pt.U, Pt.locs, Pt.cells, Pt.slots] at X47 l47 y47 z47 st47 hQ47
    subst l47 y47 z47
    obtain ⟨rfl, N47q, K47, Fpn47, Fsn47, Vn47⟩ := hQ47
    replace N0 := Fr.app N0 N47q
    refine gt st47 ?_
    show Go p e below s QQ room_1.cells room_1.slots (T47.setTop (mkF m 201 #[.val (.long p0), .second, .val (.long p1), .second, .val (.long p2), .second, .val (.long p3), .second, .val (.long p4), .second, .val (.int p5), .val (.ref b29), .val (.int (2 : Int32)), .val (.int (oI f)), .val (.ref b35), .val (.int (1 : Int32)), .val (.int (0 : Int32))] [(.int (oI (0 + 1)))]))
    replace V_b29 := V_b29.keep K47 (ninS ne_b29_b35 (ninS ne_b29_pa nin0))
    replace Ex_b35 := Ex_b35.keep K47
    replace V_pg := V_pg.keep K47 (ninS (Ne.symm ne_b35_pg) (ninS ngp nin0))
    replace ZZ := Nat.le_trans ZZ K47.1
    have Fp := Fpn47
    have Fs := Fsn47
    have V_pa := Vn47
    refine gs (fun t => XS.istore X47.here hx rfl (hb hby at_201) rfl (l' := #[.val (.long p0), .second, .val (.long p1), .second, .val (.long p2), .second, .val (.long p3), .second, .val (.long p4), .second, .val (.int p5), .val (.ref b29), .val (.int (2 : Int32)), .val (.int (oI f)), .val (.ref b35), .val (.int (1 : Int32)), .val (.int (oI (0 + 1)))]) rfl) ?_
    show Go p e below s QQ room_1.cells room_1.slots (T47.setTop (mkF m 203 #[.val (.long p0), .second, .val (.long p1), .second, .val (.long p2), .second, .val (.long p3), .second, .val (.long p4), .second, .val (.int p5), .val (.ref b29), .val (.int (2 : Int32)), .val (.int (oI f)), .val (.ref b35), .val (.int (1 : Int32)), .val (.int (oI (0 + 1)))] []))
    refine gs (fun t => XS.iload X47.here hx rfl (hb hby at_203) rfl) ?_
    show Go p e below s QQ room_1.cells room_1.slots (T47.setTop (mkF m 205 #[.val (.long p0), .second, .val (.long p1), .second, .val (.long p2), .second, .val (.long p3), .second, .val (.long p4), .second, .val (.int p5), .val (.ref b29), .val (.int (2 : Int32)), .val (.int (oI f)), .val (.ref b35), .val (.int (1 : Int32)), .val (.int (oI (0 + 1)))] [(.int (1 : Int32))]))
    refine gs (fun t => XS.ifNo X47.here hx rfl (hb hby at_205) rfl ((if0 _ _).trans (feq (by decide : ¬ ((1 : Int32) = (0 : Int32)))).1)) ?_
    show Go p e below s QQ room_1.cells room_1.slots (T47.setTop (mkF m 208 #[.val (.long p0), .second, .val (.long p1), .second, .val (.long p2), .second, .val (.long p3), .second, .val (.long p4), .second, .val (.int p5), .val (.ref b29), .val (.int (2 : Int32)), .val (.int (oI f)), .val (.ref b35), .val (.int (1 : Int32)), .val (.int (oI (0 + 1)))] []))
    refine gs (fun t => XS.iload X47.here hx rfl (hb hby at_208) rfl) ?_
    show Go p e below s QQ room_1.cells room_1.slots (T47.setTop (mkF m 210 #[.val (.long p0), .second, .val (.long p1), .second, .val (.long p2), .second, .val (.long p3), .second, .val (.long p4), .second, .val (.int p5), .val (.ref b29), .val (.int (2 : Int32)), .val (.int (oI f)), .val (.ref b35), .val (.int (1 : Int32)), .val (.int (oI (0 + 1)))] [(.int (oI (0 + 1)))]))
    refine gs (fun t => XS.iload X47.here hx rfl (hb hby at_210) rfl) ?_
    show Go p e below s QQ room_1.cells room_1.slots (T47.setTop (mkF m 212 #[.val (.long p0), .second, .val (.long p1), .second, .val (.long p2), .second, .val (.long p3), .second, .val (.long p4), .second, .val (.int p5), .val (.ref b29), .val (.int (2 : Int32)), .val (.int (oI f)), .val (.ref b35), .val (.int (1 : Int32)), .val (.int (oI (0 + 1)))] [(.int (2 : Int32)), (.int (oI (0 + 1)))]))
    refine gs (fun t => XS.iconst X47.here hx rfl (hb hby at_212)) ?_
    show Go p e below s QQ room_1.cells room_1.slots (T47.setTop (mkF m 213 #[.val (.long p0), .second, .val (.long p1), .second, .val (.long p2), .second, .val (.long p3), .second, .val (.long p4), .second, .val (.int p5), .val (.ref b29), .val (.int (2 : Int32)), .val (.int (oI f)), .val (.ref b35), .val (.int (1 : Int32)), .val (.int (oI (0 + 1)))] [(.int (1 : Int32)), (.int (2 : Int32)), (.int (oI (0 + 1)))]))
    refine gs (fun t => XS.isub X47.here hx rfl (hb hby at_213) rfl) ?_
    show Go p e below s QQ room_1.cells room_1.slots (T47.setTop (mkF m 214 #[.val (.long p0), .second, .val (.long p1), .second, .val (.long p2), .second, .val (.long p3), .second, .val (.long p4), .second, .val (.int p5), .val (.ref b29), .val (.int (2 : Int32)), .val (.int (oI f)), .val (.ref b35), .val (.int (1 : Int32)), .val (.int (oI (0 + 1)))] [(.int (1 : Int32)), (.int (oI (0 + 1)))]))
    refine gs (fun t => XS.icmpNo X47.here hx rfl (hb hby at_214) rfl (teq (by decide : (oI (0 + 1)) = (1 : Int32))).2) ?_
    show Go p e below s QQ room_1.cells room_1.slots (T47.setTop (mkF m 217 #[.val (.long p0), .second, .val (.long p1), .second, .val (.long p2), .second, .val (.long p3), .second, .val (.long p4), .second, .val (.int p5), .val (.ref b29), .val (.int (2 : Int32)), .val (.int (oI f)), .val (.ref b35), .val (.int (1 : Int32)), .val (.int (oI (0 + 1)))] []))
    refine gs (fun t => XS.aload X47.here hx rfl (hb hby at_217) rfl rfl) ?_
    show Go p e below s QQ room_1.cells room_1.slots (T47.setTop (mkF m 219 #[.val (.long p0), .second, .val (.long p1), .second, .val (.long p2), .second, .val (.long p3), .second, .val (.long p4), .second, .val (.int p5), .val (.ref b29), .val (.int (2 : Int32)), .val (.int (oI f)), .val (.ref b35), .val (.int (1 : Int32)), .val (.int (oI (0 + 1)))] [(.ref b35)]))
    refine gs (fun t => XS.iload X47.here hx rfl (hb hby at_219) rfl) ?_
    show Go p e below s QQ room_1.cells room_1.slots (T47.setTop (mkF m 221 #[.val (.long p0), .second, .val (.long p1), .second, .val (.long p2), .second, .val (.long p3), .second, .val (.long p4), .second, .val (.int p5), .val (.ref b29), .val (.int (2 : Int32)), .val (.int (oI f)), .val (.ref b35), .val (.int (1 : Int32)), .val (.int (oI (0 + 1)))] [(.int (oI (0 + 1))), (.ref b35)]))
    refine gs (fun t => XS.iload X47.here hx rfl (hb hby at_221) rfl) ?_
    show Go p e below s QQ room_1.cells room_1.slots (T47.setTop (mkF m 223 #[.val (.long p0), .second, .val (.long p1), .second, .val (.long p2), .second, .val (.long p3), .second, .val (.long p4), .second, .val (.int p5), .val (.ref b29), .val (.int (2 : Int32)), .val (.int (oI f)), .val (.ref b35), .val (.int (1 : Int32)), .val (.int (oI (0 + 1)))] [(.int (oI f)), (.int (oI (0 + 1))), (.ref b35)]))
    obtain ⟨cq48, kq48, q48a, q48b, q48c⟩ := isOf hZ rfl Ex_b35
    obtain ⟨_, _, ⟨T48, L48, k48, n48⟩, -, X48, ⟨Lc48, hQ48, l48, y48, z48⟩, st48⟩ := X47.virtualBack hx (y := (⟨"com/example/interval/interval/service/SlotTable", "get", "(II)J"⟩ : MethodName)) (z := (⟨"com/example/interval/interval/service/SlotTable", "get", "(II)J"⟩ : MethodName)) hown (mvT hZ (hw _ (List.mem_of_getElem? (i := 41) rfl))) (mvT hZ (hw _ (List.mem_of_getElem? (i := 42) rfl))) (notFace_of_selects (args := #[]) (mvT hZ (hw _ (List.mem_of_getElem? (i := 44) rfl)))) (mvT hZ (hw _ (List.mem_of_getElem? (i := 44) rfl))) (mvT hZ (hw _ (List.mem_of_getElem? (i := 43) rfl))) (by decide) (backOf (W := 0) (rm8 l Z a0 hw [] b35 (0 + 1) f pg pa (updv (fun _ => .null) 0 (.ref pa)) (own_add (own_add (own_add (fun _ => .long 0) 0 p0 p1 p2 p3 p4) (0 + 1) p1 p2 p3 p4 p0) (0 + 1) p4 p3 p2 p1 p0) (own_sel p4 p3 p2 p1 p0 f) T47.heap n0 ZZ Fp V_pg rfl V_pa (by decide) (by omega) (own_addeq _ (0 + 1) _ _ _ _ _ hf5)) hZ (hw _ (List.mem_of_getElem? (i := 45) rfl)) (hw _ (List.mem_of_getElem? (i := 4) rfl)) (by decide) (by decide)) q48a q48c (g := (mkF m 223 #[.val (.long p0), .second, .val (.long p1), .second, .val (.long p2), .second, .val (.long p3), .second, .val (.long p4), .second, .val (.int p5), .val (.ref b29), .val (.int (2 : Int32)), .val (.int (oI f)), .val (.ref b35), .val (.int (1 : Int32)), .val (.int (oI (0 + 1)))] [(.int (oI f)), (.int (oI (0 + 1))), (.ref b35)])) rfl (by rw [hml]; rfl) (Steps.refl _) (argsL := [(.int (oI (0 + 1))), (.int (oI f))]) (rest := []) (lenOf pd_5 rfl) rfl (by show 2 * 0 + _ ≤ _; exact Nat.le_of_eq rfl) (hb hby at_223) (fun _ _ => ⟨rfl, rfl, (by decide : 4 + 0 ≤ _), (by decide : 48 + 0 ≤ _)⟩)
    dsimp only [Pt.U, Pt.locs, Pt.cells, Pt.slots] at X48 l48 y48 z48 st48 hQ48
    subst l48 y48 z48
    obtain ⟨rfl, N48q, e48⟩ := hQ48
    replace N0 := Fr.app N0 N48q
    refine gt st48 ?_
    show Go p e below s QQ room_1.cells room_1.slots (T48.setTop (mkF m 226 #[.val (.long p0), .second, .val (.long p1), .second, .val (.long p2), .second, .val (.long p3), .second, .val (.long p4), .second, .val (.int p5), .val (.ref b29), .val (.int (2 : Int32)), .val (.int (oI f)), .val (.ref b35), .val (.int (1 : Int32)), .val (.int (oI (0 + 1)))] [(.long (own_sel p4 p3 p2 p1 p0 f))]))
    refine gs (fun t => XS.aload X48.here hx rfl (hb hby at_226) rfl rfl) ?_
    show Go p e below s QQ room_1.cells room_1.slots (T48.setTop (mkF m 228 #[.val (.long p0), .second, .val (.long p1), .second, .val (.long p2), .second, .val (.long p3), .second, .val (.long p4), .second, .val (.int p5), .val (.ref b29), .val (.int (2 : Int32)), .val (.int (oI f)), .val (.ref b35), .val (.int (1 : Int32)), .val (.int (oI (0 + 1)))] [(.ref b29), (.long (own_sel p4 p3 p2 p1 p0 f))]))
    refine gs (fun t => XS.iconst X48.here hx rfl (hb hby at_228)) ?_
    show Go p e below s QQ room_1.cells room_1.slots (T48.setTop (mkF m 229 #[.val (.long p0), .second, .val (.long p1), .second, .val (.long p2), .second, .val (.long p3), .second, .val (.long p4), .second, .val (.int p5), .val (.ref b29), .val (.int (2 : Int32)), .val (.int (oI f)), .val (.ref b35), .val (.int (1 : Int32)), .val (.int (oI (0 + 1)))] [(.int (4 : Int32)), (.ref b29), (.long (own_sel p4 p3 p2 p1 p0 f))]))
    refine gs (fun t => XS.iload X48.here hx rfl (hb hby at_229) rfl) ?_
    show Go p e below s QQ room_1.cells room_1.slots (T48.setTop (mkF m 231 #[.val (.long p0), .second, .val (.long p1), .second, .val (.long p2), .second, .val (.long p3), .second, .val (.long p4), .second, .val (.int p5), .val (.ref b29), .val (.int (2 : Int32)), .val (.int (oI f)), .val (.ref b35), .val (.int (1 : Int32)), .val (.int (oI (0 + 1)))] [(.int (oI f)), (.int (4 : Int32)), (.ref b29), (.long (own_sel p4 p3 p2 p1 p0 f))]))
    refine gs (fun t => XS.isub X48.here hx rfl (hb hby at_231) rfl) ?_
    show Go p e below s QQ room_1.cells room_1.slots (T48.setTop (mkF m 232 #[.val (.long p0), .second, .val (.long p1), .second, .val (.long p2), .second, .val (.long p3), .second, .val (.long p4), .second, .val (.int p5), .val (.ref b29), .val (.int (2 : Int32)), .val (.int (oI f)), .val (.ref b35), .val (.int (1 : Int32)), .val (.int (oI (0 + 1)))] [(.int ((4 : Int32) - (oI f))), (.ref b29), (.long (own_sel p4 p3 p2 p1 p0 f))]))
    rw [show ((4 : Int32) - (oI f)) = (oI (4 - f)) from own_4f hf5]
    show Go p e below s QQ room_1.cells room_1.slots (T48.setTop (mkF m 232 #[.val (.long p0), .second, .val (.long p1), .second, .val (.long p2), .second, .val (.long p3), .second, .val (.long p4), .second, .val (.int p5), .val (.ref b29), .val (.int (2 : Int32)), .val (.int (oI f)), .val (.ref b35), .val (.int (1 : Int32)), .val (.int (oI (0 + 1)))] [(.int (oI (4 - f))), (.ref b29), (.long (own_sel p4 p3 p2 p1 p0 f))]))
    refine gs (fun t => ldJf X48 hx hZ e48 V_b29 (j := (oI (4 - f))) (v := (.long (own_sel p0 p1 p2 p3 p4 (4 - f)))) (own_oin (by omega) (by decide)) (by rw [oI_c (by omega)]) (g := (mkF m 232 #[.val (.long p0), .second, .val (.long p1), .second, .val (.long p2), .second, .val (.long p3), .second, .val (.long p4), .second, .val (.int p5), .val (.ref b29), .val (.int (2 : Int32)), .val (.int (oI f)), .val (.ref b35), .val (.int (1 : Int32)), .val (.int (oI (0 + 1)))] [(.int (oI (4 - f))), (.ref b29), (.long (own_sel p4 p3 p2 p1 p0 f))])) rfl rfl (hb hby at_232) t) ?_
    show Go p e below s QQ room_1.cells room_1.slots (T48.setTop (mkF m 233 #[.val (.long p0), .second, .val (.long p1), .second, .val (.long p2), .second, .val (.long p3), .second, .val (.long p4), .second, .val (.int p5), .val (.ref b29), .val (.int (2 : Int32)), .val (.int (oI f)), .val (.ref b35), .val (.int (1 : Int32)), .val (.int (oI (0 + 1)))] [(.long (own_sel p0 p1 p2 p3 p4 (4 - f))), (.long (own_sel p4 p3 p2 p1 p0 f))]))
    refine gs (fun t => XS.lcmp X48.here hx rfl (hb hby at_233) rfl) ?_
    show Go p e below s QQ room_1.cells room_1.slots (T48.setTop (mkF m 234 #[.val (.long p0), .second, .val (.long p1), .second, .val (.long p2), .second, .val (.long p3), .second, .val (.long p4), .second, .val (.int p5), .val (.ref b29), .val (.int (2 : Int32)), .val (.int (oI f)), .val (.ref b35), .val (.int (1 : Int32)), .val (.int (oI (0 + 1)))] [(.int (lcmpW (own_sel p4 p3 p2 p1 p0 f) (own_sel p0 p1 p2 p3 p4 (4 - f))))]))
    refine gs (fun t => XS.ifNo X48.here hx rfl (hb hby at_234) rfl ((if0 _ _).trans (teq ((lw_eq _ _).mpr (by rcases own_5 hf5 with rfl | rfl | rfl | rfl | rfl <;> rfl) : (lcmpW (own_sel p4 p3 p2 p1 p0 f) (own_sel p0 p1 p2 p3 p4 (4 - f))) = (0 : Int32))).2)) ?_
    show Go p e below s QQ room_1.cells room_1.slots (T48.setTop (mkF m 237 #[.val (.long p0), .second, .val (.long p1), .second, .val (.long p2), .second, .val (.long p3), .second, .val (.long p4), .second, .val (.int p5), .val (.ref b29), .val (.int (2 : Int32)), .val (.int (oI f)), .val (.ref b35), .val (.int (1 : Int32)), .val (.int (oI (0 + 1)))] []))
    refine gs (fun t => XS.iconst X48.here hx rfl (hb hby at_237)) ?_
    show Go p e below s QQ room_1.cells room_1.slots (T48.setTop (mkF m 238 #[.val (.long p0), .second, .val (.long p1), .second, .val (.long p2), .second, .val (.long p3), .second, .val (.long p4), .second, .val (.int p5), .val (.ref b29), .val (.int (2 : Int32)), .val (.int (oI f)), .val (.ref b35), .val (.int (1 : Int32)), .val (.int (oI (0 + 1)))] [(.int (1 : Int32))]))
    refine gs (fun t => XS.goto X48.here hx rfl (pc0 := 238) (pc' := 242) rfl (hb hby at_238) (by decide) (by decide)) ?_
    show Go p e below s QQ room_1.cells room_1.slots (T48.setTop (mkF m 242 #[.val (.long p0), .second, .val (.long p1), .second, .val (.long p2), .second, .val (.long p3), .second, .val (.long p4), .second, .val (.int p5), .val (.ref b29), .val (.int (2 : Int32)), .val (.int (oI f)), .val (.ref b35), .val (.int (1 : Int32)), .val (.int (oI (0 + 1)))] [(.int (1 : Int32))]))
    refine gs (fun t => XS.istore X48.here hx rfl (hb hby at_242) rfl (l' := #[.val (.long p0), .second, .val (.long p1), .second, .val (.long p2), .second, .val (.long p3), .second, .val (.long p4), .second, .val (.int p5), .val (.ref b29), .val (.int (2 : Int32)), .val (.int (oI f)), .val (.ref b35), .val (.int (1 : Int32)), .val (.int (oI (0 + 1)))]) rfl) ?_
    show Go p e below s QQ room_1.cells room_1.slots (T48.setTop (mkF m 244 #[.val (.long p0), .second, .val (.long p1), .second, .val (.long p2), .second, .val (.long p3), .second, .val (.long p4), .second, .val (.int p5), .val (.ref b29), .val (.int (2 : Int32)), .val (.int (oI f)), .val (.ref b35), .val (.int (1 : Int32)), .val (.int (oI (0 + 1)))] []))
    refine gs (fun t => XS.iload X48.here hx rfl (hb hby at_244) rfl) ?_
    show Go p e below s QQ room_1.cells room_1.slots (T48.setTop (mkF m 246 #[.val (.long p0), .second, .val (.long p1), .second, .val (.long p2), .second, .val (.long p3), .second, .val (.long p4), .second, .val (.int p5), .val (.ref b29), .val (.int (2 : Int32)), .val (.int (oI f)), .val (.ref b35), .val (.int (1 : Int32)), .val (.int (oI (0 + 1)))] [(.int (1 : Int32))]))
    exact goB X48 hx Bd.notSynchronized Bd.returns (by simp) (w := (1 : Int32)) (by first | rfl | decide) (hb hby at_246) (by rw [← hQQ, e48]; exact ⟨rfl, N0⟩) (by decide) (by decide)
  · skip
    show Go p e below s QQ room_1.cells room_1.slots (T38.setTop (mkF m 80 #[.val (.long p0), .second, .val (.long p1), .second, .val (.long p2), .second, .val (.long p3), .second, .val (.long p4), .second, .val (.int p5), .val (.ref b29), .val (.int (3 : Int32)), .val (.int (oI f)), .val (.ref b35), .unset, .unset] [(.int (2 : Int32)), (.int (3 : Int32))]))
    refine gs (fun t => XS.icmpNo X38.here hx rfl (hb hby at_80) rfl (flt (by decide : ¬ ((3 : Int32) < (2 : Int32)))).1) ?_
    show Go p e below s QQ room_1.cells room_1.slots (T38.setTop (mkF m 83 #[.val (.long p0), .second, .val (.long p1), .second, .val (.long p2), .second, .val (.long p3), .second, .val (.long p4), .second, .val (.int p5), .val (.ref b29), .val (.int (3 : Int32)), .val (.int (oI f)), .val (.ref b35), .unset, .unset] []))
    refine gs (fun t => XS.aload X38.here hx rfl (hb hby at_83) rfl rfl) ?_
    show Go p e below s QQ room_1.cells room_1.slots (T38.setTop (mkF m 85 #[.val (.long p0), .second, .val (.long p1), .second, .val (.long p2), .second, .val (.long p3), .second, .val (.long p4), .second, .val (.int p5), .val (.ref b29), .val (.int (3 : Int32)), .val (.int (oI f)), .val (.ref b35), .unset, .unset] [(.ref b35)]))
    refine gs (fun t => XS.lloadN X38.here hx rfl (hb hby at_85) rfl) ?_
    show Go p e below s QQ room_1.cells room_1.slots (T38.setTop (mkF m 86 #[.val (.long p0), .second, .val (.long p1), .second, .val (.long p2), .second, .val (.long p3), .second, .val (.long p4), .second, .val (.int p5), .val (.ref b29), .val (.int (3 : Int32)), .val (.int (oI f)), .val (.ref b35), .unset, .unset] [(.long p1), (.ref b35)]))
    refine gs (fun t => XS.lload X38.here hx rfl (hb hby at_86) rfl) ?_
    show Go p e below s QQ room_1.cells room_1.slots (T38.setTop (mkF m 88 #[.val (.long p0), .second, .val (.long p1), .second, .val (.long p2), .second, .val (.long p3), .second, .val (.long p4), .second, .val (.int p5), .val (.ref b29), .val (.int (3 : Int32)), .val (.int (oI f)), .val (.ref b35), .unset, .unset] [(.long p2), (.long p1), (.ref b35)]))
    refine gs (fun t => XS.lload X38.here hx rfl (hb hby at_88) rfl) ?_
    show Go p e below s QQ room_1.cells room_1.slots (T38.setTop (mkF m 90 #[.val (.long p0), .second, .val (.long p1), .second, .val (.long p2), .second, .val (.long p3), .second, .val (.long p4), .second, .val (.int p5), .val (.ref b29), .val (.int (3 : Int32)), .val (.int (oI f)), .val (.ref b35), .unset, .unset] [(.long p3), (.long p2), (.long p1), (.ref b35)]))
    refine gs (fun t => XS.lload X38.here hx rfl (hb hby at_90) rfl) ?_
    show Go p e below s QQ room_1.cells room_1.slots (T38.setTop (mkF m 92 #[.val (.long p0), .second, .val (.long p1), .second, .val (.long p2), .second, .val (.long p3), .second, .val (.long p4), .second, .val (.int p5), .val (.ref b29), .val (.int (3 : Int32)), .val (.int (oI f)), .val (.ref b35), .unset, .unset] [(.long p4), (.long p3), (.long p2), (.long p1), (.ref b35)]))
    refine gs (fun t => XS.lloadN X38.here hx rfl (hb hby at_92) rfl) ?_
    show Go p e below s QQ room_1.cells room_1.slots (T38.setTop (mkF m 93 #[.val (.long p0), .second, .val (.long p1), .second, .val (.long p2), .second, .val (.long p3), .second, .val (.long p4), .second, .val (.int p5), .val (.ref b29), .val (.int (3 : Int32)), .val (.int (oI f)), .val (.ref b35), .unset, .unset] [(.long p0), (.long p4), (.long p3), (.long p2), (.long p1), (.ref b35)]))
    obtain ⟨cq49, kq49, q49a, q49b, q49c⟩ := isOf hZ rfl Ex_b35
    obtain ⟨_, _, ⟨T49, L49, k49, n49⟩, -, X49, ⟨Lc49, hQ49, l49, y49, z49⟩, st49⟩ := X38.virtualBack hx (y := (⟨"com/example/interval/interval/service/SlotTable", "add", "(JJJJJ)I"⟩ : MethodName)) (z := (⟨"com/example/interval/interval/service/SlotTable", "add", "(JJJJJ)I"⟩ : MethodName)) hown (mvT hZ (hw _ (List.mem_of_getElem? (i := 16) rfl))) (mvT hZ (hw _ (List.mem_of_getElem? (i := 17) rfl))) (notFace_of_selects (args := #[]) (mvT hZ (hw _ (List.mem_of_getElem? (i := 19) rfl)))) (mvT hZ (hw _ (List.mem_of_getElem? (i := 19) rfl))) (mvT hZ (hw _ (List.mem_of_getElem? (i := 18) rfl))) (by decide) (backOf (W := 0) (rm3 l Z a0 hw [] b35 p1 p2 p3 p4 p0 (0 + 1) pg pa (updv (fun _ => .null) 0 (.ref pa)) (own_add (fun _ => .long 0) 0 p0 p1 p2 p3 p4) T38.heap n0 ZZ Fp Fs Ex_b35 V_pg rfl V_pa ge_b35 ge_pa ne_b35_pg ne_b35_pa ngp (by decide)) hZ (hw _ (List.mem_of_getElem? (i := 20) rfl)) (hw _ (List.mem_of_getElem? (i := 4) rfl)) (by decide) (by decide)) q49a q49c (g := (mkF m 93 #[.val (.long p0), .second, .val (.long p1), .second, .val (.long p2), .second, .val (.long p3), .second, .val (.long p4), .second, .val (.int p5), .val (.ref b29), .val (.int (3 : Int32)), .val (.int (oI f)), .val (.ref b35), .unset, .unset] [(.long p0), (.long p4), (.long p3), (.long p2), (.long p1), (.ref b35)])) rfl (by rw [hml]; rfl) (Steps.refl _) (argsL := [(.long p1), (.long p2), (.long p3), (.long p4), (.long p0)]) (rest := []) (lenOf pd_3 rfl) rfl (by show 2 * 0 + _ ≤ _; exact Nat.le_of_eq rfl) (hb hby at_93) (fun _ _ => ⟨rfl, rfl, (by decide : 4 + 0 ≤ _), (by decide : 48 + 0 ≤ _)⟩)
    dsimp only [Pt.U, Pt.locs, Pt.cells, Pt.slots] at X49 l49 y49 z49 st49 hQ49
    subst l49 y49 z49
    obtain ⟨rfl, N49q, K49, Fpn49, Fsn49, Vn49⟩ := hQ49
    replace N0 := Fr.app N0 N49q
    refine gt st49 ?_
    show Go p e below s QQ room_1.cells room_1.slots (T49.setTop (mkF m 96 #[.val (.long p0), .second, .val (.long p1), .second, .val (.long p2), .second, .val (.long p3), .second, .val (.long p4), .second, .val (.int p5), .val (.ref b29), .val (.int (3 : Int32)), .val (.int (oI f)), .val (.ref b35), .unset, .unset] [(.int (oI (0 + 1)))]))
    replace V_b29 := V_b29.keep K49 (ninS ne_b29_b35 (ninS ne_b29_pa nin0))
    replace Ex_b35 := Ex_b35.keep K49
    replace V_pg := V_pg.keep K49 (ninS (Ne.symm ne_b35_pg) (ninS ngp nin0))
    replace ZZ := Nat.le_trans ZZ K49.1
    have Fp := Fpn49
    have Fs := Fsn49
    have V_pa := Vn49
    refine gs (fun t => XS.pop X49.here hx rfl (hb hby at_96) rfl rfl) ?_
    show Go p e below s QQ room_1.cells room_1.slots (T49.setTop (mkF m 97 #[.val (.long p0), .second, .val (.long p1), .second, .val (.long p2), .second, .val (.long p3), .second, .val (.long p4), .second, .val (.int p5), .val (.ref b29), .val (.int (3 : Int32)), .val (.int (oI f)), .val (.ref b35), .unset, .unset] []))
    refine gs (fun t => XS.iload X49.here hx rfl (hb hby at_97) rfl) ?_
    show Go p e below s QQ room_1.cells room_1.slots (T49.setTop (mkF m 99 #[.val (.long p0), .second, .val (.long p1), .second, .val (.long p2), .second, .val (.long p3), .second, .val (.long p4), .second, .val (.int p5), .val (.ref b29), .val (.int (3 : Int32)), .val (.int (oI f)), .val (.ref b35), .unset, .unset] [(.int (3 : Int32))]))
    refine gs (fun t => XS.iconst X49.here hx rfl (hb hby at_99)) ?_
    show Go p e below s QQ room_1.cells room_1.slots (T49.setTop (mkF m 100 #[.val (.long p0), .second, .val (.long p1), .second, .val (.long p2), .second, .val (.long p3), .second, .val (.long p4), .second, .val (.int p5), .val (.ref b29), .val (.int (3 : Int32)), .val (.int (oI f)), .val (.ref b35), .unset, .unset] [(.int (3 : Int32)), (.int (3 : Int32))]))
    refine gs (fun t => XS.icmpNo X49.here hx rfl (hb hby at_100) rfl (flt (by decide : ¬ ((3 : Int32) < (3 : Int32)))).1) ?_
    show Go p e below s QQ room_1.cells room_1.slots (T49.setTop (mkF m 103 #[.val (.long p0), .second, .val (.long p1), .second, .val (.long p2), .second, .val (.long p3), .second, .val (.long p4), .second, .val (.int p5), .val (.ref b29), .val (.int (3 : Int32)), .val (.int (oI f)), .val (.ref b35), .unset, .unset] []))
    refine gs (fun t => XS.aload X49.here hx rfl (hb hby at_103) rfl rfl) ?_
    show Go p e below s QQ room_1.cells room_1.slots (T49.setTop (mkF m 105 #[.val (.long p0), .second, .val (.long p1), .second, .val (.long p2), .second, .val (.long p3), .second, .val (.long p4), .second, .val (.int p5), .val (.ref b29), .val (.int (3 : Int32)), .val (.int (oI f)), .val (.ref b35), .unset, .unset] [(.ref b35)]))
    refine gs (fun t => XS.lload X49.here hx rfl (hb hby at_105) rfl) ?_
    show Go p e below s QQ room_1.cells room_1.slots (T49.setTop (mkF m 107 #[.val (.long p0), .second, .val (.long p1), .second, .val (.long p2), .second, .val (.long p3), .second, .val (.long p4), .second, .val (.int p5), .val (.ref b29), .val (.int (3 : Int32)), .val (.int (oI f)), .val (.ref b35), .unset, .unset] [(.long p2), (.ref b35)]))
    refine gs (fun t => XS.lload X49.here hx rfl (hb hby at_107) rfl) ?_
    show Go p e below s QQ room_1.cells room_1.slots (T49.setTop (mkF m 109 #[.val (.long p0), .second, .val (.long p1), .second, .val (.long p2), .second, .val (.long p3), .second, .val (.long p4), .second, .val (.int p5), .val (.ref b29), .val (.int (3 : Int32)), .val (.int (oI f)), .val (.ref b35), .unset, .unset] [(.long p3), (.long p2), (.ref b35)]))
    refine gs (fun t => XS.lload X49.here hx rfl (hb hby at_109) rfl) ?_
    show Go p e below s QQ room_1.cells room_1.slots (T49.setTop (mkF m 111 #[.val (.long p0), .second, .val (.long p1), .second, .val (.long p2), .second, .val (.long p3), .second, .val (.long p4), .second, .val (.int p5), .val (.ref b29), .val (.int (3 : Int32)), .val (.int (oI f)), .val (.ref b35), .unset, .unset] [(.long p4), (.long p3), (.long p2), (.ref b35)]))
    refine gs (fun t => XS.lloadN X49.here hx rfl (hb hby at_111) rfl) ?_
    show Go p e below s QQ room_1.cells room_1.slots (T49.setTop (mkF m 112 #[.val (.long p0), .second, .val (.long p1), .second, .val (.long p2), .second, .val (.long p3), .second, .val (.long p4), .second, .val (.int p5), .val (.ref b29), .val (.int (3 : Int32)), .val (.int (oI f)), .val (.ref b35), .unset, .unset] [(.long p0), (.long p4), (.long p3), (.long p2), (.ref b35)]))
    refine gs (fun t => XS.lloadN X49.here hx rfl (hb hby at_112) rfl) ?_
    show Go p e below s QQ room_1.cells room_1.slots (T49.setTop (mkF m 113 #[.val (.long p0), .second, .val (.long p1), .second, .val (.long p2), .second, .val (.long p3), .second, .val (.long p4), .second, .val (.int p5), .val (.ref b29), .val (.int (3 : Int32)), .val (.int (oI f)), .val (.ref b35), .unset, .unset] [(.long p1), (.long p0), (.long p4), (.long p3), (.long p2), (.ref b35)]))
    obtain ⟨cq50, kq50, q50a, q50b, q50c⟩ := isOf hZ rfl Ex_b35
    obtain ⟨_, _, ⟨T50, L50, k50, n50⟩, -, X50, ⟨Lc50, hQ50, l50, y50, z50⟩, st50⟩ := X49.virtualBack hx (y := (⟨"com/example/interval/interval/service/SlotTable", "add", "(JJJJJ)I"⟩ : MethodName)) (z := (⟨"com/example/interval/interval/service/SlotTable", "add", "(JJJJJ)I"⟩ : MethodName)) hown (mvT hZ (hw _ (List.mem_of_getElem? (i := 16) rfl))) (mvT hZ (hw _ (List.mem_of_getElem? (i := 17) rfl))) (notFace_of_selects (args := #[]) (mvT hZ (hw _ (List.mem_of_getElem? (i := 19) rfl)))) (mvT hZ (hw _ (List.mem_of_getElem? (i := 19) rfl))) (mvT hZ (hw _ (List.mem_of_getElem? (i := 18) rfl))) (by decide) (backOf (W := 0) (rm3 l Z a0 hw [] b35 p2 p3 p4 p0 p1 (0 + 1 + 1) pg pa (updv (fun _ => .null) 0 (.ref pa)) (own_add (own_add (fun _ => .long 0) 0 p0 p1 p2 p3 p4) (0 + 1) p1 p2 p3 p4 p0) T49.heap n0 ZZ Fp Fs Ex_b35 V_pg rfl V_pa ge_b35 ge_pa ne_b35_pg ne_b35_pa ngp (by decide)) hZ (hw _ (List.mem_of_getElem? (i := 20) rfl)) (hw _ (List.mem_of_getElem? (i := 4) rfl)) (by decide) (by decide)) q50a q50c (g := (mkF m 113 #[.val (.long p0), .second, .val (.long p1), .second, .val (.long p2), .second, .val (.long p3), .second, .val (.long p4), .second, .val (.int p5), .val (.ref b29), .val (.int (3 : Int32)), .val (.int (oI f)), .val (.ref b35), .unset, .unset] [(.long p1), (.long p0), (.long p4), (.long p3), (.long p2), (.ref b35)])) rfl (by rw [hml]; rfl) (Steps.refl _) (argsL := [(.long p2), (.long p3), (.long p4), (.long p0), (.long p1)]) (rest := []) (lenOf pd_3 rfl) rfl (by show 2 * 0 + _ ≤ _; exact Nat.le_of_eq rfl) (hb hby at_113) (fun _ _ => ⟨rfl, rfl, (by decide : 4 + 0 ≤ _), (by decide : 48 + 0 ≤ _)⟩)
    dsimp only [Pt.U, Pt.locs, Pt.cells, Pt.slots] at X50 l50 y50 z50 st50 hQ50
    subst l50 y50 z50
    obtain ⟨rfl, N50q, K50, Fpn50, Fsn50, Vn50⟩ := hQ50
    replace N0 := Fr.app N0 N50q
    refine gt st50 ?_
    show Go p e below s QQ room_1.cells room_1.slots (T50.setTop (mkF m 116 #[.val (.long p0), .second, .val (.long p1), .second, .val (.long p2), .second, .val (.long p3), .second, .val (.long p4), .second, .val (.int p5), .val (.ref b29), .val (.int (3 : Int32)), .val (.int (oI f)), .val (.ref b35), .unset, .unset] [(.int (oI (0 + 1 + 1)))]))
    replace V_b29 := V_b29.keep K50 (ninS ne_b29_b35 (ninS ne_b29_pa nin0))
    replace Ex_b35 := Ex_b35.keep K50
    replace V_pg := V_pg.keep K50 (ninS (Ne.symm ne_b35_pg) (ninS ngp nin0))
    replace ZZ := Nat.le_trans ZZ K50.1
    have Fp := Fpn50
    have Fs := Fsn50
    have V_pa := Vn50
    refine gs (fun t => XS.pop X50.here hx rfl (hb hby at_116) rfl rfl) ?_
    show Go p e below s QQ room_1.cells room_1.slots (T50.setTop (mkF m 117 #[.val (.long p0), .second, .val (.long p1), .second, .val (.long p2), .second, .val (.long p3), .second, .val (.long p4), .second, .val (.int p5), .val (.ref b29), .val (.int (3 : Int32)), .val (.int (oI f)), .val (.ref b35), .unset, .unset] []))
    refine gs (fun t => XS.aload X50.here hx rfl (hb hby at_117) rfl rfl) ?_
    show Go p e below s QQ room_1.cells room_1.slots (T50.setTop (mkF m 119 #[.val (.long p0), .second, .val (.long p1), .second, .val (.long p2), .second, .val (.long p3), .second, .val (.long p4), .second, .val (.int p5), .val (.ref b29), .val (.int (3 : Int32)), .val (.int (oI f)), .val (.ref b35), .unset, .unset] [(.ref b35)]))
    obtain ⟨cq51, kq51, q51a, q51b, q51c⟩ := isOf hZ rfl Ex_b35
    obtain ⟨_, _, ⟨T51, L51, k51, n51⟩, -, X51, ⟨Lc51, hQ51, l51, y51, z51⟩, st51⟩ := X50.virtualBack hx (y := (⟨"com/example/interval/interval/service/SlotTable", "removeLast", "()V"⟩ : MethodName)) (z := (⟨"com/example/interval/interval/service/SlotTable", "removeLast", "()V"⟩ : MethodName)) hown (mvT hZ (hw _ (List.mem_of_getElem? (i := 31) rfl))) (mvT hZ (hw _ (List.mem_of_getElem? (i := 32) rfl))) (notFace_of_selects (args := #[]) (mvT hZ (hw _ (List.mem_of_getElem? (i := 34) rfl)))) (mvT hZ (hw _ (List.mem_of_getElem? (i := 34) rfl))) (mvT hZ (hw _ (List.mem_of_getElem? (i := 33) rfl))) (by decide) (backOf (W := 0) (rm6 l Z a0 hw [] b35 (0 + 1 + 1) pg (updv (fun _ => .null) 0 (.ref pa)) T50.heap n0 ZZ Fp Fs Ex_b35 V_pg ge_b35 ne_b35_pg (by decide)) hZ (hw _ (List.mem_of_getElem? (i := 35) rfl)) (hw _ (List.mem_of_getElem? (i := 4) rfl)) (by decide) (by decide)) q51a q51c (g := (mkF m 119 #[.val (.long p0), .second, .val (.long p1), .second, .val (.long p2), .second, .val (.long p3), .second, .val (.long p4), .second, .val (.int p5), .val (.ref b29), .val (.int (3 : Int32)), .val (.int (oI f)), .val (.ref b35), .unset, .unset] [(.ref b35)])) rfl (by rw [hml]; rfl) (Steps.refl _) (argsL := []) (rest := []) (lenOf pd_2 rfl) rfl (by show 2 * 0 + _ ≤ _; exact Nat.le_of_eq rfl) (hb hby at_119) (fun _ _ => ⟨rfl, rfl, (by decide : 4 + 0 ≤ _), (by decide : 48 + 0 ≤ _)⟩)
    dsimp only [Pt.U, Pt.locs, Pt.cells, Pt.slots] at X51 l51 y51 z51 st51 hQ51
    subst l51 y51 z51
    obtain ⟨rfl, N51q, K51, Fpn51, Fsn51⟩ := hQ51
    replace N0 := Fr.app N0 N51q
    refine gt st51 ?_
    show Go p e below s QQ room_1.cells room_1.slots (T51.setTop (mkF m 122 #[.val (.long p0), .second, .val (.long p1), .second, .val (.long p2), .second, .val (.long p3), .second, .val (.long p4), .second, .val (.int p5), .val (.ref b29), .val (.int (3 : Int32)), .val (.int (oI f)), .val (.ref b35), .unset, .unset] []))
    replace V_b29 := V_b29.keep K51 (ninS ne_b29_b35 nin0)
    replace Ex_b35 := Ex_b35.keep K51
    replace V_pg := V_pg.keep K51 (ninS (Ne.symm ne_b35_pg) nin0)
    replace V_pa := V_pa.keep K51 (ninS (Ne.symm ne_b35_pa) nin0)
    replace ZZ := Nat.le_trans ZZ K51.1
    have Fp := Fpn51
    have Fs := Fsn51
    refine gs (fun t => XS.aload X51.here hx rfl (hb hby at_122) rfl rfl) ?_
    show Go p e below s QQ room_1.cells room_1.slots (T51.setTop (mkF m 124 #[.val (.long p0), .second, .val (.long p1), .second, .val (.long p2), .second, .val (.long p3), .second, .val (.long p4), .second, .val (.int p5), .val (.ref b29), .val (.int (3 : Int32)), .val (.int (oI f)), .val (.ref b35), .unset, .unset] [(.ref b35)]))
    obtain ⟨cq52, kq52, q52a, q52b, q52c⟩ := isOf hZ rfl Ex_b35
    obtain ⟨_, _, ⟨T52, L52, k52, n52⟩, -, X52, ⟨Lc52, hQ52, l52, y52, z52⟩, st52⟩ := X51.virtualBack hx (y := (⟨"com/example/interval/interval/service/SlotTable", "size", "()I"⟩ : MethodName)) (z := (⟨"com/example/interval/interval/service/SlotTable", "size", "()I"⟩ : MethodName)) hown (mvT hZ (hw _ (List.mem_of_getElem? (i := 36) rfl))) (mvT hZ (hw _ (List.mem_of_getElem? (i := 37) rfl))) (notFace_of_selects (args := #[]) (mvT hZ (hw _ (List.mem_of_getElem? (i := 39) rfl)))) (mvT hZ (hw _ (List.mem_of_getElem? (i := 39) rfl))) (mvT hZ (hw _ (List.mem_of_getElem? (i := 38) rfl))) (by decide) (backOf (W := 0) (rm7 l Z a0 hw [] b35 (oI (0 + 1 + 1)) T51.heap n0 ZZ Fs) hZ (hw _ (List.mem_of_getElem? (i := 40) rfl)) (hw _ (List.mem_of_getElem? (i := 4) rfl)) (by decide) (by decide)) q52a q52c (g := (mkF m 124 #[.val (.long p0), .second, .val (.long p1), .second, .val (.long p2), .second, .val (.long p3), .second, .val (.long p4), .second, .val (.int p5), .val (.ref b29), .val (.int (3 : Int32)), .val (.int (oI f)), .val (.ref b35), .unset, .unset] [(.ref b35)])) rfl (by rw [hml]; rfl) (Steps.refl _) (argsL := []) (rest := []) (lenOf pd_4 rfl) rfl (by show 2 * 0 + _ ≤ _; exact Nat.le_of_eq rfl) (hb hby at_124) (fun _ _ => ⟨rfl, rfl, (by decide : 4 + 0 ≤ _), (by decide : 48 + 0 ≤ _)⟩)
    dsimp only [Pt.U, Pt.locs, Pt.cells, Pt.slots] at X52 l52 y52 z52 st52 hQ52
    subst l52 y52 z52
    obtain ⟨rfl, N52q, e52⟩ := hQ52
    replace N0 := Fr.app N0 N52q
    refine gt st52 ?_
    show Go p e below s QQ room_1.cells room_1.slots (T52.setTop (mkF m 127 #[.val (.long p0), .second, .val (.long p1), .second, .val (.long p2), .second, .val (.long p3), .second, .val (.long p4), .second, .val (.int p5), .val (.ref b29), .val (.int (3 : Int32)), .val (.int (oI f)), .val (.ref b35), .unset, .unset] [(.int (oI (0 + 1 + 1)))]))
    refine gs (fun t => XS.iload X52.here hx rfl (hb hby at_127) rfl) ?_
    show Go p e below s QQ room_1.cells room_1.slots (T52.setTop (mkF m 129 #[.val (.long p0), .second, .val (.long p1), .second, .val (.long p2), .second, .val (.long p3), .second, .val (.long p4), .second, .val (.int p5), .val (.ref b29), .val (.int (3 : Int32)), .val (.int (oI f)), .val (.ref b35), .unset, .unset] [(.int (3 : Int32)), (.int (oI (0 + 1 + 1)))]))
    refine gs (fun t => XS.iconst X52.here hx rfl (hb hby at_129)) ?_
    show Go p e below s QQ room_1.cells room_1.slots (T52.setTop (mkF m 130 #[.val (.long p0), .second, .val (.long p1), .second, .val (.long p2), .second, .val (.long p3), .second, .val (.long p4), .second, .val (.int p5), .val (.ref b29), .val (.int (3 : Int32)), .val (.int (oI f)), .val (.ref b35), .unset, .unset] [(.int (1 : Int32)), (.int (3 : Int32)), (.int (oI (0 + 1 + 1)))]))
    refine gs (fun t => XS.isub X52.here hx rfl (hb hby at_130) rfl) ?_
    show Go p e below s QQ room_1.cells room_1.slots (T52.setTop (mkF m 131 #[.val (.long p0), .second, .val (.long p1), .second, .val (.long p2), .second, .val (.long p3), .second, .val (.long p4), .second, .val (.int p5), .val (.ref b29), .val (.int (3 : Int32)), .val (.int (oI f)), .val (.ref b35), .unset, .unset] [(.int (2 : Int32)), (.int (oI (0 + 1 + 1)))]))
    refine gs (fun t => XS.icmpNo X52.here hx rfl (hb hby at_131) rfl (teq (by decide : (oI (0 + 1 + 1)) = (2 : Int32))).2) ?_
    show Go p e below s QQ room_1.cells room_1.slots (T52.setTop (mkF m 134 #[.val (.long p0), .second, .val (.long p1), .second, .val (.long p2), .second, .val (.long p3), .second, .val (.long p4), .second, .val (.int p5), .val (.ref b29), .val (.int (3 : Int32)), .val (.int (oI f)), .val (.ref b35), .unset, .unset] []))
    refine gs (fun t => XS.iconst X52.here hx rfl (hb hby at_134)) ?_
    show Go p e below s QQ room_1.cells room_1.slots (T52.setTop (mkF m 135 #[.val (.long p0), .second, .val (.long p1), .second, .val (.long p2), .second, .val (.long p3), .second, .val (.long p4), .second, .val (.int p5), .val (.ref b29), .val (.int (3 : Int32)), .val (.int (oI f)), .val (.ref b35), .unset, .unset] [(.int (1 : Int32))]))
    refine gs (fun t => XS.goto X52.here hx rfl (pc0 := 135) (pc' := 139) rfl (hb hby at_135) (by decide) (by decide)) ?_
    show Go p e below s QQ room_1.cells room_1.slots (T52.setTop (mkF m 139 #[.val (.long p0), .second, .val (.long p1), .second, .val (.long p2), .second, .val (.long p3), .second, .val (.long p4), .second, .val (.int p5), .val (.ref b29), .val (.int (3 : Int32)), .val (.int (oI f)), .val (.ref b35), .unset, .unset] [(.int (1 : Int32))]))
    refine gs (fun t => XS.istore X52.here hx rfl (hb hby at_139) rfl (l' := #[.val (.long p0), .second, .val (.long p1), .second, .val (.long p2), .second, .val (.long p3), .second, .val (.long p4), .second, .val (.int p5), .val (.ref b29), .val (.int (3 : Int32)), .val (.int (oI f)), .val (.ref b35), .val (.int (1 : Int32)), .unset]) rfl) ?_
    show Go p e below s QQ room_1.cells room_1.slots (T52.setTop (mkF m 141 #[.val (.long p0), .second, .val (.long p1), .second, .val (.long p2), .second, .val (.long p3), .second, .val (.long p4), .second, .val (.int p5), .val (.ref b29), .val (.int (3 : Int32)), .val (.int (oI f)), .val (.ref b35), .val (.int (1 : Int32)), .unset] []))
    refine gs (fun t => XS.iload X52.here hx rfl (hb hby at_141) rfl) ?_
    show Go p e below s QQ room_1.cells room_1.slots (T52.setTop (mkF m 143 #[.val (.long p0), .second, .val (.long p1), .second, .val (.long p2), .second, .val (.long p3), .second, .val (.long p4), .second, .val (.int p5), .val (.ref b29), .val (.int (3 : Int32)), .val (.int (oI f)), .val (.ref b35), .val (.int (1 : Int32)), .unset] [(.int (3 : Int32))]))
    refine gs (fun t => XS.iconst X52.here hx rfl (hb hby at_143)) ?_
    show Go p e below s QQ room_1.cells room_1.slots (T52.setTop (mkF m 144 #[.val (.long p0), .second, .val (.long p1), .second, .val (.long p2), .second, .val (.long p3), .second, .val (.long p4), .second, .val (.int p5), .val (.ref b29), .val (.int (3 : Int32)), .val (.int (oI f)), .val (.ref b35), .val (.int (1 : Int32)), .unset] [(.int (2 : Int32)), (.int (3 : Int32))]))
    refine gs (fun t => XS.icmpNo X52.here hx rfl (hb hby at_144) rfl (flt (by decide : ¬ ((3 : Int32) < (2 : Int32)))).1) ?_
    show Go p e below s QQ room_1.cells room_1.slots (T52.setTop (mkF m 147 #[.val (.long p0), .second, .val (.long p1), .second, .val (.long p2), .second, .val (.long p3), .second, .val (.long p4), .second, .val (.int p5), .val (.ref b29), .val (.int (3 : Int32)), .val (.int (oI f)), .val (.ref b35), .val (.int (1 : Int32)), .unset] []))
    refine gs (fun t => XS.iload X52.here hx rfl (hb hby at_147) rfl) ?_
    show Go p e below s QQ room_1.cells room_1.slots (T52.setTop (mkF m 149 #[.val (.long p0), .second, .val (.long p1), .second, .val (.long p2), .second, .val (.long p3), .second, .val (.long p4), .second, .val (.int p5), .val (.ref b29), .val (.int (3 : Int32)), .val (.int (oI f)), .val (.ref b35), .val (.int (1 : Int32)), .unset] [(.int (3 : Int32))]))
    refine gs (fun t => XS.iconst X52.here hx rfl (hb hby at_149)) ?_
    show Go p e below s QQ room_1.cells room_1.slots (T52.setTop (mkF m 150 #[.val (.long p0), .second, .val (.long p1), .second, .val (.long p2), .second, .val (.long p3), .second, .val (.long p4), .second, .val (.int p5), .val (.ref b29), .val (.int (3 : Int32)), .val (.int (oI f)), .val (.ref b35), .val (.int (1 : Int32)), .unset] [(.int (2 : Int32)), (.int (3 : Int32))]))
    refine gs (fun t => XS.isub X52.here hx rfl (hb hby at_150) rfl) ?_
    show Go p e below s QQ room_1.cells room_1.slots (T52.setTop (mkF m 151 #[.val (.long p0), .second, .val (.long p1), .second, .val (.long p2), .second, .val (.long p3), .second, .val (.long p4), .second, .val (.int p5), .val (.ref b29), .val (.int (3 : Int32)), .val (.int (oI f)), .val (.ref b35), .val (.int (1 : Int32)), .unset] [(.int (1 : Int32))]))
    refine gs (fun t => XS.istore X52.here hx rfl (hb hby at_151) rfl (l' := #[.val (.long p0), .second, .val (.long p1), .second, .val (.long p2), .second, .val (.long p3), .second, .val (.long p4), .second, .val (.int p5), .val (.ref b29), .val (.int (3 : Int32)), .val (.int (oI f)), .val (.ref b35), .val (.int (1 : Int32)), .val (.int (1 : Int32))]) rfl) ?_
    show Go p e below s QQ room_1.cells room_1.slots (T52.setTop (mkF m 153 #[.val (.long p0), .second, .val (.long p1), .second, .val (.long p2), .second, .val (.long p3), .second, .val (.long p4), .second, .val (.int p5), .val (.ref b29), .val (.int (3 : Int32)), .val (.int (oI f)), .val (.ref b35), .val (.int (1 : Int32)), .val (.int (1 : Int32))] []))
    refine gs (fun t => XS.iload X52.here hx rfl (hb hby at_153) rfl) ?_
    show Go p e below s QQ room_1.cells room_1.slots (T52.setTop (mkF m 155 #[.val (.long p0), .second, .val (.long p1), .second, .val (.long p2), .second, .val (.long p3), .second, .val (.long p4), .second, .val (.int p5), .val (.ref b29), .val (.int (3 : Int32)), .val (.int (oI f)), .val (.ref b35), .val (.int (1 : Int32)), .val (.int (1 : Int32))] [(.int (1 : Int32))]))
    refine gs (fun t => XS.ifNo X52.here hx rfl (hb hby at_155) rfl ((if0 _ _).trans (feq (by decide : ¬ ((1 : Int32) = (0 : Int32)))).1)) ?_
    show Go p e below s QQ room_1.cells room_1.slots (T52.setTop (mkF m 158 #[.val (.long p0), .second, .val (.long p1), .second, .val (.long p2), .second, .val (.long p3), .second, .val (.long p4), .second, .val (.int p5), .val (.ref b29), .val (.int (3 : Int32)), .val (.int (oI f)), .val (.ref b35), .val (.int (1 : Int32)), .val (.int (1 : Int32))] []))
    refine gs (fun t => XS.aload X52.here hx rfl (hb hby at_158) rfl rfl) ?_
    show Go p e below s QQ room_1.cells room_1.slots (T52.setTop (mkF m 160 #[.val (.long p0), .second, .val (.long p1), .second, .val (.long p2), .second, .val (.long p3), .second, .val (.long p4), .second, .val (.int p5), .val (.ref b29), .val (.int (3 : Int32)), .val (.int (oI f)), .val (.ref b35), .val (.int (1 : Int32)), .val (.int (1 : Int32))] [(.ref b35)]))
    refine gs (fun t => XS.iload X52.here hx rfl (hb hby at_160) rfl) ?_
    show Go p e below s QQ room_1.cells room_1.slots (T52.setTop (mkF m 162 #[.val (.long p0), .second, .val (.long p1), .second, .val (.long p2), .second, .val (.long p3), .second, .val (.long p4), .second, .val (.int p5), .val (.ref b29), .val (.int (3 : Int32)), .val (.int (oI f)), .val (.ref b35), .val (.int (1 : Int32)), .val (.int (1 : Int32))] [(.int (1 : Int32)), (.ref b35)]))
    refine gs (fun t => XS.iload X52.here hx rfl (hb hby at_162) rfl) ?_
    show Go p e below s QQ room_1.cells room_1.slots (T52.setTop (mkF m 164 #[.val (.long p0), .second, .val (.long p1), .second, .val (.long p2), .second, .val (.long p3), .second, .val (.long p4), .second, .val (.int p5), .val (.ref b29), .val (.int (3 : Int32)), .val (.int (oI f)), .val (.ref b35), .val (.int (1 : Int32)), .val (.int (1 : Int32))] [(.int (oI f)), (.int (1 : Int32)), (.ref b35)]))
    show Go p e below s QQ room_1.cells room_1.slots (T52.setTop (mkF m 164 #[.val (.long p0), .second, .val (.long p1), .second, .val (.long p2), .second, .val (.long p3), .second, .val (.long p4), .second, .val (.int p5), .val (.ref b29), .val (.int (3 : Int32)), .val (.int (oI f)), .val (.ref b35), .val (.int (1 : Int32)), .val (.int (1 : Int32))] [(.int (oI f)), (.int (oI (0 + 1))), (.ref b35)]))
    obtain ⟨cq53, kq53, q53a, q53b, q53c⟩ := isOf hZ e52 Ex_b35
    obtain ⟨_, _, ⟨T53, L53, k53, n53⟩, -, X53, ⟨Lc53, hQ53, l53, y53, z53⟩, st53⟩ := X52.virtualBack hx (y := (⟨"com/example/interval/interval/service/SlotTable", "get", "(II)J"⟩ : MethodName)) (z := (⟨"com/example/interval/interval/service/SlotTable", "get", "(II)J"⟩ : MethodName)) hown (mvT hZ (hw _ (List.mem_of_getElem? (i := 41) rfl))) (mvT hZ (hw _ (List.mem_of_getElem? (i := 42) rfl))) (notFace_of_selects (args := #[]) (mvT hZ (hw _ (List.mem_of_getElem? (i := 44) rfl)))) (mvT hZ (hw _ (List.mem_of_getElem? (i := 44) rfl))) (mvT hZ (hw _ (List.mem_of_getElem? (i := 43) rfl))) (by decide) (backOf (W := 0) (rm8 l Z a0 hw [] b35 (0 + 1) f pg pa (updv (fun _ => .null) 0 (.ref pa)) (own_add (own_add (own_add (fun _ => .long 0) 0 p0 p1 p2 p3 p4) (0 + 1) p1 p2 p3 p4 p0) (0 + 1 + 1) p2 p3 p4 p0 p1) (own_sel p1 p2 p3 p4 p0 f) T51.heap n0 ZZ Fp V_pg rfl V_pa (by decide) (by omega) ((own_addne _ (0 + 1 + 1) _ _ _ _ _ (by omega)).trans (own_addeq _ (0 + 1) _ _ _ _ _ hf5))) hZ (hw _ (List.mem_of_getElem? (i := 45) rfl)) (hw _ (List.mem_of_getElem? (i := 4) rfl)) (by decide) (by decide)) q53a q53c (g := (mkF m 164 #[.val (.long p0), .second, .val (.long p1), .second, .val (.long p2), .second, .val (.long p3), .second, .val (.long p4), .second, .val (.int p5), .val (.ref b29), .val (.int (3 : Int32)), .val (.int (oI f)), .val (.ref b35), .val (.int (1 : Int32)), .val (.int (1 : Int32))] [(.int (oI f)), (.int (oI (0 + 1))), (.ref b35)])) rfl (by rw [hml]; rfl) (Steps.refl _) (argsL := [(.int (oI (0 + 1))), (.int (oI f))]) (rest := []) (lenOf pd_5 rfl) rfl (by show 2 * 0 + _ ≤ _; exact Nat.le_of_eq rfl) (hb hby at_164) (fun _ _ => ⟨rfl, e52, (by decide : 4 + 0 ≤ _), (by decide : 48 + 0 ≤ _)⟩)
    dsimp only [Pt.U, Pt.locs, Pt.cells, Pt.slots] at X53 l53 y53 z53 st53 hQ53
    subst l53 y53 z53
    obtain ⟨rfl, N53q, e53⟩ := hQ53
    replace N0 := Fr.app N0 N53q
    refine gt st53 ?_
    show Go p e below s QQ room_1.cells room_1.slots (T53.setTop (mkF m 167 #[.val (.long p0), .second, .val (.long p1), .second, .val (.long p2), .second, .val (.long p3), .second, .val (.long p4), .second, .val (.int p5), .val (.ref b29), .val (.int (3 : Int32)), .val (.int (oI f)), .val (.ref b35), .val (.int (1 : Int32)), .val (.int (1 : Int32))] [(.long (own_sel p1 p2 p3 p4 p0 f))]))
    refine gs (fun t => XS.aload X53.here hx rfl (hb hby at_167) rfl rfl) ?_
    show Go p e below s QQ room_1.cells room_1.slots (T53.setTop (mkF m 169 #[.val (.long p0), .second, .val (.long p1), .second, .val (.long p2), .second, .val (.long p3), .second, .val (.long p4), .second, .val (.int p5), .val (.ref b29), .val (.int (3 : Int32)), .val (.int (oI f)), .val (.ref b35), .val (.int (1 : Int32)), .val (.int (1 : Int32))] [(.ref b29), (.long (own_sel p1 p2 p3 p4 p0 f))]))
    refine gs (fun t => XS.iload X53.here hx rfl (hb hby at_169) rfl) ?_
    show Go p e below s QQ room_1.cells room_1.slots (T53.setTop (mkF m 171 #[.val (.long p0), .second, .val (.long p1), .second, .val (.long p2), .second, .val (.long p3), .second, .val (.long p4), .second, .val (.int p5), .val (.ref b29), .val (.int (3 : Int32)), .val (.int (oI f)), .val (.ref b35), .val (.int (1 : Int32)), .val (.int (1 : Int32))] [(.int (1 : Int32)), (.ref b29), (.long (own_sel p1 p2 p3 p4 p0 f))]))
    refine gs (fun t => XS.iload X53.here hx rfl (hb hby at_171) rfl) ?_
    show Go p e below s QQ room_1.cells room_1.slots (T53.setTop (mkF m 173 #[.val (.long p0), .second, .val (.long p1), .second, .val (.long p2), .second, .val (.long p3), .second, .val (.long p4), .second, .val (.int p5), .val (.ref b29), .val (.int (3 : Int32)), .val (.int (oI f)), .val (.ref b35), .val (.int (1 : Int32)), .val (.int (1 : Int32))] [(.int (oI f)), (.int (1 : Int32)), (.ref b29), (.long (own_sel p1 p2 p3 p4 p0 f))]))
    refine gs (fun t => XS.iadd X53.here hx rfl (hb hby at_173) rfl) ?_
    show Go p e below s QQ room_1.cells room_1.slots (T53.setTop (mkF m 174 #[.val (.long p0), .second, .val (.long p1), .second, .val (.long p2), .second, .val (.long p3), .second, .val (.long p4), .second, .val (.int p5), .val (.ref b29), .val (.int (3 : Int32)), .val (.int (oI f)), .val (.ref b35), .val (.int (1 : Int32)), .val (.int (1 : Int32))] [(.int ((1 : Int32) + (oI f))), (.ref b29), (.long (own_sel p1 p2 p3 p4 p0 f))]))
    refine gs (fun t => XS.iconst X53.here hx rfl (hb hby at_174)) ?_
    show Go p e below s QQ room_1.cells room_1.slots (T53.setTop (mkF m 175 #[.val (.long p0), .second, .val (.long p1), .second, .val (.long p2), .second, .val (.long p3), .second, .val (.long p4), .second, .val (.int p5), .val (.ref b29), .val (.int (3 : Int32)), .val (.int (oI f)), .val (.ref b35), .val (.int (1 : Int32)), .val (.int (1 : Int32))] [(.int (5 : Int32)), (.int ((1 : Int32) + (oI f))), (.ref b29), (.long (own_sel p1 p2 p3 p4 p0 f))]))
    refine gs (fun t => iremM X53 hx (g := (mkF m 175 #[.val (.long p0), .second, .val (.long p1), .second, .val (.long p2), .second, .val (.long p3), .second, .val (.long p4), .second, .val (.int p5), .val (.ref b29), .val (.int (3 : Int32)), .val (.int (oI f)), .val (.ref b35), .val (.int (1 : Int32)), .val (.int (1 : Int32))] [(.int (5 : Int32)), (.int ((1 : Int32) + (oI f))), (.ref b29), (.long (own_sel p1 p2 p3 p4 p0 f))])) rfl (hb hby at_175) rfl (by decide)) ?_
    show Go p e below s QQ room_1.cells room_1.slots (T53.setTop (mkF m 176 #[.val (.long p0), .second, .val (.long p1), .second, .val (.long p2), .second, .val (.long p3), .second, .val (.long p4), .second, .val (.int p5), .val (.ref b29), .val (.int (3 : Int32)), .val (.int (oI f)), .val (.ref b35), .val (.int (1 : Int32)), .val (.int (1 : Int32))] [(.int (((1 : Int32) + (oI f)) % (5 : Int32))), (.ref b29), (.long (own_sel p1 p2 p3 p4 p0 f))]))
    rw [show (((1 : Int32) + (oI f)) % (5 : Int32)) = (oI ((1 + f) % 5)) from own_mod5 (r := 1) (by decide) hf5 (by decide)]
    show Go p e below s QQ room_1.cells room_1.slots (T53.setTop (mkF m 176 #[.val (.long p0), .second, .val (.long p1), .second, .val (.long p2), .second, .val (.long p3), .second, .val (.long p4), .second, .val (.int p5), .val (.ref b29), .val (.int (3 : Int32)), .val (.int (oI f)), .val (.ref b35), .val (.int (1 : Int32)), .val (.int (1 : Int32))] [(.int (oI ((1 + f) % 5))), (.ref b29), (.long (own_sel p1 p2 p3 p4 p0 f))]))
    refine gs (fun t => ldJf X53 hx hZ e53 V_b29 (j := (oI ((1 + f) % 5))) (v := (.long (own_sel p0 p1 p2 p3 p4 ((1 + f) % 5)))) (own_oin (Nat.mod_lt _ (by decide)) (by decide)) (by rw [oI_c (by omega)]) (g := (mkF m 176 #[.val (.long p0), .second, .val (.long p1), .second, .val (.long p2), .second, .val (.long p3), .second, .val (.long p4), .second, .val (.int p5), .val (.ref b29), .val (.int (3 : Int32)), .val (.int (oI f)), .val (.ref b35), .val (.int (1 : Int32)), .val (.int (1 : Int32))] [(.int (oI ((1 + f) % 5))), (.ref b29), (.long (own_sel p1 p2 p3 p4 p0 f))])) rfl rfl (hb hby at_176) t) ?_
    show Go p e below s QQ room_1.cells room_1.slots (T53.setTop (mkF m 177 #[.val (.long p0), .second, .val (.long p1), .second, .val (.long p2), .second, .val (.long p3), .second, .val (.long p4), .second, .val (.int p5), .val (.ref b29), .val (.int (3 : Int32)), .val (.int (oI f)), .val (.ref b35), .val (.int (1 : Int32)), .val (.int (1 : Int32))] [(.long (own_sel p0 p1 p2 p3 p4 ((1 + f) % 5))), (.long (own_sel p1 p2 p3 p4 p0 f))]))
    refine gs (fun t => XS.lcmp X53.here hx rfl (hb hby at_177) rfl) ?_
    show Go p e below s QQ room_1.cells room_1.slots (T53.setTop (mkF m 178 #[.val (.long p0), .second, .val (.long p1), .second, .val (.long p2), .second, .val (.long p3), .second, .val (.long p4), .second, .val (.int p5), .val (.ref b29), .val (.int (3 : Int32)), .val (.int (oI f)), .val (.ref b35), .val (.int (1 : Int32)), .val (.int (1 : Int32))] [(.int (lcmpW (own_sel p1 p2 p3 p4 p0 f) (own_sel p0 p1 p2 p3 p4 ((1 + f) % 5))))]))
    refine gs (fun t => XS.ifNo X53.here hx rfl (hb hby at_178) rfl ((if0 _ _).trans (teq ((lw_eq _ _).mpr (by rcases own_5 hf5 with rfl | rfl | rfl | rfl | rfl <;> rfl) : (lcmpW (own_sel p1 p2 p3 p4 p0 f) (own_sel p0 p1 p2 p3 p4 ((1 + f) % 5))) = (0 : Int32))).2)) ?_
    show Go p e below s QQ room_1.cells room_1.slots (T53.setTop (mkF m 181 #[.val (.long p0), .second, .val (.long p1), .second, .val (.long p2), .second, .val (.long p3), .second, .val (.long p4), .second, .val (.int p5), .val (.ref b29), .val (.int (3 : Int32)), .val (.int (oI f)), .val (.ref b35), .val (.int (1 : Int32)), .val (.int (1 : Int32))] []))
    refine gs (fun t => XS.iconst X53.here hx rfl (hb hby at_181)) ?_
    show Go p e below s QQ room_1.cells room_1.slots (T53.setTop (mkF m 182 #[.val (.long p0), .second, .val (.long p1), .second, .val (.long p2), .second, .val (.long p3), .second, .val (.long p4), .second, .val (.int p5), .val (.ref b29), .val (.int (3 : Int32)), .val (.int (oI f)), .val (.ref b35), .val (.int (1 : Int32)), .val (.int (1 : Int32))] [(.int (1 : Int32))]))
    refine gs (fun t => XS.goto X53.here hx rfl (pc0 := 182) (pc' := 186) rfl (hb hby at_182) (by decide) (by decide)) ?_
    show Go p e below s QQ room_1.cells room_1.slots (T53.setTop (mkF m 186 #[.val (.long p0), .second, .val (.long p1), .second, .val (.long p2), .second, .val (.long p3), .second, .val (.long p4), .second, .val (.int p5), .val (.ref b29), .val (.int (3 : Int32)), .val (.int (oI f)), .val (.ref b35), .val (.int (1 : Int32)), .val (.int (1 : Int32))] [(.int (1 : Int32))]))
    refine gs (fun t => XS.istore X53.here hx rfl (hb hby at_186) rfl (l' := #[.val (.long p0), .second, .val (.long p1), .second, .val (.long p2), .second, .val (.long p3), .second, .val (.long p4), .second, .val (.int p5), .val (.ref b29), .val (.int (3 : Int32)), .val (.int (oI f)), .val (.ref b35), .val (.int (1 : Int32)), .val (.int (1 : Int32))]) rfl) ?_
    show Go p e below s QQ room_1.cells room_1.slots (T53.setTop (mkF m 188 #[.val (.long p0), .second, .val (.long p1), .second, .val (.long p2), .second, .val (.long p3), .second, .val (.long p4), .second, .val (.int p5), .val (.ref b29), .val (.int (3 : Int32)), .val (.int (oI f)), .val (.ref b35), .val (.int (1 : Int32)), .val (.int (1 : Int32))] []))
    refine gs (fun t => XS.aload X53.here hx rfl (hb hby at_188) rfl rfl) ?_
    show Go p e below s QQ room_1.cells room_1.slots (T53.setTop (mkF m 190 #[.val (.long p0), .second, .val (.long p1), .second, .val (.long p2), .second, .val (.long p3), .second, .val (.long p4), .second, .val (.int p5), .val (.ref b29), .val (.int (3 : Int32)), .val (.int (oI f)), .val (.ref b35), .val (.int (1 : Int32)), .val (.int (1 : Int32))] [(.ref b35)]))
    refine gs (fun t => XS.lload X53.here hx rfl (hb hby at_190) rfl) ?_
    show Go p e below s QQ room_1.cells room_1.slots (T53.setTop (mkF m 192 #[.val (.long p0), .second, .val (.long p1), .second, .val (.long p2), .second, .val (.long p3), .second, .val (.long p4), .second, .val (.int p5), .val (.ref b29), .val (.int (3 : Int32)), .val (.int (oI f)), .val (.ref b35), .val (.int (1 : Int32)), .val (.int (1 : Int32))] [(.long p4), (.ref b35)]))
    refine gs (fun t => XS.lload X53.here hx rfl (hb hby at_192) rfl) ?_
    show Go p e below s QQ room_1.cells room_1.slots (T53.setTop (mkF m 194 #[.val (.long p0), .second, .val (.long p1), .second, .val (.long p2), .second, .val (.long p3), .second, .val (.long p4), .second, .val (.int p5), .val (.ref b29), .val (.int (3 : Int32)), .val (.int (oI f)), .val (.ref b35), .val (.int (1 : Int32)), .val (.int (1 : Int32))] [(.long p3), (.long p4), (.ref b35)]))
    refine gs (fun t => XS.lload X53.here hx rfl (hb hby at_194) rfl) ?_
    show Go p e below s QQ room_1.cells room_1.slots (T53.setTop (mkF m 196 #[.val (.long p0), .second, .val (.long p1), .second, .val (.long p2), .second, .val (.long p3), .second, .val (.long p4), .second, .val (.int p5), .val (.ref b29), .val (.int (3 : Int32)), .val (.int (oI f)), .val (.ref b35), .val (.int (1 : Int32)), .val (.int (1 : Int32))] [(.long p2), (.long p3), (.long p4), (.ref b35)]))
    refine gs (fun t => XS.lloadN X53.here hx rfl (hb hby at_196) rfl) ?_
    show Go p e below s QQ room_1.cells room_1.slots (T53.setTop (mkF m 197 #[.val (.long p0), .second, .val (.long p1), .second, .val (.long p2), .second, .val (.long p3), .second, .val (.long p4), .second, .val (.int p5), .val (.ref b29), .val (.int (3 : Int32)), .val (.int (oI f)), .val (.ref b35), .val (.int (1 : Int32)), .val (.int (1 : Int32))] [(.long p1), (.long p2), (.long p3), (.long p4), (.ref b35)]))
    refine gs (fun t => XS.lloadN X53.here hx rfl (hb hby at_197) rfl) ?_
    show Go p e below s QQ room_1.cells room_1.slots (T53.setTop (mkF m 198 #[.val (.long p0), .second, .val (.long p1), .second, .val (.long p2), .second, .val (.long p3), .second, .val (.long p4), .second, .val (.int p5), .val (.ref b29), .val (.int (3 : Int32)), .val (.int (oI f)), .val (.ref b35), .val (.int (1 : Int32)), .val (.int (1 : Int32))] [(.long p0), (.long p1), (.long p2), (.long p3), (.long p4), (.ref b35)]))
    obtain ⟨cq54, kq54, q54a, q54b, q54c⟩ := isOf hZ e53 Ex_b35
    obtain ⟨_, _, ⟨T54, L54, k54, n54⟩, -, X54, ⟨Lc54, hQ54, l54, y54, z54⟩, st54⟩ := X53.virtualBack hx (y := (⟨"com/example/interval/interval/service/SlotTable", "add", "(JJJJJ)I"⟩ : MethodName)) (z := (⟨"com/example/interval/interval/service/SlotTable", "add", "(JJJJJ)I"⟩ : MethodName)) hown (mvT hZ (hw _ (List.mem_of_getElem? (i := 16) rfl))) (mvT hZ (hw _ (List.mem_of_getElem? (i := 17) rfl))) (notFace_of_selects (args := #[]) (mvT hZ (hw _ (List.mem_of_getElem? (i := 19) rfl)))) (mvT hZ (hw _ (List.mem_of_getElem? (i := 19) rfl))) (mvT hZ (hw _ (List.mem_of_getElem? (i := 18) rfl))) (by decide) (backOf (W := 0) (rm3 l Z a0 hw [] b35 p4 p3 p2 p1 p0 (0 + 1 + 1) pg pa (updv (fun _ => .null) 0 (.ref pa)) (own_add (own_add (own_add (fun _ => .long 0) 0 p0 p1 p2 p3 p4) (0 + 1) p1 p2 p3 p4 p0) (0 + 1 + 1) p2 p3 p4 p0 p1) T51.heap n0 ZZ Fp Fs Ex_b35 V_pg rfl V_pa ge_b35 ge_pa ne_b35_pg ne_b35_pa ngp (by decide)) hZ (hw _ (List.mem_of_getElem? (i := 20) rfl)) (hw _ (List.mem_of_getElem? (i := 4) rfl)) (by decide) (by decide)) q54a q54c (g := (mkF m 198 #[.val (.long p0), .second, .val (.long p1), .second, .val (.long p2), .second, .val (.long p3), .second, .val (.long p4), .second, .val (.int p5), .val (.ref b29), .val (.int (3 : Int32)), .val (.int (oI f)), .val (.ref b35), .val (.int (1 : Int32)), .val (.int (1 : Int32))] [(.long p0), (.long p1), (.long p2), (.long p3), (.long p4), (.ref b35)])) rfl (by rw [hml]; rfl) (Steps.refl _) (argsL := [(.long p4), (.long p3), (.long p2), (.long p1), (.long p0)]) (rest := []) (lenOf pd_3 rfl) rfl (by show 2 * 0 + _ ≤ _; exact Nat.le_of_eq rfl) (hb hby at_198) (fun _ _ => ⟨rfl, e53, (by decide : 4 + 0 ≤ _), (by decide : 48 + 0 ≤ _)⟩)
    dsimp only [Pt.U, Pt.locs, Pt.cells, Pt.slots] at X54 l54 y54 z54 st54 hQ54
    subst l54 y54 z54
    obtain ⟨rfl, N54q, K54, Fpn54, Fsn54, Vn54⟩ := hQ54
    replace N0 := Fr.app N0 N54q
    refine gt st54 ?_
    show Go p e below s QQ room_1.cells room_1.slots (T54.setTop (mkF m 201 #[.val (.long p0), .second, .val (.long p1), .second, .val (.long p2), .second, .val (.long p3), .second, .val (.long p4), .second, .val (.int p5), .val (.ref b29), .val (.int (3 : Int32)), .val (.int (oI f)), .val (.ref b35), .val (.int (1 : Int32)), .val (.int (1 : Int32))] [(.int (oI (0 + 1 + 1)))]))
    replace V_b29 := V_b29.keep K54 (ninS ne_b29_b35 (ninS ne_b29_pa nin0))
    replace Ex_b35 := Ex_b35.keep K54
    replace V_pg := V_pg.keep K54 (ninS (Ne.symm ne_b35_pg) (ninS ngp nin0))
    replace ZZ := Nat.le_trans ZZ K54.1
    have Fp := Fpn54
    have Fs := Fsn54
    have V_pa := Vn54
    refine gs (fun t => XS.istore X54.here hx rfl (hb hby at_201) rfl (l' := #[.val (.long p0), .second, .val (.long p1), .second, .val (.long p2), .second, .val (.long p3), .second, .val (.long p4), .second, .val (.int p5), .val (.ref b29), .val (.int (3 : Int32)), .val (.int (oI f)), .val (.ref b35), .val (.int (1 : Int32)), .val (.int (oI (0 + 1 + 1)))]) rfl) ?_
    show Go p e below s QQ room_1.cells room_1.slots (T54.setTop (mkF m 203 #[.val (.long p0), .second, .val (.long p1), .second, .val (.long p2), .second, .val (.long p3), .second, .val (.long p4), .second, .val (.int p5), .val (.ref b29), .val (.int (3 : Int32)), .val (.int (oI f)), .val (.ref b35), .val (.int (1 : Int32)), .val (.int (oI (0 + 1 + 1)))] []))
    refine gs (fun t => XS.iload X54.here hx rfl (hb hby at_203) rfl) ?_
    show Go p e below s QQ room_1.cells room_1.slots (T54.setTop (mkF m 205 #[.val (.long p0), .second, .val (.long p1), .second, .val (.long p2), .second, .val (.long p3), .second, .val (.long p4), .second, .val (.int p5), .val (.ref b29), .val (.int (3 : Int32)), .val (.int (oI f)), .val (.ref b35), .val (.int (1 : Int32)), .val (.int (oI (0 + 1 + 1)))] [(.int (1 : Int32))]))
    refine gs (fun t => XS.ifNo X54.here hx rfl (hb hby at_205) rfl ((if0 _ _).trans (feq (by decide : ¬ ((1 : Int32) = (0 : Int32)))).1)) ?_
    show Go p e below s QQ room_1.cells room_1.slots (T54.setTop (mkF m 208 #[.val (.long p0), .second, .val (.long p1), .second, .val (.long p2), .second, .val (.long p3), .second, .val (.long p4), .second, .val (.int p5), .val (.ref b29), .val (.int (3 : Int32)), .val (.int (oI f)), .val (.ref b35), .val (.int (1 : Int32)), .val (.int (oI (0 + 1 + 1)))] []))
    refine gs (fun t => XS.iload X54.here hx rfl (hb hby at_208) rfl) ?_
    show Go p e below s QQ room_1.cells room_1.slots (T54.setTop (mkF m 210 #[.val (.long p0), .second, .val (.long p1), .second, .val (.long p2), .second, .val (.long p3), .second, .val (.long p4), .second, .val (.int p5), .val (.ref b29), .val (.int (3 : Int32)), .val (.int (oI f)), .val (.ref b35), .val (.int (1 : Int32)), .val (.int (oI (0 + 1 + 1)))] [(.int (oI (0 + 1 + 1)))]))
    refine gs (fun t => XS.iload X54.here hx rfl (hb hby at_210) rfl) ?_
    show Go p e below s QQ room_1.cells room_1.slots (T54.setTop (mkF m 212 #[.val (.long p0), .second, .val (.long p1), .second, .val (.long p2), .second, .val (.long p3), .second, .val (.long p4), .second, .val (.int p5), .val (.ref b29), .val (.int (3 : Int32)), .val (.int (oI f)), .val (.ref b35), .val (.int (1 : Int32)), .val (.int (oI (0 + 1 + 1)))] [(.int (3 : Int32)), (.int (oI (0 + 1 + 1)))]))
    refine gs (fun t => XS.iconst X54.here hx rfl (hb hby at_212)) ?_
    show Go p e below s QQ room_1.cells room_1.slots (T54.setTop (mkF m 213 #[.val (.long p0), .second, .val (.long p1), .second, .val (.long p2), .second, .val (.long p3), .second, .val (.long p4), .second, .val (.int p5), .val (.ref b29), .val (.int (3 : Int32)), .val (.int (oI f)), .val (.ref b35), .val (.int (1 : Int32)), .val (.int (oI (0 + 1 + 1)))] [(.int (1 : Int32)), (.int (3 : Int32)), (.int (oI (0 + 1 + 1)))]))
    refine gs (fun t => XS.isub X54.here hx rfl (hb hby at_213) rfl) ?_
    show Go p e below s QQ room_1.cells room_1.slots (T54.setTop (mkF m 214 #[.val (.long p0), .second, .val (.long p1), .second, .val (.long p2), .second, .val (.long p3), .second, .val (.long p4), .second, .val (.int p5), .val (.ref b29), .val (.int (3 : Int32)), .val (.int (oI f)), .val (.ref b35), .val (.int (1 : Int32)), .val (.int (oI (0 + 1 + 1)))] [(.int (2 : Int32)), (.int (oI (0 + 1 + 1)))]))
    refine gs (fun t => XS.icmpNo X54.here hx rfl (hb hby at_214) rfl (teq (by decide : (oI (0 + 1 + 1)) = (2 : Int32))).2) ?_
    show Go p e below s QQ room_1.cells room_1.slots (T54.setTop (mkF m 217 #[.val (.long p0), .second, .val (.long p1), .second, .val (.long p2), .second, .val (.long p3), .second, .val (.long p4), .second, .val (.int p5), .val (.ref b29), .val (.int (3 : Int32)), .val (.int (oI f)), .val (.ref b35), .val (.int (1 : Int32)), .val (.int (oI (0 + 1 + 1)))] []))
    refine gs (fun t => XS.aload X54.here hx rfl (hb hby at_217) rfl rfl) ?_
    show Go p e below s QQ room_1.cells room_1.slots (T54.setTop (mkF m 219 #[.val (.long p0), .second, .val (.long p1), .second, .val (.long p2), .second, .val (.long p3), .second, .val (.long p4), .second, .val (.int p5), .val (.ref b29), .val (.int (3 : Int32)), .val (.int (oI f)), .val (.ref b35), .val (.int (1 : Int32)), .val (.int (oI (0 + 1 + 1)))] [(.ref b35)]))
    refine gs (fun t => XS.iload X54.here hx rfl (hb hby at_219) rfl) ?_
    show Go p e below s QQ room_1.cells room_1.slots (T54.setTop (mkF m 221 #[.val (.long p0), .second, .val (.long p1), .second, .val (.long p2), .second, .val (.long p3), .second, .val (.long p4), .second, .val (.int p5), .val (.ref b29), .val (.int (3 : Int32)), .val (.int (oI f)), .val (.ref b35), .val (.int (1 : Int32)), .val (.int (oI (0 + 1 + 1)))] [(.int (oI (0 + 1 + 1))), (.ref b35)]))
    refine gs (fun t => XS.iload X54.here hx rfl (hb hby at_221) rfl) ?_
    show Go p e below s QQ room_1.cells room_1.slots (T54.setTop (mkF m 223 #[.val (.long p0), .second, .val (.long p1), .second, .val (.long p2), .second, .val (.long p3), .second, .val (.long p4), .second, .val (.int p5), .val (.ref b29), .val (.int (3 : Int32)), .val (.int (oI f)), .val (.ref b35), .val (.int (1 : Int32)), .val (.int (oI (0 + 1 + 1)))] [(.int (oI f)), (.int (oI (0 + 1 + 1))), (.ref b35)]))
    obtain ⟨cq55, kq55, q55a, q55b, q55c⟩ := isOf hZ rfl Ex_b35
    obtain ⟨_, _, ⟨T55, L55, k55, n55⟩, -, X55, ⟨Lc55, hQ55, l55, y55, z55⟩, st55⟩ := X54.virtualBack hx (y := (⟨"com/example/interval/interval/service/SlotTable", "get", "(II)J"⟩ : MethodName)) (z := (⟨"com/example/interval/interval/service/SlotTable", "get", "(II)J"⟩ : MethodName)) hown (mvT hZ (hw _ (List.mem_of_getElem? (i := 41) rfl))) (mvT hZ (hw _ (List.mem_of_getElem? (i := 42) rfl))) (notFace_of_selects (args := #[]) (mvT hZ (hw _ (List.mem_of_getElem? (i := 44) rfl)))) (mvT hZ (hw _ (List.mem_of_getElem? (i := 44) rfl))) (mvT hZ (hw _ (List.mem_of_getElem? (i := 43) rfl))) (by decide) (backOf (W := 0) (rm8 l Z a0 hw [] b35 (0 + 1 + 1) f pg pa (updv (fun _ => .null) 0 (.ref pa)) (own_add (own_add (own_add (own_add (fun _ => .long 0) 0 p0 p1 p2 p3 p4) (0 + 1) p1 p2 p3 p4 p0) (0 + 1 + 1) p2 p3 p4 p0 p1) (0 + 1 + 1) p4 p3 p2 p1 p0) (own_sel p4 p3 p2 p1 p0 f) T54.heap n0 ZZ Fp V_pg rfl V_pa (by decide) (by omega) (own_addeq _ (0 + 1 + 1) _ _ _ _ _ hf5)) hZ (hw _ (List.mem_of_getElem? (i := 45) rfl)) (hw _ (List.mem_of_getElem? (i := 4) rfl)) (by decide) (by decide)) q55a q55c (g := (mkF m 223 #[.val (.long p0), .second, .val (.long p1), .second, .val (.long p2), .second, .val (.long p3), .second, .val (.long p4), .second, .val (.int p5), .val (.ref b29), .val (.int (3 : Int32)), .val (.int (oI f)), .val (.ref b35), .val (.int (1 : Int32)), .val (.int (oI (0 + 1 + 1)))] [(.int (oI f)), (.int (oI (0 + 1 + 1))), (.ref b35)])) rfl (by rw [hml]; rfl) (Steps.refl _) (argsL := [(.int (oI (0 + 1 + 1))), (.int (oI f))]) (rest := []) (lenOf pd_5 rfl) rfl (by show 2 * 0 + _ ≤ _; exact Nat.le_of_eq rfl) (hb hby at_223) (fun _ _ => ⟨rfl, rfl, (by decide : 4 + 0 ≤ _), (by decide : 48 + 0 ≤ _)⟩)
    dsimp only [Pt.U, Pt.locs, Pt.cells, Pt.slots] at X55 l55 y55 z55 st55 hQ55
    subst l55 y55 z55
    obtain ⟨rfl, N55q, e55⟩ := hQ55
    replace N0 := Fr.app N0 N55q
    refine gt st55 ?_
    show Go p e below s QQ room_1.cells room_1.slots (T55.setTop (mkF m 226 #[.val (.long p0), .second, .val (.long p1), .second, .val (.long p2), .second, .val (.long p3), .second, .val (.long p4), .second, .val (.int p5), .val (.ref b29), .val (.int (3 : Int32)), .val (.int (oI f)), .val (.ref b35), .val (.int (1 : Int32)), .val (.int (oI (0 + 1 + 1)))] [(.long (own_sel p4 p3 p2 p1 p0 f))]))
    refine gs (fun t => XS.aload X55.here hx rfl (hb hby at_226) rfl rfl) ?_
    show Go p e below s QQ room_1.cells room_1.slots (T55.setTop (mkF m 228 #[.val (.long p0), .second, .val (.long p1), .second, .val (.long p2), .second, .val (.long p3), .second, .val (.long p4), .second, .val (.int p5), .val (.ref b29), .val (.int (3 : Int32)), .val (.int (oI f)), .val (.ref b35), .val (.int (1 : Int32)), .val (.int (oI (0 + 1 + 1)))] [(.ref b29), (.long (own_sel p4 p3 p2 p1 p0 f))]))
    refine gs (fun t => XS.iconst X55.here hx rfl (hb hby at_228)) ?_
    show Go p e below s QQ room_1.cells room_1.slots (T55.setTop (mkF m 229 #[.val (.long p0), .second, .val (.long p1), .second, .val (.long p2), .second, .val (.long p3), .second, .val (.long p4), .second, .val (.int p5), .val (.ref b29), .val (.int (3 : Int32)), .val (.int (oI f)), .val (.ref b35), .val (.int (1 : Int32)), .val (.int (oI (0 + 1 + 1)))] [(.int (4 : Int32)), (.ref b29), (.long (own_sel p4 p3 p2 p1 p0 f))]))
    refine gs (fun t => XS.iload X55.here hx rfl (hb hby at_229) rfl) ?_
    show Go p e below s QQ room_1.cells room_1.slots (T55.setTop (mkF m 231 #[.val (.long p0), .second, .val (.long p1), .second, .val (.long p2), .second, .val (.long p3), .second, .val (.long p4), .second, .val (.int p5), .val (.ref b29), .val (.int (3 : Int32)), .val (.int (oI f)), .val (.ref b35), .val (.int (1 : Int32)), .val (.int (oI (0 + 1 + 1)))] [(.int (oI f)), (.int (4 : Int32)), (.ref b29), (.long (own_sel p4 p3 p2 p1 p0 f))]))
    refine gs (fun t => XS.isub X55.here hx rfl (hb hby at_231) rfl) ?_
    show Go p e below s QQ room_1.cells room_1.slots (T55.setTop (mkF m 232 #[.val (.long p0), .second, .val (.long p1), .second, .val (.long p2), .second, .val (.long p3), .second, .val (.long p4), .second, .val (.int p5), .val (.ref b29), .val (.int (3 : Int32)), .val (.int (oI f)), .val (.ref b35), .val (.int (1 : Int32)), .val (.int (oI (0 + 1 + 1)))] [(.int ((4 : Int32) - (oI f))), (.ref b29), (.long (own_sel p4 p3 p2 p1 p0 f))]))
    rw [show ((4 : Int32) - (oI f)) = (oI (4 - f)) from own_4f hf5]
    show Go p e below s QQ room_1.cells room_1.slots (T55.setTop (mkF m 232 #[.val (.long p0), .second, .val (.long p1), .second, .val (.long p2), .second, .val (.long p3), .second, .val (.long p4), .second, .val (.int p5), .val (.ref b29), .val (.int (3 : Int32)), .val (.int (oI f)), .val (.ref b35), .val (.int (1 : Int32)), .val (.int (oI (0 + 1 + 1)))] [(.int (oI (4 - f))), (.ref b29), (.long (own_sel p4 p3 p2 p1 p0 f))]))
    refine gs (fun t => ldJf X55 hx hZ e55 V_b29 (j := (oI (4 - f))) (v := (.long (own_sel p0 p1 p2 p3 p4 (4 - f)))) (own_oin (by omega) (by decide)) (by rw [oI_c (by omega)]) (g := (mkF m 232 #[.val (.long p0), .second, .val (.long p1), .second, .val (.long p2), .second, .val (.long p3), .second, .val (.long p4), .second, .val (.int p5), .val (.ref b29), .val (.int (3 : Int32)), .val (.int (oI f)), .val (.ref b35), .val (.int (1 : Int32)), .val (.int (oI (0 + 1 + 1)))] [(.int (oI (4 - f))), (.ref b29), (.long (own_sel p4 p3 p2 p1 p0 f))])) rfl rfl (hb hby at_232) t) ?_
    show Go p e below s QQ room_1.cells room_1.slots (T55.setTop (mkF m 233 #[.val (.long p0), .second, .val (.long p1), .second, .val (.long p2), .second, .val (.long p3), .second, .val (.long p4), .second, .val (.int p5), .val (.ref b29), .val (.int (3 : Int32)), .val (.int (oI f)), .val (.ref b35), .val (.int (1 : Int32)), .val (.int (oI (0 + 1 + 1)))] [(.long (own_sel p0 p1 p2 p3 p4 (4 - f))), (.long (own_sel p4 p3 p2 p1 p0 f))]))
    refine gs (fun t => XS.lcmp X55.here hx rfl (hb hby at_233) rfl) ?_
    show Go p e below s QQ room_1.cells room_1.slots (T55.setTop (mkF m 234 #[.val (.long p0), .second, .val (.long p1), .second, .val (.long p2), .second, .val (.long p3), .second, .val (.long p4), .second, .val (.int p5), .val (.ref b29), .val (.int (3 : Int32)), .val (.int (oI f)), .val (.ref b35), .val (.int (1 : Int32)), .val (.int (oI (0 + 1 + 1)))] [(.int (lcmpW (own_sel p4 p3 p2 p1 p0 f) (own_sel p0 p1 p2 p3 p4 (4 - f))))]))
    refine gs (fun t => XS.ifNo X55.here hx rfl (hb hby at_234) rfl ((if0 _ _).trans (teq ((lw_eq _ _).mpr (by rcases own_5 hf5 with rfl | rfl | rfl | rfl | rfl <;> rfl) : (lcmpW (own_sel p4 p3 p2 p1 p0 f) (own_sel p0 p1 p2 p3 p4 (4 - f))) = (0 : Int32))).2)) ?_
    show Go p e below s QQ room_1.cells room_1.slots (T55.setTop (mkF m 237 #[.val (.long p0), .second, .val (.long p1), .second, .val (.long p2), .second, .val (.long p3), .second, .val (.long p4), .second, .val (.int p5), .val (.ref b29), .val (.int (3 : Int32)), .val (.int (oI f)), .val (.ref b35), .val (.int (1 : Int32)), .val (.int (oI (0 + 1 + 1)))] []))
    refine gs (fun t => XS.iconst X55.here hx rfl (hb hby at_237)) ?_
    show Go p e below s QQ room_1.cells room_1.slots (T55.setTop (mkF m 238 #[.val (.long p0), .second, .val (.long p1), .second, .val (.long p2), .second, .val (.long p3), .second, .val (.long p4), .second, .val (.int p5), .val (.ref b29), .val (.int (3 : Int32)), .val (.int (oI f)), .val (.ref b35), .val (.int (1 : Int32)), .val (.int (oI (0 + 1 + 1)))] [(.int (1 : Int32))]))
    refine gs (fun t => XS.goto X55.here hx rfl (pc0 := 238) (pc' := 242) rfl (hb hby at_238) (by decide) (by decide)) ?_
    show Go p e below s QQ room_1.cells room_1.slots (T55.setTop (mkF m 242 #[.val (.long p0), .second, .val (.long p1), .second, .val (.long p2), .second, .val (.long p3), .second, .val (.long p4), .second, .val (.int p5), .val (.ref b29), .val (.int (3 : Int32)), .val (.int (oI f)), .val (.ref b35), .val (.int (1 : Int32)), .val (.int (oI (0 + 1 + 1)))] [(.int (1 : Int32))]))
    refine gs (fun t => XS.istore X55.here hx rfl (hb hby at_242) rfl (l' := #[.val (.long p0), .second, .val (.long p1), .second, .val (.long p2), .second, .val (.long p3), .second, .val (.long p4), .second, .val (.int p5), .val (.ref b29), .val (.int (3 : Int32)), .val (.int (oI f)), .val (.ref b35), .val (.int (1 : Int32)), .val (.int (oI (0 + 1 + 1)))]) rfl) ?_
    show Go p e below s QQ room_1.cells room_1.slots (T55.setTop (mkF m 244 #[.val (.long p0), .second, .val (.long p1), .second, .val (.long p2), .second, .val (.long p3), .second, .val (.long p4), .second, .val (.int p5), .val (.ref b29), .val (.int (3 : Int32)), .val (.int (oI f)), .val (.ref b35), .val (.int (1 : Int32)), .val (.int (oI (0 + 1 + 1)))] []))
    refine gs (fun t => XS.iload X55.here hx rfl (hb hby at_244) rfl) ?_
    show Go p e below s QQ room_1.cells room_1.slots (T55.setTop (mkF m 246 #[.val (.long p0), .second, .val (.long p1), .second, .val (.long p2), .second, .val (.long p3), .second, .val (.long p4), .second, .val (.int p5), .val (.ref b29), .val (.int (3 : Int32)), .val (.int (oI f)), .val (.ref b35), .val (.int (1 : Int32)), .val (.int (oI (0 + 1 + 1)))] [(.int (1 : Int32))]))
    exact goB X55 hx Bd.notSynchronized Bd.returns (by simp) (w := (1 : Int32)) (by first | rfl | decide) (hb hby at_246) (by rw [← hQQ, e55]; exact ⟨rfl, N0⟩) (by decide) (by decide)
set_option maxRecDepth 65536 in
set_option maxHeartbeats 40000000 in
theorem comes_1 {Post : Tables → Env → Array Value → State → Outcome → State → Prop} (hpost : ∀ tb e args s v u, (limb_1_1.after args s (.returned v) u = true ∧ limb_1_2.after args s (.returned v) u = true ∧ True) → FrameEnd s (.returned v) u (Jvm.fieldLocs frame_1_writes args s ++ Jvm.arrayLocs frame_1_arrays args s ++ Jvm.staticLocs frame_1_statics s) 16 192 → Post tb e args s (.returned v) u) :
    ArmFor flags0 classFile x code maxLocals ret World_1 tables_1 room_1 Calls_1 rest_1 Pre_1 Post := by
  intro l hfl _ _ p e ha hc hk s m args below hf hA hF happ hP
  obtain ⟨hcalls, hrest, hpre⟩ := hP
  obtain ⟨-, -, -, hnamed, -, -, -, hat⟩ := (Spec.applies_iff hf).mp happ
  obtain ⟨hg, hn⟩ := and_e (Cond.before_iff.mp (show (Jvm.Cond.and given_1 narrow_1).before args s = true from hpre))
  obtain ⟨gc, hg0⟩ := and_e hg
  obtain ⟨w0, w1, w2, w3, w4, w5, rfl⟩ : ∃ w0 w1 w2 w3 w4 w5 : Value, args = #[w0, w1, w2, w3, w4, w5] := by
    have hs : args.size = 6 := by simpa [Cond.value, given_1] using gc
    obtain ⟨L⟩ := args
    match L, hs with
    | [w0, w1, w2, w3, w4, w5], _ => exact ⟨w0, w1, w2, w3, w4, w5, rfl⟩
  obtain ⟨ga0, hg1⟩ := and_e hg0
  obtain ⟨i0, ei0⟩ := isL_v ga0
  obtain rfl : w0 = (.long i0) := Option.some.inj ei0
  obtain ⟨ga1, hg2⟩ := and_e hg1
  obtain ⟨i1, ei1⟩ := isL_v ga1
  obtain rfl : w1 = (.long i1) := Option.some.inj ei1
  obtain ⟨ga2, hg3⟩ := and_e hg2
  obtain ⟨i2, ei2⟩ := isL_v ga2
  obtain rfl : w2 = (.long i2) := Option.some.inj ei2
  obtain ⟨ga3, hg4⟩ := and_e hg3
  obtain ⟨i3, ei3⟩ := isL_v ga3
  obtain rfl : w3 = (.long i3) := Option.some.inj ei3
  obtain ⟨ga4, hg5⟩ := and_e hg4
  obtain ⟨i4, ei4⟩ := isL_v ga4
  obtain rfl : w4 = (.long i4) := Option.some.inj ei4
  obtain ⟨i5, ei5⟩ := is_v hg5
  obtain rfl : w5 = (.int i5) := Option.some.inj ei5
  have hw := fun d (hd : d ∈ tables_1) => atoms_spec (ws := Jvm.Cond.code x code maxLocals ret :: tables_1) hat d (List.mem_cons_of_mem _ hd)
  have hfit : Fit s := fun {y c} hc i hi => by
    obtain ⟨ha, rfl⟩ := Array.getElem?_eq_some_iff.mp hc
    have q := List.all_eq_true.mp ((Array.all_eq_true_iff_forall_mem.mp hF) _ (Array.getElem_mem ha)) i (List.mem_range.mpr hi)
    simpa [Array.getElem?_eq_getElem hi] using q
  obtain ⟨n, o, h1, h2, h3, _, L, rfl, ⟨rfl, N⟩, hq⟩ := rm0 l s _ hw tables_1 i0 i1 i2 i3 i4 i5 s.heap s.heap.size (Nat.le_refl _)  p e ha hc hk s m _ below hf ((Spec.applies_iff_loose hf).mp happ).1 ⟨rfl, State.Warmed39.refl s, rfl⟩ trivial
  refine ⟨n, _, h1, h2, h3, hpost _ _ _ _ _ _ ⟨Cond.after_iff.mpr rfl, Cond.after_iff.mpr (eq_i res_at (Term.int_eval (1)) rfl), trivial⟩ ⟨hq.1, hq.2.1, (hq.2.2.sift fun y hy => Or.inr (N y hy)).mono (by decide) (by decide)⟩⟩
theorem main_1_1 : Claimed_1_1 := comes_1 fun _ _ _ _ _ _ h hF => ⟨h.1, hF⟩
theorem main_1_2 : Claimed_1_2 := comes_1 fun _ _ _ _ _ _ h hF => ⟨h.2.1, hF⟩
end Jvm.Pilot.@@N@@
namespace Jvm.Pilot.@@N@@
open Jvm Jvm.ClassFile Sem Op Lib Jvm.Free Jvm.Stand Jvm.Pilot.@@N@@.Jvm.D
/-! MADE BY PROGRAM (witnessworld.py) out of the Statement's table words and the real class files: 11 classes; the members and pool entries that the words name. The judged class is class 1, her method 1. -/
namespace start1
open Jvm.ClassFile
def u (s : String) : CpInfo := .utf8 (stringToUtf16 s)
/-- a pool by its gaps: so many unusable entries, then the entry; so many at the end -/
def gap : Nat → List CpInfo → List CpInfo
  | 0, r => r
  | n + 1, r => .unusable :: gap n r
def poolList (es : List (Nat × CpInfo)) (last : Nat) : List CpInfo := es.foldr (fun e r => gap e.1 (e.2 :: r)) (gap last [])
def pool (es : List (Nat × CpInfo)) (last : Nat) : Array CpInfo := ⟨poolList es last⟩
def fileOf (pool : Array CpInfo) (this : Nat) (attrs : Array Attribute := #[]) (ms : Array MethodInfo := #[]) (fl : Nat := 33) (sup : Nat := 0) (ifs : Array Nat := #[]) (fds : Array FieldInfo := #[]) : ClassFile where
  minorVersion := 0
  majorVersion := 65
  constantPool := pool
  accessFlags := fl
  thisClass := this
  superClass := sup
  interfaces := ifs
  fields := fds
  methods := ms
  attributes := attrs
def plain (name : String) (sup : Option ClassId) : Class where
  name := name
  kind := .ordinary
  loader := none
  accessFlags := 33
  super := sup
  interfaces := #[]
  cf := none
  fields := #[]
  methods := #[]
  instanceTypes := #[]
  staticTypes := #[]
  resolved := #[]
  callSites := []
  init := .initialized
  statics := none
  mirror := none

def pool0 : Array CpInfo := pool [(5, u "<init>"), (0, u "()V"), (1, .class_ 10), (1, u "java/lang/Object")] 113

def k0c0 : Code := { maxStack := 0, maxLocals := 1, code := object_method_1_code, exceptionTable := #[], attributes := #[] }
def k0m0 : Method := { name := "<init>", desc := "()V", sig := { parameters := [], returnType := none }, accessFlags := 1, code := some k0c0 }
/-- java/lang/Object -/
def k0 : Class := { plain "java/lang/Object" none with
  accessFlags := 33
  interfaces := #[]
  cf := some (fileOf pool0 8 #[] #[{ accessFlags := 1, nameIndex := 5, descriptorIndex := 6, attributes := #[] }] 33 0 #[] #[])
  fields := #[]
  methods := #[k0m0]
  instanceTypes := #[]
  staticTypes := #[]
  resolved := Array.replicate 124 none
  statics := none }

def pool1 : Array CpInfo := pool [(2, .class_ 4), (0, .nameAndType 5 6), (0, u "java/lang/Object"), (0, u "<init>"), (0, u "()V"), (0, .integer 2147483647), (0, .class_ 9), (0, u "com/example/interval/interval/service/SlotTable"), (0, .methodref 8 3), (0, .methodref 8 12), (0, .nameAndType 13 14), (0, u "add"), (0, u "(JJJJJ)I"), (0, .methodref 8 16), (0, .nameAndType 17 6), (0, u "removeLast"), (0, .methodref 8 19), (0, .nameAndType 20 21), (0, u "size"), (0, u "()I"), (0, .methodref 8 23), (0, .nameAndType 24 25), (0, u "get"), (0, u "(II)J"), (0, .class_ 27), (0, u "com/example/interval/interval/service/SlotTableRemoveLastPinLaw"), (2, u "law"), (0, u "(JJJJJI)Z")] 5

def k1m0 : Method := { name := "<init>", desc := "()V", sig := { parameters := [], returnType := none }, accessFlags := 2, code := none }
def k1c1 : Code := { maxStack := 11, maxLocals := 17, code := code, exceptionTable := #[], attributes := #[] }
def k1m1 : Method := { name := "law", desc := "(JJJJJI)Z", sig := { parameters := [.long, .long, .long, .long, .long, .int], returnType := some .boolean }, accessFlags := 9, code := some k1c1 }
/-- com/example/interval/interval/service/SlotTableRemoveLastPinLaw -/
def k1 : Class := { plain "com/example/interval/interval/service/SlotTableRemoveLastPinLaw" (some 0) with
  accessFlags := 49
  interfaces := #[]
  cf := some (fileOf pool1 26 #[] #[{ accessFlags := 2, nameIndex := 5, descriptorIndex := 6, attributes := #[] }, { accessFlags := 9, nameIndex := 30, descriptorIndex := 31, attributes := #[] }] 49 2 #[] #[])
  fields := #[]
  methods := #[k1m0, k1m1]
  instanceTypes := #[]
  staticTypes := #[]
  resolved := Array.replicate 37 none
  statics := none }

def pool2 : Array CpInfo := pool [(1, .class_ 2), (0, u "com/example/interval/interval/service/SlotTable"), (0, .methodref 4 5), (0, .class_ 6), (0, .nameAndType 7 8), (0, u "java/lang/Object"), (0, u "<init>"), (0, u "()V"), (0, .class_ 10), (0, u "[J"), (0, .fieldref 1 12), (0, .nameAndType 13 14), (0, u "pages"), (0, u "[[J"), (0, .fieldref 1 16), (0, .nameAndType 17 18), (0, u "size"), (0, u "I"), (0, .methodref 1 20), (0, .nameAndType 21 22), (0, u "offset"), (0, u "(I)I"), (16, .methodref 1 40), (0, .nameAndType 41 42), (0, u "set"), (0, u "(IIJ)V"), (6, u "SEQUENCE"), (2, u "DUE_AT"), (1, u "LOCATION"), (1, u "LEASED_UNTIL"), (1, u "ATTEMPTS"), (1, u "FIELDS"), (1, u "PAGE_BITS"), (1, u "PAGE_ROWS"), (1, u "FIRST_ROWS"), (3, u "()I"), (0, u "get"), (0, u "(II)J"), (0, u "add"), (0, u "(JJJJJ)I"), (3, u "removeLast")] 2

def k2c0 : Code := { maxStack := 5, maxLocals := 1, code := prog_27_method_1_code, exceptionTable := #[], attributes := #[] }
def k2m0 : Method := { name := "<init>", desc := "()V", sig := { parameters := [], returnType := none }, accessFlags := 0, code := some k2c0 }
def k2c1 : Code := { maxStack := 1, maxLocals := 1, code := prog_27_method_2_code, exceptionTable := #[], attributes := #[] }
def k2m1 : Method := { name := "size", desc := "()I", sig := { parameters := [], returnType := some .int }, accessFlags := 0, code := some k2c1 }
def k2c2 : Code := { maxStack := 3, maxLocals := 3, code := prog_27_method_3_code, exceptionTable := #[], attributes := #[] }
def k2m2 : Method := { name := "get", desc := "(II)J", sig := { parameters := [.int, .int], returnType := some .long }, accessFlags := 0, code := some k2c2 }
def k2c3 : Code := { maxStack := 4, maxLocals := 5, code := prog_27_method_4_code, exceptionTable := #[], attributes := #[] }
def k2m3 : Method := { name := "set", desc := "(IIJ)V", sig := { parameters := [.int, .int, .long], returnType := none }, accessFlags := 0, code := some k2c3 }
def k2c4 : Code := { maxStack := 6, maxLocals := 14, code := prog_27_method_5_code, exceptionTable := #[], attributes := #[] }
def k2m4 : Method := { name := "add", desc := "(JJJJJ)I", sig := { parameters := [.long, .long, .long, .long, .long], returnType := some .int }, accessFlags := 0, code := some k2c4 }
def k2c5 : Code := { maxStack := 3, maxLocals := 2, code := prog_27_method_7_code, exceptionTable := #[], attributes := #[] }
def k2m5 : Method := { name := "removeLast", desc := "()V", sig := { parameters := [], returnType := none }, accessFlags := 0, code := some k2c5 }
def k2c6 : Code := { maxStack := 2, maxLocals := 1, code := prog_27_method_8_code, exceptionTable := #[], attributes := #[] }
def k2m6 : Method := { name := "offset", desc := "(I)I", sig := { parameters := [.int], returnType := some .int }, accessFlags := 10, code := some k2c6 }
/-- com/example/interval/interval/service/SlotTable -/
def k2 : Class := { plain "com/example/interval/interval/service/SlotTable" (some 0) with
  accessFlags := 48
  interfaces := #[]
  cf := some (fileOf pool2 1 #[] #[{ accessFlags := 0, nameIndex := 7, descriptorIndex := 8, attributes := #[] }, { accessFlags := 0, nameIndex := 17, descriptorIndex := 70, attributes := #[] }, { accessFlags := 0, nameIndex := 71, descriptorIndex := 72, attributes := #[] }, { accessFlags := 0, nameIndex := 41, descriptorIndex := 42, attributes := #[] }, { accessFlags := 0, nameIndex := 73, descriptorIndex := 74, attributes := #[] }, { accessFlags := 0, nameIndex := 78, descriptorIndex := 8, attributes := #[] }, { accessFlags := 10, nameIndex := 21, descriptorIndex := 22, attributes := #[] }] 48 4 #[] #[{ accessFlags := 24, nameIndex := 49, descriptorIndex := 18, attributes := #[] }, { accessFlags := 24, nameIndex := 52, descriptorIndex := 18, attributes := #[] }, { accessFlags := 24, nameIndex := 54, descriptorIndex := 18, attributes := #[] }, { accessFlags := 24, nameIndex := 56, descriptorIndex := 18, attributes := #[] }, { accessFlags := 24, nameIndex := 58, descriptorIndex := 18, attributes := #[] }, { accessFlags := 26, nameIndex := 60, descriptorIndex := 18, attributes := #[] }, { accessFlags := 26, nameIndex := 62, descriptorIndex := 18, attributes := #[] }, { accessFlags := 26, nameIndex := 64, descriptorIndex := 18, attributes := #[] }, { accessFlags := 26, nameIndex := 66, descriptorIndex := 18, attributes := #[] }, { accessFlags := 2, nameIndex := 13, descriptorIndex := 14, attributes := #[] }, { accessFlags := 2, nameIndex := 17, descriptorIndex := 18, attributes := #[] }])
  fields := #[{ name := "SEQUENCE", type := .int, accessFlags := 24, slot := 0, constantValue := 0 }, { name := "DUE_AT", type := .int, accessFlags := 24, slot := 1, constantValue := 0 }, { name := "LOCATION", type := .int, accessFlags := 24, slot := 2, constantValue := 0 }, { name := "LEASED_UNTIL", type := .int, accessFlags := 24, slot := 3, constantValue := 0 }, { name := "ATTEMPTS", type := .int, accessFlags := 24, slot := 4, constantValue := 0 }, { name := "FIELDS", type := .int, accessFlags := 26, slot := 5, constantValue := 0 }, { name := "PAGE_BITS", type := .int, accessFlags := 26, slot := 6, constantValue := 0 }, { name := "PAGE_ROWS", type := .int, accessFlags := 26, slot := 7, constantValue := 0 }, { name := "FIRST_ROWS", type := .int, accessFlags := 26, slot := 8, constantValue := 0 }, { name := "pages", type := (.array (.array .long)), accessFlags := 2, slot := 0, constantValue := 0 }, { name := "size", type := .int, accessFlags := 2, slot := 1, constantValue := 0 }]
  methods := #[k2m0, k2m1, k2m2, k2m3, k2m4, k2m5, k2m6]
  instanceTypes := #[(.array (.array .long)), .int]
  staticTypes := #[.int, .int, .int, .int, .int, .int, .int, .int, .int]
  resolved := Array.replicate 81 none
  statics := none }

def pool3 : Array CpInfo := pool [(1, u "java/lang/Cloneable"), (0, .class_ 1), (0, u "java/lang/Object"), (0, .class_ 3)] 3

/-- java/lang/Cloneable -/
def k3 : Class := { plain "java/lang/Cloneable" (some 0) with
  accessFlags := 1537
  interfaces := #[]
  cf := some (fileOf pool3 2 #[] #[] 1537 4 #[] #[])
  fields := #[]
  methods := #[]
  instanceTypes := #[]
  staticTypes := #[]
  resolved := Array.replicate 8 none
  statics := none }

def pool4 : Array CpInfo := pool [(1, u "java/io/Serializable"), (0, .class_ 1), (0, u "java/lang/Object"), (0, .class_ 3)] 3

/-- java/io/Serializable -/
def k4 : Class := { plain "java/io/Serializable" (some 0) with
  accessFlags := 1537
  interfaces := #[]
  cf := some (fileOf pool4 2 #[] #[] 1537 4 #[] #[])
  fields := #[]
  methods := #[]
  instanceTypes := #[]
  staticTypes := #[]
  resolved := Array.replicate 8 none
  statics := none }

/-- the primitive byte -/
def k5 : Class := { plain "byte" none with kind := .primitive 'B', accessFlags := 0x411 }
/-- [B -/
def k6 : Class := { plain "[B" (some 0) with kind := .array 5 .byte, interfaces := #[3, 4], accessFlags := 1041 }

/-- the primitive int -/
def k7 : Class := { plain "int" none with kind := .primitive 'I', accessFlags := 0x411 }
/-- [I -/
def k8 : Class := { plain "[I" (some 0) with kind := .array 7 .int, interfaces := #[3, 4], accessFlags := 1041 }

/-- the primitive long -/
def k9 : Class := { plain "long" none with kind := .primitive 'J', accessFlags := 0x411 }
/-- [J -/
def k10 : Class := { plain "[J" (some 0) with kind := .array 9 .long, interfaces := #[3, 4], accessFlags := 1041 }

def heap : Heap := #[]
def k11 : Class := { plain "[[J" (some 0) with kind := .array 10 (.array .long), interfaces := #[3, 4], accessFlags := 1041 }
def classes : Array Class := #[k0, k1, k2, k3, k4, k5, k6, k7, k8, k9, k10, k11]
def interned : List (Array UInt16 × Addr) := []
def slotsUsed : Nat := 0
def theMethod : MethodId := ⟨1, 1⟩
def args0 : Array Value := #[.long 1, .long 2, .long 3, .long 4, .long 5, .int 5]
def aboutOver (below : List Frame) : State where
  vm := { classes := classes, interned := interned.toArray }
  heap := heap
  slotsUsed := slotsUsed
  threads := #[{ frames := .invoking theMethod args0 :: below }]
def below0 : List Frame := [.native { method := ⟨0, 0⟩, args := #[] }]
def about1 : State := aboutOver below0
def p0 : Program := .bare "" "" ""
def e0 : Env := launch0.env 0 0 0
theorem w_frames : about1.frames = Frame.invoking theMethod args0 :: below0 := rfl
set_option maxRecDepth 65536 in
theorem w_args : argsFit about1.vm theMethod args0 = true := by decide +kernel
set_option maxRecDepth 65536 in
theorem w_heap : heapFits about1 = true := by decide +kernel
set_option maxRecDepth 65536 in
theorem w_runnable : about1.curStatus? = some .runnable := by decide +kernel
set_option maxRecDepth 65536 in
theorem w_alone : about1.alone = true := by decide +kernel
set_option maxRecDepth 65536 in
theorem w_named : about1.methodNamed? x = some theMethod := by decide +kernel
set_option maxRecDepth 65536 in
theorem w_hears : about1.hears theMethod below0 = true := by decide +kernel
set_option maxRecDepth 65536 in
theorem w_ripe : about1.ripe theMethod args0 below0 = true := by decide +kernel
theorem w_running : about1.status = .running := rfl
set_option maxRecDepth 65536 in
theorem w_room : about1.hasRoom e0.platform room_1 = true :=
  launch0.hasRoom_least _ room_1 (by decide +kernel) (by decide +kernel) (by decide +kernel) (by decide +kernel) (by decide +kernel) (by decide +kernel)
theorem allAtoms_all (ts : List Jvm.Cond) (a : Array Jvm.Value) (st : Jvm.State) : (allAtoms ts).before a st = ts.all (fun c => c.before a st) := by
  induction ts with
  | nil => rfl
  | cons c t ih =>
    show (Jvm.Cond.and c (allAtoms t)).before a st = _
    rw [Jvm.Cond.before_and, ih, List.all_cons]
def words1 : List Jvm.Cond := Jvm.Cond.code x code maxLocals ret :: tables_1
/-- a 'code' word, met by the world's own term for the bytes: nothing is compared byte by byte -/
theorem code_word {y : MethodName} {bytes : ByteArray} {mx : Nat} {rt : Option FieldType} {a : Array Value} {s : State} {m : MethodId} {meth : Method} {c : Code} (h1 : s.methodNamed? y = some m) (h2 : s.vm.method? m = some meth) (h3 : meth.code = some c) (h4 : c.code = bytes)
    (h5 : (c.maxLocals == mx && c.exceptionTable.isEmpty && decide (c.maxStack ≤ mostOperands) && decide (meth.sig.returnType = rt) && !meth.locks && decide (parseMethodDescriptor y.desc = some meth.sig)) = true) : (Jvm.Cond.code y bytes mx rt).before a s = true := by
  simp only [Bool.and_eq_true, beq_iff_eq, Bool.not_eq_true', decide_eq_true_eq] at h5
  obtain ⟨⟨⟨⟨⟨g1, g2⟩, g3⟩, g4⟩, g5⟩, g6⟩ := h5
  simp [Cond.before, Cond.holds, Cond.value, h1, h2, h3, h4, g1, g2, g3, g4, g5, g6]
def isCode : Jvm.Cond → Bool
  | .code _ _ _ _ => true
  | _ => false
theorem all_split {L : List Jvm.Cond} {P : Jvm.Cond → Bool} (h1 : L.all (fun c => isCode c || P c) = true) (h2 : ∀ c ∈ L.filter isCode, P c = true) : L.all P = true := by
  refine List.all_eq_true.mpr fun c hc => ?_
  have h := List.all_eq_true.mp h1 c hc
  rcases Bool.eq_false_or_eq_true (isCode c) with hi | hi
  · exact h2 c (List.mem_filter.mpr ⟨hc, hi⟩)
  · simpa [hi] using h
set_option maxRecDepth 65536 in
theorem w_c0 : (Jvm.Cond.code x code maxLocals ret).before args0 about1 = true := code_word (m := ⟨1, 1⟩) (meth := k1m1) (c := k1c1) (by decide +kernel) rfl rfl rfl (by decide +kernel)
set_option maxRecDepth 65536 in
theorem w_c1 : (Jvm.Cond.code ({ cls := "com/example/interval/interval/service/SlotTable", name := "<init>", desc := "()V" } : Jvm.MethodName) prog_27_method_1_code (1 : Nat) (Option.none : Option Jvm.ClassFile.FieldType)).before args0 about1 = true := code_word (m := ⟨2, 0⟩) (meth := k2m0) (c := k2c0) (by decide +kernel) rfl rfl rfl (by decide +kernel)
set_option maxRecDepth 65536 in
theorem w_c2 : (Jvm.Cond.code ({ cls := "java/lang/Object", name := "<init>", desc := "()V" } : Jvm.MethodName) object_method_1_code (1 : Nat) (Option.none : Option Jvm.ClassFile.FieldType)).before args0 about1 = true := code_word (m := ⟨0, 0⟩) (meth := k0m0) (c := k0c0) (by decide +kernel) rfl rfl rfl (by decide +kernel)
set_option maxRecDepth 65536 in
theorem w_c3 : (Jvm.Cond.code ({ cls := "com/example/interval/interval/service/SlotTable", name := "add", desc := "(JJJJJ)I" } : Jvm.MethodName) prog_27_method_5_code (14 : Nat) (Option.some Jvm.ClassFile.FieldType.int)).before args0 about1 = true := code_word (m := ⟨2, 4⟩) (meth := k2m4) (c := k2c4) (by decide +kernel) rfl rfl rfl (by decide +kernel)
set_option maxRecDepth 65536 in
theorem w_c4 : (Jvm.Cond.code ({ cls := "com/example/interval/interval/service/SlotTable", name := "offset", desc := "(I)I" } : Jvm.MethodName) prog_27_method_8_code (1 : Nat) (Option.some Jvm.ClassFile.FieldType.int)).before args0 about1 = true := code_word (m := ⟨2, 6⟩) (meth := k2m6) (c := k2c6) (by decide +kernel) rfl rfl rfl (by decide +kernel)
set_option maxRecDepth 65536 in
theorem w_c5 : (Jvm.Cond.code ({ cls := "com/example/interval/interval/service/SlotTable", name := "set", desc := "(IIJ)V" } : Jvm.MethodName) prog_27_method_4_code (5 : Nat) (Option.none : Option Jvm.ClassFile.FieldType)).before args0 about1 = true := code_word (m := ⟨2, 3⟩) (meth := k2m3) (c := k2c3) (by decide +kernel) rfl rfl rfl (by decide +kernel)
set_option maxRecDepth 65536 in
theorem w_c6 : (Jvm.Cond.code ({ cls := "com/example/interval/interval/service/SlotTable", name := "removeLast", desc := "()V" } : Jvm.MethodName) prog_27_method_7_code (2 : Nat) (Option.none : Option Jvm.ClassFile.FieldType)).before args0 about1 = true := code_word (m := ⟨2, 5⟩) (meth := k2m5) (c := k2c5) (by decide +kernel) rfl rfl rfl (by decide +kernel)
set_option maxRecDepth 65536 in
theorem w_c7 : (Jvm.Cond.code ({ cls := "com/example/interval/interval/service/SlotTable", name := "size", desc := "()I" } : Jvm.MethodName) prog_27_method_2_code (1 : Nat) (Option.some Jvm.ClassFile.FieldType.int)).before args0 about1 = true := code_word (m := ⟨2, 1⟩) (meth := k2m1) (c := k2c1) (by decide +kernel) rfl rfl rfl (by decide +kernel)
set_option maxRecDepth 65536 in
theorem w_c8 : (Jvm.Cond.code ({ cls := "com/example/interval/interval/service/SlotTable", name := "get", desc := "(II)J" } : Jvm.MethodName) prog_27_method_3_code (3 : Nat) (Option.some Jvm.ClassFile.FieldType.long)).before args0 about1 = true := code_word (m := ⟨2, 2⟩) (meth := k2m2) (c := k2c2) (by decide +kernel) rfl rfl rfl (by decide +kernel)
def codes1 : List Jvm.Cond := [Jvm.Cond.code x code maxLocals ret, Jvm.Cond.code ({ cls := "com/example/interval/interval/service/SlotTable", name := "<init>", desc := "()V" } : Jvm.MethodName) prog_27_method_1_code (1 : Nat) (Option.none : Option Jvm.ClassFile.FieldType), Jvm.Cond.code ({ cls := "java/lang/Object", name := "<init>", desc := "()V" } : Jvm.MethodName) object_method_1_code (1 : Nat) (Option.none : Option Jvm.ClassFile.FieldType), Jvm.Cond.code ({ cls := "com/example/interval/interval/service/SlotTable", name := "add", desc := "(JJJJJ)I" } : Jvm.MethodName) prog_27_method_5_code (14 : Nat) (Option.some Jvm.ClassFile.FieldType.int), Jvm.Cond.code ({ cls := "com/example/interval/interval/service/SlotTable", name := "offset", desc := "(I)I" } : Jvm.MethodName) prog_27_method_8_code (1 : Nat) (Option.some Jvm.ClassFile.FieldType.int), Jvm.Cond.code ({ cls := "com/example/interval/interval/service/SlotTable", name := "set", desc := "(IIJ)V" } : Jvm.MethodName) prog_27_method_4_code (5 : Nat) (Option.none : Option Jvm.ClassFile.FieldType), Jvm.Cond.code ({ cls := "com/example/interval/interval/service/SlotTable", name := "removeLast", desc := "()V" } : Jvm.MethodName) prog_27_method_7_code (2 : Nat) (Option.none : Option Jvm.ClassFile.FieldType), Jvm.Cond.code ({ cls := "com/example/interval/interval/service/SlotTable", name := "size", desc := "()I" } : Jvm.MethodName) prog_27_method_2_code (1 : Nat) (Option.some Jvm.ClassFile.FieldType.int), Jvm.Cond.code ({ cls := "com/example/interval/interval/service/SlotTable", name := "get", desc := "(II)J" } : Jvm.MethodName) prog_27_method_3_code (3 : Nat) (Option.some Jvm.ClassFile.FieldType.long)]
set_option maxRecDepth 65536 in
theorem codes_eq : words1.filter isCode = codes1 := rfl
theorem w_codes : ∀ c ∈ words1.filter isCode, c.before args0 about1 = true := by
  rw [codes_eq]
  intro c hc
  simp only [codes1, List.mem_cons, List.not_mem_nil, or_false] at hc
  rcases hc with rfl | rfl | rfl | rfl | rfl | rfl | rfl | rfl | rfl
  · exact w_c0
  · exact w_c1
  · exact w_c2
  · exact w_c3
  · exact w_c4
  · exact w_c5
  · exact w_c6
  · exact w_c7
  · exact w_c8
set_option maxRecDepth 65536 in
theorem w_t1 : (words1.take 24).all (fun c => isCode c || c.before args0 about1) = true := by decide +kernel
set_option maxRecDepth 65536 in
theorem w_t2 : (words1.drop 24).all (fun c => isCode c || c.before args0 about1) = true := by decide +kernel
theorem w_tables : (allAtoms (Jvm.Cond.code x code maxLocals ret :: tables_1)).before args0 about1 = true := by
  rw [allAtoms_all]
  show words1.all (fun c => c.before args0 about1) = true
  refine all_split ?_ w_codes
  rw [← List.take_append_drop 24 words1, List.all_append, w_t1, w_t2]
  rfl
set_option maxRecDepth 65536 in
theorem w_case : (Jvm.Cond.and given_1 narrow_1).before args0 about1 = true := by decide +kernel
theorem w_applies : (headSpec (Jvm.Cond.code x code maxLocals ret :: tables_1) room_1).applies x e0.platform about1 = true :=
  (Spec.applies_iff w_frames).mpr ⟨w_running, w_runnable, w_alone, w_named, w_hears, w_ripe, w_room, w_tables⟩
theorem atStart : AtStart classFile x code maxLocals ret World_1 tables_1 room_1 Calls_1 rest_1 Pre_1 launch0 p0 e0 about1 theMethod args0 below0 :=
  ⟨lists_1, trivial, launch0.admits_env _ _ _, launch0.least_env, fairChoices_fair.cas, fairChoices_fair.clock, w_frames, w_args, w_heap, w_applies, trivial, trivial, w_case⟩
end start1
theorem witness_1 : WitnessClaimed_1 := ⟨start1.p0, start1.e0, start1.about1, start1.theMethod, start1.args0, start1.below0, start1.atStart⟩
end Jvm.Pilot.@@N@@
