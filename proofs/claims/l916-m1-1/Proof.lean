import JvmDerived
import JvmDerived.Pilot.@@N@@Statement
import JvmDerived.Pilot.@@N@@Code
set_option linter.unusedVariables false
set_option linter.unusedSimpArgs false
namespace Jvm.RoadKit
open Sem ClassFile Op Lib Jvm.Stand Jvm.Free Jvm.LawKit
section Own
variable {p : Program} {l : Launch} {e : Env} {R : Room} {s : State} {m : MethodId} {args : Array Value} {below : List Frame} {meth : Method} {c : Code} {T : State} {locs : List Loc} {cells slots : Nat} {Z : State} {h h' : Heap} {a b : Addr} {ty : FieldType} {ws : List Addr}
/-- from the state S the run comes to an end that Q allows -/
def Go (p : Program) (e : Env) (below : List Frame) (s : State) (Q : Option Value → Heap → List Loc → Prop) (K N : Nat) (S : State) : Prop :=
  ∃ (t : State) (o : Outcome), Steps p.tables e below S t ∧ t.status = .running ∧ Ended t below o ∧ ∃ v L, o = .returned v ∧ Q v t.heap L ∧ FrameEnd s o t L K N
variable {Q : Option Value → Heap → List Loc → Prop} {K N : Nat} {S S' : State}
theorem gs (h : ∀ t, Steps p.tables e below S' t → Steps p.tables e below S t) (k : Go p e below s Q K N S') : Go p e below s Q K N S := by
  obtain ⟨t, o, a, b⟩ := k
  exact ⟨t, o, h t a, b⟩
theorem gt (h : Steps p.tables e below S S') (k : Go p e below s Q K N S') : Go p e below s Q K N S := gs (fun _ => h.trans) k
theorem goEnd (X : Stand p l e R s m args below meth c T locs cells slots) {v : Option Value} (hlocks : meth.locks = false) (hv : meth.sig.returnType = none → v = none)
    (hs : ∀ fs, (∀ (f : JFrame) (acts : List Action), f.method = m → f.locked = none → f.entered = [] → (doReturn e (T.setTop f) acts v).1 = T.setFrames fs) → Steps p.tables e below S (T.setFrames fs))
    (hQ : Q v T.heap locs) (hk : cells ≤ K) (hn : slots ≤ N) : Go p e below s Q K N S := by
  obtain ⟨fs, hr, hrun, hended, hW, hsame⟩ := X.leave (v := v) hv hlocks
  exact ⟨_, _, hs fs hr, hrun, hended, v, locs, rfl, hQ, ⟨_, rfl⟩, hW, hsame.mono hk hn⟩
theorem goV (X : Stand p l e R s m args below meth c T locs cells slots) (hx : p.tables.exec = Jvm.exec) (hlocks : meth.locks = false) (hret : meth.sig.returnType = none) {pc : Nat} {Ls : Array Slot} (hd : decode c.code pc = .ok (.return_, 1)) (hQ : Q none T.heap locs) (hk : cells ≤ K) (hn : slots ≤ N) :
    Go p e below s Q K N (T.setTop (mkF m pc Ls [])) := goEnd X hlocks (fun _ => rfl) (fun _ hr => X.returnOut hx hret hd hr) hQ hk hn
theorem goW (X : Stand p l e R s m args below meth c T locs cells slots) (hx : p.tables.exec = Jvm.exec) (hlocks : meth.locks = false) {t : FieldType} (hret : meth.sig.returnType = some t) {pc : Nat} {Ls : Array Slot} {w : Value} {i : Instr} {rest : List Value} (hn0 : narrow t w = w)
    (hi : (i = .ireturn ∧ (t = .int ∨ t = .boolean ∨ t = .byte ∨ t = .char ∨ t = .short) ∧ ∃ z, w = .int z) ∨ (i = .lreturn ∧ t = .long ∧ ∃ z, w = .long z) ∨ (i = .dreturn ∧ t = .double ∧ ∃ z, w = .double z) ∨ (i = .freturn ∧ t = .float ∧ ∃ z, w = .float z) ∨ (i = .areturn ∧ t.isReference = true ∧ w.isRef = true))
    (hd : decode c.code pc = .ok (i, 1)) (hQ : Q (some w) T.heap locs) (hk : cells ≤ K) (hn : slots ≤ N) : Go p e below s Q K N (T.setTop (mkF m pc Ls (w :: rest))) :=
  goEnd X hlocks (fun q => by rw [hret] at q; cases q) (fun _ hr => retOut X hx hret hn0 hi hd hr) hQ hk hn
theorem goI (X : Stand p l e R s m args below meth c T locs cells slots) (hx : p.tables.exec = Jvm.exec) (hlocks : meth.locks = false) (hret : meth.sig.returnType = some .int) {pc : Nat} {Ls : Array Slot} {w : Int32} {rest : List Value} (hd : decode c.code pc = .ok (.ireturn, 1)) (hQ : Q (some (.int w)) T.heap locs) (hk : cells ≤ K) (hn : slots ≤ N) :
    Go p e below s Q K N (T.setTop (mkF m pc Ls (.int w :: rest))) := goW X hx hlocks hret rfl (Or.inl ⟨rfl, Or.inl rfl, w, rfl⟩) hd hQ hk hn
theorem goJ (X : Stand p l e R s m args below meth c T locs cells slots) (hx : p.tables.exec = Jvm.exec) (hlocks : meth.locks = false) (hret : meth.sig.returnType = some .long) {pc : Nat} {Ls : Array Slot} {w : Int64} {rest : List Value} (hd : decode c.code pc = .ok (.lreturn, 1)) (hQ : Q (some (.long w)) T.heap locs) (hk : cells ≤ K) (hn : slots ≤ N) :
    Go p e below s Q K N (T.setTop (mkF m pc Ls (.long w :: rest))) := goW X hx hlocks hret rfl (Or.inr (Or.inl ⟨rfl, rfl, w, rfl⟩)) hd hQ hk hn
theorem goR (X : Stand p l e R s m args below meth c T locs cells slots) (hx : p.tables.exec = Jvm.exec) (hlocks : meth.locks = false) {t : FieldType} (hret : meth.sig.returnType = some t) (ht : t.isReference = true) {pc : Nat} {Ls : Array Slot} {w : Value} (hw : w.isRef = true) {rest : List Value} (hd : decode c.code pc = .ok (.areturn, 1)) (hQ : Q (some w) T.heap locs) (hk : cells ≤ K) (hn : slots ≤ N) :
    Go p e below s Q K N (T.setTop (mkF m pc Ls (w :: rest))) :=
  goW X hx hlocks hret (by cases t <;> simp [FieldType.isReference] at ht <;> rfl) (Or.inr (Or.inr (Or.inr (Or.inr ⟨rfl, ht, hw⟩)))) hd hQ hk hn
theorem goB (X : Stand p l e R s m args below meth c T locs cells slots) (hx : p.tables.exec = Jvm.exec) (hlocks : meth.locks = false) {t : FieldType} (hret : meth.sig.returnType = some t) (ht : t = .boolean ∨ t = .byte ∨ t = .char ∨ t = .short) {pc : Nat} {Ls : Array Slot} {z w : Int32} {rest : List Value} (hz : nar t z = w) (hd : decode c.code pc = .ok (.ireturn, 1)) (hQ : Q (some (.int w)) T.heap locs) (hk : cells ≤ K) (hn : slots ≤ N) :
    Go p e below s Q K N (T.setTop (mkF m pc Ls (.int z :: rest))) := by
  subst hz
  exact goEnd X hlocks (fun q => by rw [hret] at q; cases q) (fun _ hr => retN X hx hret ht hd hr) hQ hk hn
/-- an array of n places; the place i holds f i -/
def Arf (Z : State) (h : Heap) (a : Addr) (ty : FieldType) (n : Nat) (f : Nat → Value) : Prop := ∃ c : Cell, Arr Z h a c ty ∧ c.slots.size = n ∧ n < 2 ^ 31 ∧ ∀ i, i < n → c.slots[i]? = some (f i)
def updv (f : Nat → Value) (j : Nat) (v : Value) : Nat → Value := fun i => if i = j then v else f i
variable {n : Nat} {f g : Nat → Value} {sl : Nat} {v : Value}
theorem Arf.lt (F : Arf Z h a ty n f) : a < h.size := by obtain ⟨c, A, -⟩ := F; exact A.lt
theorem Arf.ext (F : Arf Z h a ty n f) (E : Ext h h') : Arf Z h' a ty n f := by obtain ⟨c, A, r⟩ := F; exact ⟨c, A.ext E, r⟩
theorem Arf.other (F : Arf Z h b ty n f) (W : Wr h h' a sl v) (q : b ≠ a) : Arf Z h' b ty n f := by obtain ⟨c, A, r⟩ := F; exact ⟨c, A.other W q, r⟩
theorem Arf.keep (F : Arf Z h a ty n f) (K : Keep h h' ws) (q : a ∉ ws) : Arf Z h' a ty n f := by obtain ⟨c, A, r⟩ := F; exact ⟨c, ⟨K.2.1 a c A.1 q, A.2⟩, r⟩
theorem Arf.congr (F : Arf Z h a ty n f) (q : ∀ i, i < n → f i = g i) : Arf Z h a ty n g := by
  obtain ⟨c, A, r1, r2, r3⟩ := F
  exact ⟨c, A, r1, r2, fun i hi => by rw [← q i hi]; exact r3 i hi⟩
theorem clampLt (z : Int32) : z.toNatClampNeg < 2 ^ 31 := by
  have h1 := z.toInt_lt
  have h2 : z.toNatClampNeg = z.toInt.toNat := rfl
  omega
theorem clampOf {j : Int32} (h0 : 0 ≤ j.toInt) : (j.toNatClampNeg : Int) = j.toInt := by
  have h2 : j.toNatClampNeg = j.toInt.toNat := rfl
  omega
theorem Arf.new {k : ClassId} {z : Int32} (A : Arr Z h a (newA k ty z) ty) : Arf Z h a ty z.toNatClampNeg (fun _ => defaultValue ty) := by
  refine ⟨_, A, sz_new _ _ _, clampLt z, fun i hi => ?_⟩
  simp [newA, hi]
theorem Arf.set (F : Arf Z h a ty n f) {j : Nat} (W : Wr h h' a j v) (hj : j < n) : Arf Z h' a ty n (updv f j v) := by
  obtain ⟨c, A, r1, r2, r3⟩ := F
  refine ⟨_, A.same W, by rw [sz_set]; exact r1, r2, fun i hi => ?_⟩
  by_cases q : i = j
  · subst q
    simp [Cell.setSlot, updv, r1, hi]
  · have q' : ¬ j = i := fun x => q x.symm
    simp [Cell.setSlot, updv, q, Array.getElem?_setIfInBounds_ne q', r3 i hi]
theorem inI {cl : Cell} (S : cl.slots.size = n) {j : Int32} (hj : 0 ≤ j.toInt ∧ j.toInt < n) : ¬ (j < 0 ∨ cl.slots.size ≤ j.toNatClampNeg) := by
  have q := clampOf hj.1
  rintro (h1 | h1)
  · rw [Int32.lt_iff_toInt_lt] at h1
    have : (0 : Int32).toInt = 0 := rfl
    omega
  · omega
theorem stIf (X : Stand p l e R s m args below meth c T locs cells slots) (hx : p.tables.exec = Jvm.exec) (hZ : Z.Warmed39 s.vm) (eT : T.heap = h) (F : Arf Z h a .int n f) {j x : Int32} (hj : 0 ≤ j.toInt ∧ j.toInt < n) {g : JFrame} (hg : g.method = m) {rest : List Value} (hs : g.stack = .int x :: .int j :: .ref a :: rest) (hd : decode c.code g.pc = .ok (.iastore, 1)) :
    ∃ T' h', Stand p l e R s m args below meth c T' (locs ++ [⟨a, j.toNatClampNeg⟩]) cells slots ∧ T'.heap = h' ∧ Wr h h' a j.toNatClampNeg (.int x) ∧ Arf Z h' a .int n (updv f j.toNatClampNeg (.int x)) ∧ ∀ target, Steps p.tables e below (T'.setTop { g with pc := g.pc + 1, stack := rest }) target → Steps p.tables e below (T.setTop g) target := by
  obtain ⟨cl, A, r1, r2, r3⟩ := id F
  obtain ⟨T', h', X', e', W, st⟩ := stI X hx hZ eT A (j := j) (x := x) (inI r1 hj) hg hs hd
  have q := clampOf hj.1
  exact ⟨T', h', X', e', W, F.set W (by omega), st⟩
theorem stJf (X : Stand p l e R s m args below meth c T locs cells slots) (hx : p.tables.exec = Jvm.exec) (hZ : Z.Warmed39 s.vm) (eT : T.heap = h) (F : Arf Z h a .long n f) {j : Int32} {x : Int64} (hj : 0 ≤ j.toInt ∧ j.toInt < n) {g : JFrame} (hg : g.method = m) {rest : List Value} (hs : g.stack = .long x :: .int j :: .ref a :: rest) (hd : decode c.code g.pc = .ok (.lastore, 1)) :
    ∃ T' h', Stand p l e R s m args below meth c T' (locs ++ [⟨a, j.toNatClampNeg⟩]) cells slots ∧ T'.heap = h' ∧ Wr h h' a j.toNatClampNeg (.long x) ∧ Arf Z h' a .long n (updv f j.toNatClampNeg (.long x)) ∧ ∀ target, Steps p.tables e below (T'.setTop { g with pc := g.pc + 1, stack := rest }) target → Steps p.tables e below (T.setTop g) target := by
  obtain ⟨cl, A, r1, r2, r3⟩ := id F
  obtain ⟨T', h', X', e', W, st⟩ := stJ X hx hZ eT A (j := j) (x := x) (inI r1 hj) hg hs hd
  have q := clampOf hj.1
  exact ⟨T', h', X', e', W, F.set W (by omega), st⟩
theorem stBf (X : Stand p l e R s m args below meth c T locs cells slots) (hx : p.tables.exec = Jvm.exec) (hZ : Z.Warmed39 s.vm) (eT : T.heap = h) (F : Arf Z h a .byte n f) {j x : Int32} (hj : 0 ≤ j.toInt ∧ j.toInt < n) {g : JFrame} (hg : g.method = m) {rest : List Value} (hs : g.stack = .int x :: .int j :: .ref a :: rest) (hd : decode c.code g.pc = .ok (.bastore, 1)) :
    ∃ T' h', Stand p l e R s m args below meth c T' (locs ++ [⟨a, j.toNatClampNeg⟩]) cells slots ∧ T'.heap = h' ∧ Wr h h' a j.toNatClampNeg (.int (nar .byte x)) ∧ Arf Z h' a .byte n (updv f j.toNatClampNeg (.int (nar .byte x))) ∧ ∀ target, Steps p.tables e below (T'.setTop { g with pc := g.pc + 1, stack := rest }) target → Steps p.tables e below (T.setTop g) target := by
  obtain ⟨cl, A, r1, r2, r3⟩ := id F
  obtain ⟨T', h', X', e', W, st⟩ := stB X hx hZ eT A (j := j) (x := x) (inI r1 hj) hg hs hd
  have q := clampOf hj.1
  exact ⟨T', h', X', e', W, F.set W (by omega), st⟩
theorem stZf (X : Stand p l e R s m args below meth c T locs cells slots) (hx : p.tables.exec = Jvm.exec) (hZ : Z.Warmed39 s.vm) (eT : T.heap = h) (F : Arf Z h a .boolean n f) {j x : Int32} (hj : 0 ≤ j.toInt ∧ j.toInt < n) {g : JFrame} (hg : g.method = m) {rest : List Value} (hs : g.stack = .int x :: .int j :: .ref a :: rest) (hd : decode c.code g.pc = .ok (.bastore, 1)) :
    ∃ T' h', Stand p l e R s m args below meth c T' (locs ++ [⟨a, j.toNatClampNeg⟩]) cells slots ∧ T'.heap = h' ∧ Wr h h' a j.toNatClampNeg (.int (nar .boolean x)) ∧ Arf Z h' a .boolean n (updv f j.toNatClampNeg (.int (nar .boolean x))) ∧ ∀ target, Steps p.tables e below (T'.setTop { g with pc := g.pc + 1, stack := rest }) target → Steps p.tables e below (T.setTop g) target := by
  obtain ⟨cl, A, r1, r2, r3⟩ := id F
  obtain ⟨T', h', X', e', W, st⟩ := stZ X hx hZ eT A (j := j) (x := x) (inI r1 hj) hg hs hd
  have q := clampOf hj.1
  exact ⟨T', h', X', e', W, F.set W (by omega), st⟩
theorem stCf (X : Stand p l e R s m args below meth c T locs cells slots) (hx : p.tables.exec = Jvm.exec) (hZ : Z.Warmed39 s.vm) (eT : T.heap = h) (F : Arf Z h a .char n f) {j x : Int32} (hj : 0 ≤ j.toInt ∧ j.toInt < n) {g : JFrame} (hg : g.method = m) {rest : List Value} (hs : g.stack = .int x :: .int j :: .ref a :: rest) (hd : decode c.code g.pc = .ok (.castore, 1)) :
    ∃ T' h', Stand p l e R s m args below meth c T' (locs ++ [⟨a, j.toNatClampNeg⟩]) cells slots ∧ T'.heap = h' ∧ Wr h h' a j.toNatClampNeg (.int (nar .char x)) ∧ Arf Z h' a .char n (updv f j.toNatClampNeg (.int (nar .char x))) ∧ ∀ target, Steps p.tables e below (T'.setTop { g with pc := g.pc + 1, stack := rest }) target → Steps p.tables e below (T.setTop g) target := by
  obtain ⟨cl, A, r1, r2, r3⟩ := id F
  obtain ⟨T', h', X', e', W, st⟩ := stC X hx hZ eT A (j := j) (x := x) (inI r1 hj) hg hs hd
  have q := clampOf hj.1
  exact ⟨T', h', X', e', W, F.set W (by omega), st⟩
theorem stRf (X : Stand p l e R s m args below meth c T locs cells slots) (hx : p.tables.exec = Jvm.exec) (hZ : Z.Warmed39 s.vm) (eT : T.heap = h) (F : Arf Z h a ty n f) (hty : ty.isReference = true) {j : Int32} {v : Value} (hv : Sto Z h a v) (hj : 0 ≤ j.toInt ∧ j.toInt < n) {g : JFrame} (hg : g.method = m) {rest : List Value} (hs : g.stack = v :: .int j :: .ref a :: rest) (hd : decode c.code g.pc = .ok (.aastore, 1)) :
    ∃ T' h', Stand p l e R s m args below meth c T' (locs ++ [⟨a, j.toNatClampNeg⟩]) cells slots ∧ T'.heap = h' ∧ Wr h h' a j.toNatClampNeg v ∧ Arf Z h' a ty n (updv f j.toNatClampNeg v) ∧ ∀ target, Steps p.tables e below (T'.setTop { g with pc := g.pc + 1, stack := rest }) target → Steps p.tables e below (T.setTop g) target := by
  obtain ⟨cl, A, r1, r2, r3⟩ := id F
  obtain ⟨T', h', X', e', W, st⟩ := stR X hx hZ eT A (j := j) (v := v) (inI r1 hj) hty hv hg hs hd
  have q := clampOf hj.1
  exact ⟨T', h', X', e', W, F.set W (by omega), st⟩
theorem ldIf (X : Stand p l e R s m args below meth c T locs cells slots) (hx : p.tables.exec = Jvm.exec) (hZ : Z.Warmed39 s.vm) (eT : T.heap = h) (F : Arf Z h a .int n f) {j : Int32} {v : Value} (hj : 0 ≤ j.toInt ∧ j.toInt < n) (hv : f j.toNatClampNeg = v) {g : JFrame} (hg : g.method = m) {rest : List Value} (hs : g.stack = .int j :: .ref a :: rest) (hd : decode c.code g.pc = .ok (.iaload, 1)) :
    ∀ target, Steps p.tables e below (T.setTop { g with pc := g.pc + 1, stack := v :: rest }) target → Steps p.tables e below (T.setTop g) target := by
  obtain ⟨cl, A, r1, r2, r3⟩ := F
  have q := clampOf hj.1
  exact fun t => X.iaload hx (by rw [eT]; exact A.1) (State.isArrayOf_alike hZ.alike A.2.1) A.2.2 (inI r1 hj) (by rw [← hv]; exact r3 _ (by omega)) hg hs hd t
theorem ldJf (X : Stand p l e R s m args below meth c T locs cells slots) (hx : p.tables.exec = Jvm.exec) (hZ : Z.Warmed39 s.vm) (eT : T.heap = h) (F : Arf Z h a .long n f) {j : Int32} {v : Value} (hj : 0 ≤ j.toInt ∧ j.toInt < n) (hv : f j.toNatClampNeg = v) {g : JFrame} (hg : g.method = m) {rest : List Value} (hs : g.stack = .int j :: .ref a :: rest) (hd : decode c.code g.pc = .ok (.laload, 1)) :
    ∀ target, Steps p.tables e below (T.setTop { g with pc := g.pc + 1, stack := v :: rest }) target → Steps p.tables e below (T.setTop g) target := by
  obtain ⟨cl, A, r1, r2, r3⟩ := F
  have q := clampOf hj.1
  exact fun t => X.laload hx (by rw [eT]; exact A.1) (State.isArrayOf_alike hZ.alike A.2.1) A.2.2 (inI r1 hj) (by rw [← hv]; exact r3 _ (by omega)) hg hs hd t
theorem ldCf (X : Stand p l e R s m args below meth c T locs cells slots) (hx : p.tables.exec = Jvm.exec) (hZ : Z.Warmed39 s.vm) (eT : T.heap = h) (F : Arf Z h a .char n f) {j : Int32} {v : Value} (hj : 0 ≤ j.toInt ∧ j.toInt < n) (hv : f j.toNatClampNeg = v) {g : JFrame} (hg : g.method = m) {rest : List Value} (hs : g.stack = .int j :: .ref a :: rest) (hd : decode c.code g.pc = .ok (.caload, 1)) :
    ∀ target, Steps p.tables e below (T.setTop { g with pc := g.pc + 1, stack := v :: rest }) target → Steps p.tables e below (T.setTop g) target := by
  obtain ⟨cl, A, r1, r2, r3⟩ := F
  have q := clampOf hj.1
  exact fun t => X.caload hx (by rw [eT]; exact A.1) (State.isArrayOf_alike hZ.alike A.2.1) A.2.2 (inI r1 hj) (by rw [← hv]; exact r3 _ (by omega)) hg hs hd t
theorem ldBf (X : Stand p l e R s m args below meth c T locs cells slots) (hx : p.tables.exec = Jvm.exec) (hZ : Z.Warmed39 s.vm) (eT : T.heap = h) (F : Arf Z h a .byte n f) {j : Int32} {v : Value} (hj : 0 ≤ j.toInt ∧ j.toInt < n) (hv : f j.toNatClampNeg = v) {g : JFrame} (hg : g.method = m) {rest : List Value} (hs : g.stack = .int j :: .ref a :: rest) (hd : decode c.code g.pc = .ok (.baload, 1)) :
    ∀ target, Steps p.tables e below (T.setTop { g with pc := g.pc + 1, stack := v :: rest }) target → Steps p.tables e below (T.setTop g) target := by
  obtain ⟨cl, A, r1, r2, r3⟩ := F
  have q := clampOf hj.1
  exact fun t => X.baloadBytes hx (by rw [eT]; exact A.1) (State.isArrayOf_alike hZ.alike A.2.1) A.2.2 (inI r1 hj) (by rw [← hv]; exact r3 _ (by omega)) hg hs hd t
theorem ldZf (X : Stand p l e R s m args below meth c T locs cells slots) (hx : p.tables.exec = Jvm.exec) (hZ : Z.Warmed39 s.vm) (eT : T.heap = h) (F : Arf Z h a .boolean n f) {j : Int32} {v : Value} (hj : 0 ≤ j.toInt ∧ j.toInt < n) (hv : f j.toNatClampNeg = v) {g : JFrame} (hg : g.method = m) {rest : List Value} (hs : g.stack = .int j :: .ref a :: rest) (hd : decode c.code g.pc = .ok (.baload, 1)) :
    ∀ target, Steps p.tables e below (T.setTop { g with pc := g.pc + 1, stack := v :: rest }) target → Steps p.tables e below (T.setTop g) target := by
  obtain ⟨cl, A, r1, r2, r3⟩ := F
  have q := clampOf hj.1
  exact fun t => X.baloadBooleans hx (by rw [eT]; exact A.1) (State.isArrayOf_alike hZ.alike A.2.1) A.2.2 (inI r1 hj) (by rw [← hv]; exact r3 _ (by omega)) hg hs hd t
theorem ldRf (X : Stand p l e R s m args below meth c T locs cells slots) (hx : p.tables.exec = Jvm.exec) (hZ : Z.Warmed39 s.vm) (eT : T.heap = h) (F : Arf Z h a ty n f) (hty : ty.isReference = true) {j : Int32} {v : Value} (hj : 0 ≤ j.toInt ∧ j.toInt < n) (hv : f j.toNatClampNeg = v) {g : JFrame} (hg : g.method = m) {rest : List Value} (hs : g.stack = .int j :: .ref a :: rest) (hd : decode c.code g.pc = .ok (.aaload, 1)) :
    ∀ target, Steps p.tables e below (T.setTop { g with pc := g.pc + 1, stack := v :: rest }) target → Steps p.tables e below (T.setTop g) target := by
  obtain ⟨cl, A, r1, r2, r3⟩ := F
  have q := clampOf hj.1
  exact fun t => X.aaload hx (by rw [eT]; exact A.1) (State.isArrayOf_alike hZ.alike A.2.1) hty A.2.2 (inI r1 hj) (by rw [← hv]; exact r3 _ (by omega)) hg hs hd t
theorem lenf (X : Stand p l e R s m args below meth c T locs cells slots) (hx : p.tables.exec = Jvm.exec) (hZ : Z.Warmed39 s.vm) (eT : T.heap = h) (F : Arf Z h a ty n f) {z : Int32} (hz : n.toInt32 = z) {g : JFrame} (hg : g.method = m) {rest : List Value} (hs : g.stack = .ref a :: rest) (hd : decode c.code g.pc = .ok (.arraylength, 1)) :
    ∀ target, Steps p.tables e below (T.setTop { g with pc := g.pc + 1, stack := .int z :: rest }) target → Steps p.tables e below (T.setTop g) target := by
  obtain ⟨cl, A, r1, r2, r3⟩ := F
  subst hz r1
  exact fun t => X.arraylength hx (by rw [eT]; exact A.1) (State.isArrayOf_alike hZ.alike A.2.1) hg hs hd t
theorem toClamp {z : Int32} (q : 0 ≤ z.toInt) : z.toNatClampNeg.toInt32 = z := (back32 (fun h => by rw [Int32.lt_iff_toInt_lt] at h; have : (0 : Int32).toInt = 0 := rfl; omega)).1
theorem refCat {v : Value} (h : v.isRef = true) : v.category = 1 := by rcases ref_cases h with rfl | ⟨_, rfl⟩ <;> rfl
/-- an array that takes every object of the class C -/
def Tak (Z : State) (h : Heap) (a : Addr) (C : String) : Prop := ∃ (cell : Cell) (k kc : Class) (comp : ClassId) (t : FieldType), h[a]? = some cell ∧ Z.vm.classes[cell.cls]? = some k ∧ k.kind = .array comp t ∧ Z.vm.classes[comp]? = some kc ∧ Z.vm.findClass C = some comp
variable {C : String}
theorem Tak.ext (F : Tak Z h a C) (E : Ext h h') : Tak Z h' a C := by obtain ⟨cell, k, kc, comp, t, h1, r⟩ := F; exact ⟨cell, k, kc, comp, t, E.2 _ _ h1, r⟩
theorem Tak.wr (F : Tak Z h a C) (W : Wr h h' b sl v) : Tak Z h' a C := by
  obtain ⟨cell, k, kc, comp, t, h1, h2, r⟩ := F
  obtain ⟨c', e1, e2, -⟩ := wr_at W h1
  exact ⟨c', k, kc, comp, t, e1, by rw [e2]; exact h2, r⟩
theorem Tak.keep (F : Tak Z h a C) (K : Keep h h' ws) : Tak Z h' a C := by
  obtain ⟨cell, k, kc, comp, t, h1, h2, r⟩ := F
  obtain ⟨c', e1, e2, -⟩ := K.2.2 _ _ h1
  exact ⟨c', k, kc, comp, t, e1, by rw [e2]; exact h2, r⟩
theorem Tak.sto (F : Tak Z h a C) {y : Addr} (I : Ins Z h y C true) : Sto Z h a (.ref y) := by
  obtain ⟨cell, k, kc, comp, t, h1, h2, h3, h4, h5⟩ := F
  obtain ⟨cv, cT, g1, g2, g3⟩ := I
  cases h5.symm.trans g2
  simp only [Bool.and_eq_true, Bool.not_eq_true'] at g3
  have hv : ∃ kv, Z.vm.classes[cv.cls]? = some kv := by
    cases q : Z.vm.classes[cv.cls]? with
    | some kv => exact ⟨kv, rfl⟩
    | none =>
      by_cases e : cv.cls = comp
      · rw [e, h4] at q; cases q
      · have := g3.2
        simp [Vm.assignable, Vm.assignableAux, e, q] at this
  obtain ⟨kv, hkv⟩ := hv
  exact Or.inr ⟨cell, cv, k, kv, kc, comp, t, y, h1, h2, h3, h4, rfl, g1, g3.1, hkv, g3.2⟩
theorem Tak.of {cA : ClassId} {n : Int32} (A : Arr Z h a (newA cA ty n) ty) (O : Ovr Z cA C) : Tak Z h a C := by
  obtain ⟨k, comp, o1, o2, o3⟩ := O
  obtain ⟨kc, q, -⟩ := Vm.findClass_spec o3
  exact ⟨_, k, kc, comp, _, A.1, o1, o2, q, o3⟩
theorem Tak.ofA {cA : ClassId} {n : Int32} {ty' : FieldType} (A : Arr Z h a (newA cA ty n) ty) (O : OvrA Z cA ty' C) : Tak Z h a C := by
  obtain ⟨k, comp, o1, o2, o3⟩ := O
  obtain ⟨kc, q, -⟩ := Vm.findClass_spec o3
  exact ⟨_, k, kc, comp, _, A.1, o1, o2, q, o3⟩
theorem own_eqI {t : Term} {k : Int32} {args : Array Value} {first s : State} {o : Option Outcome} {idx : List Nat} (h : (Cond.eq t (.int k)).value args first o s idx = some true) : t.eval args first o idx s = some (.int k) := by
  simp only [Cond.value, Term.eval] at h
  cases ht : t.eval args first o idx s with
  | none => simp [ht] at h
  | some x => cases x <;> simp [ht] at h ⊢ <;> exact h
end Own
end Jvm.RoadKit
namespace Jvm.Pilot.@@N@@
open Jvm Jvm.ClassFile Sem Op Lib Jvm.Free Jvm.Stand Jvm.LawKit Jvm.RoadKit Bundle Jvm.Pilot.@@N@@.Jvm.D
theorem pd_0 : parseMethodDescriptor "(II)I" = some ⟨[.int, .int], some .int⟩ := by decide +kernel
theorem pd_1 : parseMethodDescriptor "(III)J" = some ⟨[.int, .int, .int], some .long⟩ := by decide +kernel
def own_lo (w fr : Int32) : Int64 := if w = fr / 64 then ((-1 : Int64) &&& ((-1 : Int64) <<< (fr &&& 0x3f).toInt64)) else -1
def own_rw (w fr to_ : Int32) : Int64 := if w = (to_ - 1) / 64 then own_lo w fr &&& ((((-1 : Int64)).toUInt64 >>> ((-to_) &&& 0x3f).toInt64.toUInt64).toInt64) else own_lo w fr
theorem own_sh (x : Int64) (q : Int32) (k : Nat) (hk : q.toBitVec.toNat % 64 = k) (i : Nat) (hi : i < 64) : (x <<< (q &&& 0x3f).toInt64).toBitVec.getLsbD i = (!decide (i < k) && x.toBitVec.getLsbD (i - k)) := by
  obtain ⟨e1, e2⟩ := sm64 q k hk
  rw [Int64.toBitVec_shiftLeft, e1]
  show (x.toBitVec <<< (((BitVec.ofNat 64 k).smod 64).toNat)).getLsbD i = _
  rw [smod64 k e2, BitVec.getLsbD_shiftLeft]
  simp [hi]
theorem own_ush (x : Int64) (q : Int32) (k : Nat) (hk : q.toBitVec.toNat % 64 = k) (i : Nat) : ((x.toUInt64 >>> (q &&& 0x3f).toInt64.toUInt64).toInt64).toBitVec.getLsbD i = x.toBitVec.getLsbD (k + i) := by
  obtain ⟨e1, e2⟩ := sm64 q k hk
  show (x.toUInt64 >>> (q &&& 0x3f).toInt64.toUInt64).toBitVec.getLsbD i = _
  rw [UInt64.toBitVec_shiftRight]
  show (x.toBitVec >>> ((q &&& 0x3f).toInt64.toBitVec % 64#64)).getLsbD i = _
  rw [e1]
  show (x.toBitVec >>> ((BitVec.ofNat 64 k % 64#64).toNat)).getLsbD i = _
  rw [BitVec.getLsbD_ushiftRight]
  have hq : (BitVec.ofNat 64 k % 64#64).toNat = k := by
    rw [BitVec.toNat_umod, BitVec.toNat_ofNat, show (64#64 : BitVec 64).toNat = 64 from rfl, Nat.mod_eq_of_lt (by omega : k < 2 ^ 64), Nat.mod_eq_of_lt e2]
  rw [hq]
theorem own_mod (q : Int32) (h0 : 0 ≤ q.toInt) : q.toBitVec.toNat % 64 = (q.toInt % 64).toNat := by
  have h1 : (q.toBitVec.toNat : Int) = q.toInt := by
    have h2 : q.toInt = q.toBitVec.toInt := rfl
    have h3 := BitVec.toInt_eq_toNat_cond q.toBitVec
    have h4 := q.toBitVec.isLt
    rw [h2] at h0 ⊢
    rw [h3] at h0 ⊢
    split <;> rename_i hc <;> simp only [hc, if_true, if_false] at h0 <;> omega
  omega
theorem own_neg (q : Int32) (h0 : 0 < q.toInt) : (-q).toBitVec.toNat % 64 = ((-q.toInt) % 64).toNat := by
  have e := c_ineg q
  have r := rng32 q
  have r2 := rng32 (-q)
  have h1 : ((-q).toBitVec.toNat : Int) = (-q).toInt + 4294967296 := by
    have h2 : (-q).toInt = (-q).toBitVec.toInt := rfl
    have h3 := BitVec.toInt_eq_toNat_cond (-q).toBitVec
    have h4 := (-q).toBitVec.isLt
    have h5 : (-q).toInt < 0 := by omega
    rw [h2] at h5 ⊢
    rw [h3] at h5 ⊢
    split <;> rename_i hc <;> simp only [hc, if_true, if_false] at h5 <;> omega
  omega
theorem own_m1 (i : Nat) (hi : i < 64) : (-1 : Int64).toBitVec.getLsbD i = true := by
  have : ∀ j : Fin 64, (-1 : Int64).toBitVec.getLsbD j.val = true := by decide +kernel
  exact this ⟨i, hi⟩
theorem own_m2 (i : Nat) (hi : 64 ≤ i) (x : Int64) : x.toBitVec.getLsbD i = false := BitVec.getLsbD_of_ge _ _ hi
theorem own_bit (x : Int64) (q : Int32) (k : Nat) (hk : q.toBitVec.toNat % 64 = k) : (((x.toUInt64 >>> (q &&& 0x3f).toInt64.toUInt64).toInt64) &&& (1 : Int64)) = 0 ↔ x.toBitVec.getLsbD k = false := by
  have e := fun i => own_ush x q k hk i
  generalize ((x.toUInt64 >>> (q &&& 0x3f).toInt64.toUInt64).toInt64) = y at e
  have e0 := e 0
  rw [Nat.add_zero] at e0
  rw [← e0, ← Int64.toBitVec_inj, Int64.toBitVec_and]
  constructor
  · intro h
    have := congrArg (fun b => BitVec.getLsbD b 0) h
    simpa using this
  · intro h
    apply BitVec.eq_of_getLsbD_eq
    intro i hi
    rw [BitVec.getLsbD_and]
    by_cases hz : i = 0
    · subst hz; rw [h]; rfl
    · have : (1 : Int64).toBitVec.getLsbD i = false := by
        have h2 : ∀ j : Fin 64, j.val ≠ 0 → (1 : Int64).toBitVec.getLsbD j.val = false := by decide +kernel
        exact h2 ⟨i, hi⟩ hz
      rw [this, Bool.and_false]
      show false = (0#64).getLsbD i
      simp
theorem own_law {w fr to_ b : Int32} (h0 : 0 ≤ fr.toInt) (h1 : fr.toInt < to_.toInt) (h2 : fr.toInt / 64 ≤ w.toInt) (h3 : w.toInt ≤ (to_.toInt - 1) / 64) (hb0 : 0 ≤ b.toInt) (hb1 : b.toInt < 64) :
    (((own_rw w fr to_).toUInt64 >>> (b &&& 0x3f).toInt64.toUInt64).toInt64) &&& (1 : Int64) = 0 ↔ ¬ (fr.toInt ≤ 64 * w.toInt + b.toInt ∧ 64 * w.toInt + b.toInt < to_.toInt) := by
  have mb := own_mod b hb0
  have mf := own_mod fr h0
  have mt := own_neg to_ (by omega)
  rw [own_bit _ b (b.toInt % 64).toNat mb]
  generalize hk : (b.toInt % 64).toNat = k
  have hk64 : k < 64 := by omega
  have ef : (fr / 64).toInt = fr.toInt / 64 := (c_idiv fr 64 64 rfl (by decide)).1 h0
  have es := c_isub to_ 1
  have k1 : (1 : Int32).toInt = 1 := rfl
  have r1 := rng32 (to_ - 1)
  have r2 := rng32 to_
  have es' : (to_ - 1).toInt = to_.toInt - 1 := by omega
  have et : ((to_ - 1) / 64).toInt = (to_.toInt - 1) / 64 := by rw [← es']; exact (c_idiv (to_ - 1) 64 64 rfl (by decide)).1 (by omega)
  have elo : (own_lo w fr).toBitVec.getLsbD k = decide (fr.toInt ≤ 64 * w.toInt + b.toInt) := by
    unfold own_lo
    by_cases hc : w = fr / 64
    · have hw := congrArg Int32.toInt hc
      rw [ef] at hw
      rw [if_pos hc, Int64.toBitVec_and, BitVec.getLsbD_and, own_m1 k hk64, Bool.true_and, own_sh _ fr _ mf k hk64]
      by_cases hl : k < (fr.toInt % 64).toNat
      · simp only [hl, decide_true, Bool.not_true, Bool.false_and]
        symm; rw [decide_eq_false_iff_not]; omega
      · rw [own_m1 _ (by omega)]
        simp only [hl, decide_false, Bool.not_false, Bool.true_and]
        symm; rw [decide_eq_true_iff]; omega
    · have hw : ¬ w.toInt = fr.toInt / 64 := fun q => hc (Int32.toInt_inj.mp (by rw [ef]; exact q))
      rw [if_neg hc, own_m1 k hk64]
      symm; rw [decide_eq_true_iff]; omega
  have eall : (own_rw w fr to_).toBitVec.getLsbD k = (decide (fr.toInt ≤ 64 * w.toInt + b.toInt) && decide (64 * w.toInt + b.toInt < to_.toInt)) := by
    unfold own_rw
    by_cases hc : w = (to_ - 1) / 64
    · have hw := congrArg Int32.toInt hc
      rw [et] at hw
      rw [if_pos hc, Int64.toBitVec_and, BitVec.getLsbD_and, elo, own_ush _ (-to_) _ mt k]
      congr 1
      by_cases hl : ((-to_.toInt) % 64).toNat + k < 64
      · rw [own_m1 _ hl]; symm; rw [decide_eq_true_iff]; omega
      · rw [own_m2 _ (by omega)]; symm; rw [decide_eq_false_iff_not]; omega
    · have hw : ¬ w.toInt = (to_.toInt - 1) / 64 := fun q => hc (Int32.toInt_inj.mp (by rw [et]; exact q))
      rw [if_neg hc, elo]
      have : decide (64 * w.toInt + b.toInt < to_.toInt) = true := by rw [decide_eq_true_iff]; omega
      rw [this, Bool.and_true]
  rw [eall]
  by_cases p1 : fr.toInt ≤ 64 * w.toInt + b.toInt <;> by_cases p2 : 64 * w.toInt + b.toInt < to_.toInt <;> simp [p1, p2]
theorem own_mm {x y aa cc2 fr to_ : Int32} (ha : x &&& (2147483647 : Int32) = aa) (hc : y &&& (2147483647 : Int32) = cc2) (hf : (if cc2 < aa then cc2 else aa) = fr) (ht : (if aa < cc2 then cc2 else aa) = to_) : 0 ≤ fr.toInt ∧ fr.toInt ≤ to_.toInt := by
  have e1 := c_mask x 2147483647 31 (by decide) (by decide)
  have e2 := c_mask y 2147483647 31 (by decide) (by decide)
  rw [ha] at e1
  rw [hc] at e2
  subst hf ht
  by_cases h1 : cc2 < aa
  · have h1' := Int32.lt_iff_toInt_lt.mp h1
    have h2 : ¬ aa < cc2 := fun q => by rw [Int32.lt_iff_toInt_lt] at q; omega
    rw [if_pos h1, if_neg h2]; omega
  · have h1' : ¬ cc2.toInt < aa.toInt := fun q => h1 (Int32.lt_iff_toInt_lt.mpr q)
    rw [if_neg h1]
    by_cases h2 : aa < cc2
    · rw [if_pos h2]; omega
    · rw [if_neg h2]; omega
theorem own_fl {fr to_ : Int32} (h0 : 0 ≤ fr.toInt) (h1 : fr.toInt < to_.toInt) : (fr / 64).toInt = fr.toInt / 64 ∧ ((to_ - 1) / 64).toInt = (to_.toInt - 1) / 64 := by
  have es := c_isub to_ 1
  have k1 : (1 : Int32).toInt = 1 := rfl
  have r1 := rng32 (to_ - 1)
  have r2 := rng32 to_
  have es' : (to_ - 1).toInt = to_.toInt - 1 := by omega
  exact ⟨(c_idiv fr 64 64 rfl (by decide)).1 h0, by rw [← es']; exact (c_idiv (to_ - 1) 64 64 rfl (by decide)).1 (by omega)⟩
theorem own_third {f l x : Int32} (h0 : 0 ≤ f.toInt) (h1 : f.toInt ≤ l.toInt) (hl : l.toInt < 2000000000) (hx : 0 ≤ x.toInt) : ¬ ((l - f) + (1 : Int32) = 0) ∧ f.toInt ≤ (f + (x % ((l - f) + (1 : Int32)))).toInt ∧ (f + (x % ((l - f) + (1 : Int32)))).toInt ≤ l.toInt := by
  have e1 := c_isub l f
  have e2 := c_iadd (l - f) 1
  have k1 : (1 : Int32).toInt = 1 := rfl
  have r1 := rng32 (l - f)
  have r2 := rng32 ((l - f) + 1)
  have e3 : ((l - f) + 1).toInt = l.toInt - f.toInt + 1 := by omega
  have e4 := (c_iremV x ((l - f) + 1)).1 hx (by omega)
  have e5 := c_iadd f (x % ((l - f) + 1))
  have r3 := rng32 (f + (x % ((l - f) + 1)))
  refine ⟨fun q => ?_, by omega, by omega⟩
  have := congrArg Int32.toInt q
  have k0 : (0 : Int32).toInt = 0 := rfl
  omega
theorem own_k {ww bb : Int32} {kk : Int64} (hw0 : 0 ≤ ww.toInt) (hb0 : 0 ≤ bb.toInt) (hb1 : bb.toInt < 64) (h : ((64 : Int64) * ww.toInt64) + bb.toInt64 = kk) : kk.toInt = 64 * ww.toInt + bb.toInt := by
  have e1 := c_lmul 64 ww.toInt64
  have e2 := c_ladd ((64 : Int64) * ww.toInt64) bb.toInt64
  rw [h] at e2
  have e3 := c_i2l ww
  have e4 := c_i2l bb
  have k1 : (64 : Int64).toInt = 64 := rfl
  have r1 := rng64 kk
  have r2 := rng32 ww
  rw [k1, e3] at e1
  rw [e4] at e2
  omega
theorem own_sel (x : Int32) : 0 ≤ ((x.toUInt32 >>> ((2 : Int32) &&& 31).toUInt32).toInt32).toInt := by
  have e := c_iushr x 2 2 (by decide) (by decide)
  have r := rng32 x
  omega
theorem own_b {x bb : Int32} (h : x &&& (63 : Int32) = bb) : 0 ≤ bb.toInt ∧ bb.toInt < 64 := by
  have e := c_mask x 63 6 (by decide) (by decide)
  rw [h] at e
  omega
theorem d1_0 : decode jdk_29_method_69_code 0 = .ok (.iload_n 0, 1) := by decide +kernel
theorem d1_1 : decode jdk_29_method_69_code 1 = .ok (.iload_n 1, 1) := by decide +kernel
theorem d1_2 : decode jdk_29_method_69_code 2 = .ok (.if_icmp .gt 7, 3) := by decide +kernel
theorem d1_5 : decode jdk_29_method_69_code 5 = .ok (.iload_n 0, 1) := by decide +kernel
theorem d1_6 : decode jdk_29_method_69_code 6 = .ok (.goto 4, 3) := by decide +kernel
theorem d1_9 : decode jdk_29_method_69_code 9 = .ok (.iload_n 1, 1) := by decide +kernel
theorem d1_10 : decode jdk_29_method_69_code 10 = .ok (.ireturn, 1) := by decide +kernel
def Qrm1 (Z : State) (p0 : Int32) (p1 : Int32) (h0 : Heap) (n0 : Nat) (v : Option Value) (h : Heap) (L : List Loc) : Prop := v = some (.int (if p1 < p0 then p1 else p0)) ∧ Fr n0 L ∧ h = h0
set_option maxRecDepth 65536 in
set_option maxHeartbeats 40000000 in
theorem rm1 (l : Launch) (Z : State) (a0 : Array Value) (hw : ∀ d ∈ tables_1, d.before a0 Z = true) (ws : List Jvm.Cond) (p0 : Int32) (p1 : Int32) (h0 : Heap) (n0 : Nat) (Z0 : n0 ≤ h0.size) :
    MetFree l (⟨"java/lang/Math", "min", "(II)I"⟩ : MethodName) (head1 (Jvm.Cond.code (⟨"java/lang/Math", "min", "(II)I"⟩ : MethodName) jdk_29_method_69_code 2 (some .int) :: ws) ({ frames := 0, cells := 0, slots := 0, locals := 0 } : Room)) (fun a U => a = #[(.int p0), (.int p1)] ∧ Z.Warmed39 U.vm ∧ U.heap = h0) (fun _ _ _ _ _ => True) (fun _ U o U' => ∃ v L, o = .returned v ∧ Qrm1 Z p0 p1 h0 n0 v U'.heap L ∧ FrameEnd U o U' L ({ frames := 0, cells := 0, slots := 0, locals := 0 } : Room).cells ({ frames := 0, cells := 0, slots := 0, locals := 0 } : Room).slots) := by
  refine MetFree.of_bodySF (Jvm.Free.JP.mathPlain rfl (by decide +kernel)) hisR ?_
  intro p e s m args below meth c s₁ Bd hml0 hP hK
  obtain ⟨rfl, hZ, hh⟩ := hP
  have hx := Bd.exec
  have hby := Bd.bytes
  have hml : c.maxLocals = 2 := hml0
  have hown : s.vm.findClass "java/lang/Math" = some m.cls := findClass_of_methodNamed Bd.named
  have hnm := (name_of_methodNamed Bd.named Bd.method).1
  have X0 : Stand p l e ({ frames := 0, cells := 0, slots := 0, locals := 0 } : Room) s m #[(.int p0), (.int p1)] below meth c s₁ [] 0 0 := Stand.of_body Bd
  have e0 : s₁.heap = h0 := by rw [← hh, Bd.state]; rfl
  have N0 := Fr.nil n0
  have ZZ := Z0
  show Go p e below s (Qrm1 Z p0 p1 h0 n0) 0 0 (s₁.setTop (entryFrame m #[(.int p0), (.int p1)] 2))
  generalize hQQ : (Qrm1 Z p0 p1 h0 n0) = QQ
  refine gs (fun t k => castTop (g' := (mkF m 0 #[.val (.int p0), .val (.int p1)] [])) (by first | (simp [entryFrame, mkF, argsToLocals, Value.category, maxLocals]; done) | rfl) k) ?_
  show Go p e below s QQ 0 0 (s₁.setTop (mkF m 0 #[.val (.int p0), .val (.int p1)] []))
  refine gs (fun t => XS.iloadN X0.here hx rfl (hb hby d1_0) rfl) ?_
  show Go p e below s QQ 0 0 (s₁.setTop (mkF m 1 #[.val (.int p0), .val (.int p1)] [(.int p0)]))
  refine gs (fun t => XS.iloadN X0.here hx rfl (hb hby d1_1) rfl) ?_
  show Go p e below s QQ 0 0 (s₁.setTop (mkF m 2 #[.val (.int p0), .val (.int p1)] [(.int p1), (.int p0)]))
  by_cases hc : p1 < p0
  · skip
    refine gs (fun t => XS.icmpYes X0.here hx rfl (pc0 := 2) (pc' := 9) rfl (hb hby d1_2) rfl (tlt hc).2.2.1 (by decide) (by decide)) ?_
    show Go p e below s QQ 0 0 (s₁.setTop (mkF m 9 #[.val (.int p0), .val (.int p1)] []))
    refine gs (fun t => XS.iloadN X0.here hx rfl (hb hby d1_9) rfl) ?_
    show Go p e below s QQ 0 0 (s₁.setTop (mkF m 10 #[.val (.int p0), .val (.int p1)] [(.int p1)]))
    exact goI X0 hx Bd.notSynchronized Bd.returns (hb hby d1_10) (by rw [← hQQ, e0]; exact ⟨by simp [hc], N0, rfl⟩) (by decide) (by decide)
  · skip
    refine gs (fun t => XS.icmpNo X0.here hx rfl (hb hby d1_2) rfl (flt hc).2.2.1) ?_
    show Go p e below s QQ 0 0 (s₁.setTop (mkF m 5 #[.val (.int p0), .val (.int p1)] []))
    refine gs (fun t => XS.iloadN X0.here hx rfl (hb hby d1_5) rfl) ?_
    show Go p e below s QQ 0 0 (s₁.setTop (mkF m 6 #[.val (.int p0), .val (.int p1)] [(.int p0)]))
    refine gs (fun t => XS.goto X0.here hx rfl (pc0 := 6) (pc' := 10) rfl (hb hby d1_6) (by decide) (by decide)) ?_
    show Go p e below s QQ 0 0 (s₁.setTop (mkF m 10 #[.val (.int p0), .val (.int p1)] [(.int p0)]))
    exact goI X0 hx Bd.notSynchronized Bd.returns (hb hby d1_10) (by rw [← hQQ, e0]; exact ⟨by simp [hc], N0, rfl⟩) (by decide) (by decide)
theorem d2_0 : decode jdk_29_method_65_code 0 = .ok (.iload_n 0, 1) := by decide +kernel
theorem d2_1 : decode jdk_29_method_65_code 1 = .ok (.iload_n 1, 1) := by decide +kernel
theorem d2_2 : decode jdk_29_method_65_code 2 = .ok (.if_icmp .lt 7, 3) := by decide +kernel
theorem d2_5 : decode jdk_29_method_65_code 5 = .ok (.iload_n 0, 1) := by decide +kernel
theorem d2_6 : decode jdk_29_method_65_code 6 = .ok (.goto 4, 3) := by decide +kernel
theorem d2_9 : decode jdk_29_method_65_code 9 = .ok (.iload_n 1, 1) := by decide +kernel
theorem d2_10 : decode jdk_29_method_65_code 10 = .ok (.ireturn, 1) := by decide +kernel
def Qrm2 (Z : State) (p0 : Int32) (p1 : Int32) (h0 : Heap) (n0 : Nat) (v : Option Value) (h : Heap) (L : List Loc) : Prop := v = some (.int (if p0 < p1 then p1 else p0)) ∧ Fr n0 L ∧ h = h0
set_option maxRecDepth 65536 in
set_option maxHeartbeats 40000000 in
theorem rm2 (l : Launch) (Z : State) (a0 : Array Value) (hw : ∀ d ∈ tables_1, d.before a0 Z = true) (ws : List Jvm.Cond) (p0 : Int32) (p1 : Int32) (h0 : Heap) (n0 : Nat) (Z0 : n0 ≤ h0.size) :
    MetFree l (⟨"java/lang/Math", "max", "(II)I"⟩ : MethodName) (head1 (Jvm.Cond.code (⟨"java/lang/Math", "max", "(II)I"⟩ : MethodName) jdk_29_method_65_code 2 (some .int) :: ws) ({ frames := 0, cells := 0, slots := 0, locals := 0 } : Room)) (fun a U => a = #[(.int p0), (.int p1)] ∧ Z.Warmed39 U.vm ∧ U.heap = h0) (fun _ _ _ _ _ => True) (fun _ U o U' => ∃ v L, o = .returned v ∧ Qrm2 Z p0 p1 h0 n0 v U'.heap L ∧ FrameEnd U o U' L ({ frames := 0, cells := 0, slots := 0, locals := 0 } : Room).cells ({ frames := 0, cells := 0, slots := 0, locals := 0 } : Room).slots) := by
  refine MetFree.of_bodySF (Jvm.Free.JP.mathPlain rfl (by decide +kernel)) hisR ?_
  intro p e s m args below meth c s₁ Bd hml0 hP hK
  obtain ⟨rfl, hZ, hh⟩ := hP
  have hx := Bd.exec
  have hby := Bd.bytes
  have hml : c.maxLocals = 2 := hml0
  have hown : s.vm.findClass "java/lang/Math" = some m.cls := findClass_of_methodNamed Bd.named
  have hnm := (name_of_methodNamed Bd.named Bd.method).1
  have X0 : Stand p l e ({ frames := 0, cells := 0, slots := 0, locals := 0 } : Room) s m #[(.int p0), (.int p1)] below meth c s₁ [] 0 0 := Stand.of_body Bd
  have e0 : s₁.heap = h0 := by rw [← hh, Bd.state]; rfl
  have N0 := Fr.nil n0
  have ZZ := Z0
  show Go p e below s (Qrm2 Z p0 p1 h0 n0) 0 0 (s₁.setTop (entryFrame m #[(.int p0), (.int p1)] 2))
  generalize hQQ : (Qrm2 Z p0 p1 h0 n0) = QQ
  refine gs (fun t k => castTop (g' := (mkF m 0 #[.val (.int p0), .val (.int p1)] [])) (by first | (simp [entryFrame, mkF, argsToLocals, Value.category, maxLocals]; done) | rfl) k) ?_
  show Go p e below s QQ 0 0 (s₁.setTop (mkF m 0 #[.val (.int p0), .val (.int p1)] []))
  refine gs (fun t => XS.iloadN X0.here hx rfl (hb hby d2_0) rfl) ?_
  show Go p e below s QQ 0 0 (s₁.setTop (mkF m 1 #[.val (.int p0), .val (.int p1)] [(.int p0)]))
  refine gs (fun t => XS.iloadN X0.here hx rfl (hb hby d2_1) rfl) ?_
  show Go p e below s QQ 0 0 (s₁.setTop (mkF m 2 #[.val (.int p0), .val (.int p1)] [(.int p1), (.int p0)]))
  by_cases hc : p0 < p1
  · skip
    refine gs (fun t => XS.icmpYes X0.here hx rfl (pc0 := 2) (pc' := 9) rfl (hb hby d2_2) rfl (tlt hc).1 (by decide) (by decide)) ?_
    show Go p e below s QQ 0 0 (s₁.setTop (mkF m 9 #[.val (.int p0), .val (.int p1)] []))
    refine gs (fun t => XS.iloadN X0.here hx rfl (hb hby d2_9) rfl) ?_
    show Go p e below s QQ 0 0 (s₁.setTop (mkF m 10 #[.val (.int p0), .val (.int p1)] [(.int p1)]))
    exact goI X0 hx Bd.notSynchronized Bd.returns (hb hby d2_10) (by rw [← hQQ, e0]; exact ⟨by simp [hc], N0, rfl⟩) (by decide) (by decide)
  · skip
    refine gs (fun t => XS.icmpNo X0.here hx rfl (hb hby d2_2) rfl (flt hc).1) ?_
    show Go p e below s QQ 0 0 (s₁.setTop (mkF m 5 #[.val (.int p0), .val (.int p1)] []))
    refine gs (fun t => XS.iloadN X0.here hx rfl (hb hby d2_5) rfl) ?_
    show Go p e below s QQ 0 0 (s₁.setTop (mkF m 6 #[.val (.int p0), .val (.int p1)] [(.int p0)]))
    refine gs (fun t => XS.goto X0.here hx rfl (pc0 := 6) (pc' := 10) rfl (hb hby d2_6) (by decide) (by decide)) ?_
    show Go p e below s QQ 0 0 (s₁.setTop (mkF m 10 #[.val (.int p0), .val (.int p1)] [(.int p0)]))
    exact goI X0 hx Bd.notSynchronized Bd.returns (hb hby d2_10) (by rw [← hQQ, e0]; exact ⟨by simp [hc], N0, rfl⟩) (by decide) (by decide)
theorem d3_0 : decode prog_17_method_15_code 0 = .ok (.ldc2_w 16, 3) := by decide +kernel
theorem d3_3 : decode prog_17_method_15_code 3 = .ok (.lstore_n 3, 1) := by decide +kernel
theorem d3_4 : decode prog_17_method_15_code 4 = .ok (.iload_n 0, 1) := by decide +kernel
theorem d3_5 : decode prog_17_method_15_code 5 = .ok (.iload_n 1, 1) := by decide +kernel
theorem d3_6 : decode prog_17_method_15_code 6 = .ok (.bipush 64, 2) := by decide +kernel
theorem d3_8 : decode prog_17_method_15_code 8 = .ok (.idiv, 1) := by decide +kernel
theorem d3_9 : decode prog_17_method_15_code 9 = .ok (.if_icmp .ne 11, 3) := by decide +kernel
theorem d3_12 : decode prog_17_method_15_code 12 = .ok (.lload_n 3, 1) := by decide +kernel
theorem d3_13 : decode prog_17_method_15_code 13 = .ok (.ldc2_w 16, 3) := by decide +kernel
theorem d3_16 : decode prog_17_method_15_code 16 = .ok (.iload_n 1, 1) := by decide +kernel
theorem d3_17 : decode prog_17_method_15_code 17 = .ok (.lshl, 1) := by decide +kernel
theorem d3_18 : decode prog_17_method_15_code 18 = .ok (.land, 1) := by decide +kernel
theorem d3_19 : decode prog_17_method_15_code 19 = .ok (.lstore_n 3, 1) := by decide +kernel
theorem d3_20 : decode prog_17_method_15_code 20 = .ok (.iload_n 0, 1) := by decide +kernel
theorem d3_21 : decode prog_17_method_15_code 21 = .ok (.iload_n 2, 1) := by decide +kernel
theorem d3_22 : decode prog_17_method_15_code 22 = .ok (.iconst 1, 1) := by decide +kernel
theorem d3_23 : decode prog_17_method_15_code 23 = .ok (.isub, 1) := by decide +kernel
theorem d3_24 : decode prog_17_method_15_code 24 = .ok (.bipush 64, 2) := by decide +kernel
theorem d3_26 : decode prog_17_method_15_code 26 = .ok (.idiv, 1) := by decide +kernel
theorem d3_27 : decode prog_17_method_15_code 27 = .ok (.if_icmp .ne 12, 3) := by decide +kernel
theorem d3_30 : decode prog_17_method_15_code 30 = .ok (.lload_n 3, 1) := by decide +kernel
theorem d3_31 : decode prog_17_method_15_code 31 = .ok (.ldc2_w 16, 3) := by decide +kernel
theorem d3_34 : decode prog_17_method_15_code 34 = .ok (.iload_n 2, 1) := by decide +kernel
theorem d3_35 : decode prog_17_method_15_code 35 = .ok (.ineg, 1) := by decide +kernel
theorem d3_36 : decode prog_17_method_15_code 36 = .ok (.lushr, 1) := by decide +kernel
theorem d3_37 : decode prog_17_method_15_code 37 = .ok (.land, 1) := by decide +kernel
theorem d3_38 : decode prog_17_method_15_code 38 = .ok (.lstore_n 3, 1) := by decide +kernel
theorem d3_39 : decode prog_17_method_15_code 39 = .ok (.lload_n 3, 1) := by decide +kernel
theorem d3_40 : decode prog_17_method_15_code 40 = .ok (.lreturn, 1) := by decide +kernel
theorem pn_3 : plainName "com/example/tuplewise/tuplewise/SparseBitSet" = true := by first | (simp [plainName, overriddenIn]; done) | decide +kernel
def Qrm3 (Z : State) (p0 : Int32) (p1 : Int32) (p2 : Int32) (h0 : Heap) (n0 : Nat) (v : Option Value) (h : Heap) (L : List Loc) : Prop := v = some (.long (own_rw p0 p1 p2)) ∧ Fr n0 L ∧ h = h0
set_option maxRecDepth 65536 in
set_option maxHeartbeats 40000000 in
theorem rm3 (l : Launch) (Z : State) (a0 : Array Value) (hw : ∀ d ∈ tables_1, d.before a0 Z = true) (ws : List Jvm.Cond) (p0 : Int32) (p1 : Int32) (p2 : Int32) (h0 : Heap) (n0 : Nat) (Z0 : n0 ≤ h0.size) :
    MetFree l (⟨"com/example/tuplewise/tuplewise/SparseBitSet", "rangeWord", "(III)J"⟩ : MethodName) (head1 (Jvm.Cond.code (⟨"com/example/tuplewise/tuplewise/SparseBitSet", "rangeWord", "(III)J"⟩ : MethodName) prog_17_method_15_code 5 (some .long) :: ws) ({ frames := 0, cells := 0, slots := 0, locals := 0 } : Room)) (fun a U => a = #[(.int p0), (.int p1), (.int p2)] ∧ Z.Warmed39 U.vm ∧ U.heap = h0) (fun _ _ _ _ _ => True) (fun _ U o U' => ∃ v L, o = .returned v ∧ Qrm3 Z p0 p1 p2 h0 n0 v U'.heap L ∧ FrameEnd U o U' L ({ frames := 0, cells := 0, slots := 0, locals := 0 } : Room).cells ({ frames := 0, cells := 0, slots := 0, locals := 0 } : Room).slots) := by
  refine MetFree.of_bodySF (plainFor_of_name pn_3) hisR ?_
  intro p e s m args below meth c s₁ Bd hml0 hP hK
  obtain ⟨rfl, hZ, hh⟩ := hP
  have hx := Bd.exec
  have hby := Bd.bytes
  have hml : c.maxLocals = 5 := hml0
  have hown : s.vm.findClass "com/example/tuplewise/tuplewise/SparseBitSet" = some m.cls := findClass_of_methodNamed Bd.named
  have hnm := (name_of_methodNamed Bd.named Bd.method).1
  have X0 : Stand p l e ({ frames := 0, cells := 0, slots := 0, locals := 0 } : Room) s m #[(.int p0), (.int p1), (.int p2)] below meth c s₁ [] 0 0 := Stand.of_body Bd
  have e0 : s₁.heap = h0 := by rw [← hh, Bd.state]; rfl
  have N0 := Fr.nil n0
  have ZZ := Z0
  show Go p e below s (Qrm3 Z p0 p1 p2 h0 n0) 0 0 (s₁.setTop (entryFrame m #[(.int p0), (.int p1), (.int p2)] 5))
  generalize hQQ : (Qrm3 Z p0 p1 p2 h0 n0) = QQ
  refine gs (fun t k => castTop (g' := (mkF m 0 #[.val (.int p0), .val (.int p1), .val (.int p2), .unset, .unset] [])) (by first | (simp [entryFrame, mkF, argsToLocals, Value.category, maxLocals]; done) | rfl) k) ?_
  show Go p e below s QQ 0 0 (s₁.setTop (mkF m 0 #[.val (.int p0), .val (.int p1), .val (.int p2), .unset, .unset] []))
  refine gs (fun t => X0.ldc2Long hx hown (mvT hZ (hw _ (List.mem_of_getElem? (i := 12) rfl))) (g := (mkF m 0 #[.val (.int p0), .val (.int p1), .val (.int p2), .unset, .unset] [])) rfl (hb hby d3_0) t) ?_
  show Go p e below s QQ 0 0 (s₁.setTop (mkF m 3 #[.val (.int p0), .val (.int p1), .val (.int p2), .unset, .unset] [(.long (-1 : Int64))]))
  refine gs (fun t => XS.lstoreN X0.here hx rfl (hb hby d3_3) rfl (l' := #[.val (.int p0), .val (.int p1), .val (.int p2), .val (.long (-1 : Int64)), .second]) rfl) ?_
  show Go p e below s QQ 0 0 (s₁.setTop (mkF m 4 #[.val (.int p0), .val (.int p1), .val (.int p2), .val (.long (-1 : Int64)), .second] []))
  refine gs (fun t => XS.iloadN X0.here hx rfl (hb hby d3_4) rfl) ?_
  show Go p e below s QQ 0 0 (s₁.setTop (mkF m 5 #[.val (.int p0), .val (.int p1), .val (.int p2), .val (.long (-1 : Int64)), .second] [(.int p0)]))
  refine gs (fun t => XS.iloadN X0.here hx rfl (hb hby d3_5) rfl) ?_
  show Go p e below s QQ 0 0 (s₁.setTop (mkF m 6 #[.val (.int p0), .val (.int p1), .val (.int p2), .val (.long (-1 : Int64)), .second] [(.int p1), (.int p0)]))
  refine gs (fun t => XS.bipush X0.here hx rfl (hb hby d3_6)) ?_
  show Go p e below s QQ 0 0 (s₁.setTop (mkF m 8 #[.val (.int p0), .val (.int p1), .val (.int p2), .val (.long (-1 : Int64)), .second] [(.int (64 : Int32)), (.int p1), (.int p0)]))
  refine gs (fun t => XS.idiv X0.here hx rfl (hb hby d3_8) rfl (by decide)) ?_
  show Go p e below s QQ 0 0 (s₁.setTop (mkF m 9 #[.val (.int p0), .val (.int p1), .val (.int p2), .val (.long (-1 : Int64)), .second] [(.int (p1 / (64 : Int32))), (.int p0)]))
  by_cases hc : p0 = (p1 / (64 : Int32))
  · skip
    refine gs (fun t => XS.icmpNo X0.here hx rfl (hb hby d3_9) rfl (teq hc).2) ?_
    show Go p e below s QQ 0 0 (s₁.setTop (mkF m 12 #[.val (.int p0), .val (.int p1), .val (.int p2), .val (.long (-1 : Int64)), .second] []))
    refine gs (fun t => XS.lloadN X0.here hx rfl (hb hby d3_12) rfl) ?_
    show Go p e below s QQ 0 0 (s₁.setTop (mkF m 13 #[.val (.int p0), .val (.int p1), .val (.int p2), .val (.long (-1 : Int64)), .second] [(.long (-1 : Int64))]))
    refine gs (fun t => X0.ldc2Long hx hown (mvT hZ (hw _ (List.mem_of_getElem? (i := 12) rfl))) (g := (mkF m 13 #[.val (.int p0), .val (.int p1), .val (.int p2), .val (.long (-1 : Int64)), .second] [(.long (-1 : Int64))])) rfl (hb hby d3_13) t) ?_
    show Go p e below s QQ 0 0 (s₁.setTop (mkF m 16 #[.val (.int p0), .val (.int p1), .val (.int p2), .val (.long (-1 : Int64)), .second] [(.long (-1 : Int64)), (.long (-1 : Int64))]))
    refine gs (fun t => XS.iloadN X0.here hx rfl (hb hby d3_16) rfl) ?_
    show Go p e below s QQ 0 0 (s₁.setTop (mkF m 17 #[.val (.int p0), .val (.int p1), .val (.int p2), .val (.long (-1 : Int64)), .second] [(.int p1), (.long (-1 : Int64)), (.long (-1 : Int64))]))
    refine gs (fun t => XS.lshl X0.here hx rfl (hb hby d3_17) rfl) ?_
    show Go p e below s QQ 0 0 (s₁.setTop (mkF m 18 #[.val (.int p0), .val (.int p1), .val (.int p2), .val (.long (-1 : Int64)), .second] [(.long ((-1 : Int64) <<< (p1 &&& 0x3f).toInt64)), (.long (-1 : Int64))]))
    refine gs (fun t => XS.land X0.here hx rfl (hb hby d3_18) rfl) ?_
    show Go p e below s QQ 0 0 (s₁.setTop (mkF m 19 #[.val (.int p0), .val (.int p1), .val (.int p2), .val (.long (-1 : Int64)), .second] [(.long ((-1 : Int64) &&& ((-1 : Int64) <<< (p1 &&& 0x3f).toInt64)))]))
    refine gs (fun t => XS.lstoreN X0.here hx rfl (hb hby d3_19) rfl (l' := #[.val (.int p0), .val (.int p1), .val (.int p2), .val (.long ((-1 : Int64) &&& ((-1 : Int64) <<< (p1 &&& 0x3f).toInt64))), .second]) rfl) ?_
    show Go p e below s QQ 0 0 (s₁.setTop (mkF m 20 #[.val (.int p0), .val (.int p1), .val (.int p2), .val (.long ((-1 : Int64) &&& ((-1 : Int64) <<< (p1 &&& 0x3f).toInt64))), .second] []))
    refine gs (fun t => XS.iloadN X0.here hx rfl (hb hby d3_20) rfl) ?_
    show Go p e below s QQ 0 0 (s₁.setTop (mkF m 21 #[.val (.int p0), .val (.int p1), .val (.int p2), .val (.long ((-1 : Int64) &&& ((-1 : Int64) <<< (p1 &&& 0x3f).toInt64))), .second] [(.int p0)]))
    refine gs (fun t => XS.iloadN X0.here hx rfl (hb hby d3_21) rfl) ?_
    show Go p e below s QQ 0 0 (s₁.setTop (mkF m 22 #[.val (.int p0), .val (.int p1), .val (.int p2), .val (.long ((-1 : Int64) &&& ((-1 : Int64) <<< (p1 &&& 0x3f).toInt64))), .second] [(.int p2), (.int p0)]))
    refine gs (fun t => XS.iconst X0.here hx rfl (hb hby d3_22)) ?_
    show Go p e below s QQ 0 0 (s₁.setTop (mkF m 23 #[.val (.int p0), .val (.int p1), .val (.int p2), .val (.long ((-1 : Int64) &&& ((-1 : Int64) <<< (p1 &&& 0x3f).toInt64))), .second] [(.int (1 : Int32)), (.int p2), (.int p0)]))
    refine gs (fun t => XS.isub X0.here hx rfl (hb hby d3_23) rfl) ?_
    show Go p e below s QQ 0 0 (s₁.setTop (mkF m 24 #[.val (.int p0), .val (.int p1), .val (.int p2), .val (.long ((-1 : Int64) &&& ((-1 : Int64) <<< (p1 &&& 0x3f).toInt64))), .second] [(.int (p2 - (1 : Int32))), (.int p0)]))
    refine gs (fun t => XS.bipush X0.here hx rfl (hb hby d3_24)) ?_
    show Go p e below s QQ 0 0 (s₁.setTop (mkF m 26 #[.val (.int p0), .val (.int p1), .val (.int p2), .val (.long ((-1 : Int64) &&& ((-1 : Int64) <<< (p1 &&& 0x3f).toInt64))), .second] [(.int (64 : Int32)), (.int (p2 - (1 : Int32))), (.int p0)]))
    refine gs (fun t => XS.idiv X0.here hx rfl (hb hby d3_26) rfl (by decide)) ?_
    show Go p e below s QQ 0 0 (s₁.setTop (mkF m 27 #[.val (.int p0), .val (.int p1), .val (.int p2), .val (.long ((-1 : Int64) &&& ((-1 : Int64) <<< (p1 &&& 0x3f).toInt64))), .second] [(.int ((p2 - (1 : Int32)) / (64 : Int32))), (.int p0)]))
    by_cases hd : p0 = ((p2 - (1 : Int32)) / (64 : Int32))
    · skip
      refine gs (fun t => XS.icmpNo X0.here hx rfl (hb hby d3_27) rfl (teq hd).2) ?_
      show Go p e below s QQ 0 0 (s₁.setTop (mkF m 30 #[.val (.int p0), .val (.int p1), .val (.int p2), .val (.long ((-1 : Int64) &&& ((-1 : Int64) <<< (p1 &&& 0x3f).toInt64))), .second] []))
      refine gs (fun t => XS.lloadN X0.here hx rfl (hb hby d3_30) rfl) ?_
      show Go p e below s QQ 0 0 (s₁.setTop (mkF m 31 #[.val (.int p0), .val (.int p1), .val (.int p2), .val (.long ((-1 : Int64) &&& ((-1 : Int64) <<< (p1 &&& 0x3f).toInt64))), .second] [(.long ((-1 : Int64) &&& ((-1 : Int64) <<< (p1 &&& 0x3f).toInt64)))]))
      refine gs (fun t => X0.ldc2Long hx hown (mvT hZ (hw _ (List.mem_of_getElem? (i := 12) rfl))) (g := (mkF m 31 #[.val (.int p0), .val (.int p1), .val (.int p2), .val (.long ((-1 : Int64) &&& ((-1 : Int64) <<< (p1 &&& 0x3f).toInt64))), .second] [(.long ((-1 : Int64) &&& ((-1 : Int64) <<< (p1 &&& 0x3f).toInt64)))])) rfl (hb hby d3_31) t) ?_
      show Go p e below s QQ 0 0 (s₁.setTop (mkF m 34 #[.val (.int p0), .val (.int p1), .val (.int p2), .val (.long ((-1 : Int64) &&& ((-1 : Int64) <<< (p1 &&& 0x3f).toInt64))), .second] [(.long (-1 : Int64)), (.long ((-1 : Int64) &&& ((-1 : Int64) <<< (p1 &&& 0x3f).toInt64)))]))
      refine gs (fun t => XS.iloadN X0.here hx rfl (hb hby d3_34) rfl) ?_
      show Go p e below s QQ 0 0 (s₁.setTop (mkF m 35 #[.val (.int p0), .val (.int p1), .val (.int p2), .val (.long ((-1 : Int64) &&& ((-1 : Int64) <<< (p1 &&& 0x3f).toInt64))), .second] [(.int p2), (.long (-1 : Int64)), (.long ((-1 : Int64) &&& ((-1 : Int64) <<< (p1 &&& 0x3f).toInt64)))]))
      refine gs (fun t => XS.ineg X0.here hx rfl (hb hby d3_35) rfl) ?_
      show Go p e below s QQ 0 0 (s₁.setTop (mkF m 36 #[.val (.int p0), .val (.int p1), .val (.int p2), .val (.long ((-1 : Int64) &&& ((-1 : Int64) <<< (p1 &&& 0x3f).toInt64))), .second] [(.int (-p2)), (.long (-1 : Int64)), (.long ((-1 : Int64) &&& ((-1 : Int64) <<< (p1 &&& 0x3f).toInt64)))]))
      refine gs (fun t => XS.lushr X0.here hx rfl (hb hby d3_36) rfl) ?_
      show Go p e below s QQ 0 0 (s₁.setTop (mkF m 37 #[.val (.int p0), .val (.int p1), .val (.int p2), .val (.long ((-1 : Int64) &&& ((-1 : Int64) <<< (p1 &&& 0x3f).toInt64))), .second] [(.long (((-1 : Int64).toUInt64 >>> ((-p2) &&& 0x3f).toInt64.toUInt64).toInt64)), (.long ((-1 : Int64) &&& ((-1 : Int64) <<< (p1 &&& 0x3f).toInt64)))]))
      refine gs (fun t => XS.land X0.here hx rfl (hb hby d3_37) rfl) ?_
      show Go p e below s QQ 0 0 (s₁.setTop (mkF m 38 #[.val (.int p0), .val (.int p1), .val (.int p2), .val (.long ((-1 : Int64) &&& ((-1 : Int64) <<< (p1 &&& 0x3f).toInt64))), .second] [(.long (((-1 : Int64) &&& ((-1 : Int64) <<< (p1 &&& 0x3f).toInt64)) &&& (((-1 : Int64).toUInt64 >>> ((-p2) &&& 0x3f).toInt64.toUInt64).toInt64)))]))
      refine gs (fun t => XS.lstoreN X0.here hx rfl (hb hby d3_38) rfl (l' := #[.val (.int p0), .val (.int p1), .val (.int p2), .val (.long (((-1 : Int64) &&& ((-1 : Int64) <<< (p1 &&& 0x3f).toInt64)) &&& (((-1 : Int64).toUInt64 >>> ((-p2) &&& 0x3f).toInt64.toUInt64).toInt64))), .second]) rfl) ?_
      show Go p e below s QQ 0 0 (s₁.setTop (mkF m 39 #[.val (.int p0), .val (.int p1), .val (.int p2), .val (.long (((-1 : Int64) &&& ((-1 : Int64) <<< (p1 &&& 0x3f).toInt64)) &&& (((-1 : Int64).toUInt64 >>> ((-p2) &&& 0x3f).toInt64.toUInt64).toInt64))), .second] []))
      refine gs (fun t => XS.lloadN X0.here hx rfl (hb hby d3_39) rfl) ?_
      show Go p e below s QQ 0 0 (s₁.setTop (mkF m 40 #[.val (.int p0), .val (.int p1), .val (.int p2), .val (.long (((-1 : Int64) &&& ((-1 : Int64) <<< (p1 &&& 0x3f).toInt64)) &&& (((-1 : Int64).toUInt64 >>> ((-p2) &&& 0x3f).toInt64.toUInt64).toInt64))), .second] [(.long (((-1 : Int64) &&& ((-1 : Int64) <<< (p1 &&& 0x3f).toInt64)) &&& (((-1 : Int64).toUInt64 >>> ((-p2) &&& 0x3f).toInt64.toUInt64).toInt64)))]))
      exact goJ X0 hx Bd.notSynchronized Bd.returns (hb hby d3_40) (by rw [← hQQ, e0]; exact ⟨by unfold own_rw own_lo; rw [if_pos hd, if_pos hc], N0, rfl⟩) (by decide) (by decide)
    · skip
      refine gs (fun t => XS.icmpYes X0.here hx rfl (pc0 := 27) (pc' := 39) rfl (hb hby d3_27) rfl (feq hd).2 (by decide) (by decide)) ?_
      show Go p e below s QQ 0 0 (s₁.setTop (mkF m 39 #[.val (.int p0), .val (.int p1), .val (.int p2), .val (.long ((-1 : Int64) &&& ((-1 : Int64) <<< (p1 &&& 0x3f).toInt64))), .second] []))
      refine gs (fun t => XS.lloadN X0.here hx rfl (hb hby d3_39) rfl) ?_
      show Go p e below s QQ 0 0 (s₁.setTop (mkF m 40 #[.val (.int p0), .val (.int p1), .val (.int p2), .val (.long ((-1 : Int64) &&& ((-1 : Int64) <<< (p1 &&& 0x3f).toInt64))), .second] [(.long ((-1 : Int64) &&& ((-1 : Int64) <<< (p1 &&& 0x3f).toInt64)))]))
      exact goJ X0 hx Bd.notSynchronized Bd.returns (hb hby d3_40) (by rw [← hQQ, e0]; exact ⟨by unfold own_rw own_lo; rw [if_neg hd, if_pos hc], N0, rfl⟩) (by decide) (by decide)
  · skip
    refine gs (fun t => XS.icmpYes X0.here hx rfl (pc0 := 9) (pc' := 20) rfl (hb hby d3_9) rfl (feq hc).2 (by decide) (by decide)) ?_
    show Go p e below s QQ 0 0 (s₁.setTop (mkF m 20 #[.val (.int p0), .val (.int p1), .val (.int p2), .val (.long (-1 : Int64)), .second] []))
    refine gs (fun t => XS.iloadN X0.here hx rfl (hb hby d3_20) rfl) ?_
    show Go p e below s QQ 0 0 (s₁.setTop (mkF m 21 #[.val (.int p0), .val (.int p1), .val (.int p2), .val (.long (-1 : Int64)), .second] [(.int p0)]))
    refine gs (fun t => XS.iloadN X0.here hx rfl (hb hby d3_21) rfl) ?_
    show Go p e below s QQ 0 0 (s₁.setTop (mkF m 22 #[.val (.int p0), .val (.int p1), .val (.int p2), .val (.long (-1 : Int64)), .second] [(.int p2), (.int p0)]))
    refine gs (fun t => XS.iconst X0.here hx rfl (hb hby d3_22)) ?_
    show Go p e below s QQ 0 0 (s₁.setTop (mkF m 23 #[.val (.int p0), .val (.int p1), .val (.int p2), .val (.long (-1 : Int64)), .second] [(.int (1 : Int32)), (.int p2), (.int p0)]))
    refine gs (fun t => XS.isub X0.here hx rfl (hb hby d3_23) rfl) ?_
    show Go p e below s QQ 0 0 (s₁.setTop (mkF m 24 #[.val (.int p0), .val (.int p1), .val (.int p2), .val (.long (-1 : Int64)), .second] [(.int (p2 - (1 : Int32))), (.int p0)]))
    refine gs (fun t => XS.bipush X0.here hx rfl (hb hby d3_24)) ?_
    show Go p e below s QQ 0 0 (s₁.setTop (mkF m 26 #[.val (.int p0), .val (.int p1), .val (.int p2), .val (.long (-1 : Int64)), .second] [(.int (64 : Int32)), (.int (p2 - (1 : Int32))), (.int p0)]))
    refine gs (fun t => XS.idiv X0.here hx rfl (hb hby d3_26) rfl (by decide)) ?_
    show Go p e below s QQ 0 0 (s₁.setTop (mkF m 27 #[.val (.int p0), .val (.int p1), .val (.int p2), .val (.long (-1 : Int64)), .second] [(.int ((p2 - (1 : Int32)) / (64 : Int32))), (.int p0)]))
    by_cases hd : p0 = ((p2 - (1 : Int32)) / (64 : Int32))
    · skip
      refine gs (fun t => XS.icmpNo X0.here hx rfl (hb hby d3_27) rfl (teq hd).2) ?_
      show Go p e below s QQ 0 0 (s₁.setTop (mkF m 30 #[.val (.int p0), .val (.int p1), .val (.int p2), .val (.long (-1 : Int64)), .second] []))
      refine gs (fun t => XS.lloadN X0.here hx rfl (hb hby d3_30) rfl) ?_
      show Go p e below s QQ 0 0 (s₁.setTop (mkF m 31 #[.val (.int p0), .val (.int p1), .val (.int p2), .val (.long (-1 : Int64)), .second] [(.long (-1 : Int64))]))
      refine gs (fun t => X0.ldc2Long hx hown (mvT hZ (hw _ (List.mem_of_getElem? (i := 12) rfl))) (g := (mkF m 31 #[.val (.int p0), .val (.int p1), .val (.int p2), .val (.long (-1 : Int64)), .second] [(.long (-1 : Int64))])) rfl (hb hby d3_31) t) ?_
      show Go p e below s QQ 0 0 (s₁.setTop (mkF m 34 #[.val (.int p0), .val (.int p1), .val (.int p2), .val (.long (-1 : Int64)), .second] [(.long (-1 : Int64)), (.long (-1 : Int64))]))
      refine gs (fun t => XS.iloadN X0.here hx rfl (hb hby d3_34) rfl) ?_
      show Go p e below s QQ 0 0 (s₁.setTop (mkF m 35 #[.val (.int p0), .val (.int p1), .val (.int p2), .val (.long (-1 : Int64)), .second] [(.int p2), (.long (-1 : Int64)), (.long (-1 : Int64))]))
      refine gs (fun t => XS.ineg X0.here hx rfl (hb hby d3_35) rfl) ?_
      show Go p e below s QQ 0 0 (s₁.setTop (mkF m 36 #[.val (.int p0), .val (.int p1), .val (.int p2), .val (.long (-1 : Int64)), .second] [(.int (-p2)), (.long (-1 : Int64)), (.long (-1 : Int64))]))
      refine gs (fun t => XS.lushr X0.here hx rfl (hb hby d3_36) rfl) ?_
      show Go p e below s QQ 0 0 (s₁.setTop (mkF m 37 #[.val (.int p0), .val (.int p1), .val (.int p2), .val (.long (-1 : Int64)), .second] [(.long (((-1 : Int64).toUInt64 >>> ((-p2) &&& 0x3f).toInt64.toUInt64).toInt64)), (.long (-1 : Int64))]))
      refine gs (fun t => XS.land X0.here hx rfl (hb hby d3_37) rfl) ?_
      show Go p e below s QQ 0 0 (s₁.setTop (mkF m 38 #[.val (.int p0), .val (.int p1), .val (.int p2), .val (.long (-1 : Int64)), .second] [(.long ((-1 : Int64) &&& (((-1 : Int64).toUInt64 >>> ((-p2) &&& 0x3f).toInt64.toUInt64).toInt64)))]))
      refine gs (fun t => XS.lstoreN X0.here hx rfl (hb hby d3_38) rfl (l' := #[.val (.int p0), .val (.int p1), .val (.int p2), .val (.long ((-1 : Int64) &&& (((-1 : Int64).toUInt64 >>> ((-p2) &&& 0x3f).toInt64.toUInt64).toInt64))), .second]) rfl) ?_
      show Go p e below s QQ 0 0 (s₁.setTop (mkF m 39 #[.val (.int p0), .val (.int p1), .val (.int p2), .val (.long ((-1 : Int64) &&& (((-1 : Int64).toUInt64 >>> ((-p2) &&& 0x3f).toInt64.toUInt64).toInt64))), .second] []))
      refine gs (fun t => XS.lloadN X0.here hx rfl (hb hby d3_39) rfl) ?_
      show Go p e below s QQ 0 0 (s₁.setTop (mkF m 40 #[.val (.int p0), .val (.int p1), .val (.int p2), .val (.long ((-1 : Int64) &&& (((-1 : Int64).toUInt64 >>> ((-p2) &&& 0x3f).toInt64.toUInt64).toInt64))), .second] [(.long ((-1 : Int64) &&& (((-1 : Int64).toUInt64 >>> ((-p2) &&& 0x3f).toInt64.toUInt64).toInt64)))]))
      exact goJ X0 hx Bd.notSynchronized Bd.returns (hb hby d3_40) (by rw [← hQQ, e0]; exact ⟨by unfold own_rw own_lo; rw [if_pos hd, if_neg hc], N0, rfl⟩) (by decide) (by decide)
    · skip
      refine gs (fun t => XS.icmpYes X0.here hx rfl (pc0 := 27) (pc' := 39) rfl (hb hby d3_27) rfl (feq hd).2 (by decide) (by decide)) ?_
      show Go p e below s QQ 0 0 (s₁.setTop (mkF m 39 #[.val (.int p0), .val (.int p1), .val (.int p2), .val (.long (-1 : Int64)), .second] []))
      refine gs (fun t => XS.lloadN X0.here hx rfl (hb hby d3_39) rfl) ?_
      show Go p e below s QQ 0 0 (s₁.setTop (mkF m 40 #[.val (.int p0), .val (.int p1), .val (.int p2), .val (.long (-1 : Int64)), .second] [(.long (-1 : Int64))]))
      exact goJ X0 hx Bd.notSynchronized Bd.returns (hb hby d3_40) (by rw [← hQQ, e0]; exact ⟨by unfold own_rw own_lo; rw [if_neg hd, if_neg hc], N0, rfl⟩) (by decide) (by decide)
theorem pn_0 : plainName "com/example/tuplewise/tuplewise/SparseBitSetRangeWordPinLaw" = true := by first | (simp [plainName, overriddenIn]; done) | decide +kernel
def Qrm0 (Z : State) (p0 : Int32) (p1 : Int32) (p2 : Int32) (p3 : Int32) (h0 : Heap) (n0 : Nat) (v : Option Value) (h : Heap) (L : List Loc) : Prop := v = some (.int 1) ∧ Fr n0 L
set_option maxRecDepth 65536 in
set_option maxHeartbeats 40000000 in
theorem rm0 (l : Launch) (Z : State) (a0 : Array Value) (hw : ∀ d ∈ tables_1, d.before a0 Z = true) (ws : List Jvm.Cond) (p0 : Int32) (p1 : Int32) (p2 : Int32) (p3 : Int32) (h0 : Heap) (n0 : Nat) (Z0 : n0 ≤ h0.size) :
    MetFree l x (head1 (Jvm.Cond.code x code maxLocals ret :: ws) room_1) (fun a U => a = #[(.int p0), (.int p1), (.int p2), (.int p3)] ∧ Z.Warmed39 U.vm ∧ U.heap = h0) (fun _ _ _ _ _ => True) (fun _ U o U' => ∃ v L, o = .returned v ∧ Qrm0 Z p0 p1 p2 p3 h0 n0 v U'.heap L ∧ FrameEnd U o U' L room_1.cells room_1.slots) := by
  refine MetFree.of_bodySF (plainFor_of_name pn_0) hisR ?_
  intro p e s m args below meth c s₁ Bd hml0 hP hK
  obtain ⟨rfl, hZ, hh⟩ := hP
  have hx := Bd.exec
  have hby := Bd.bytes
  have hml : c.maxLocals = 19 := hml0
  have hown : s.vm.findClass "com/example/tuplewise/tuplewise/SparseBitSetRangeWordPinLaw" = some m.cls := findClass_of_methodNamed Bd.named
  have hnm := (name_of_methodNamed Bd.named Bd.method).1
  have X0 : Stand p l e room_1 s m #[(.int p0), (.int p1), (.int p2), (.int p3)] below meth c s₁ [] 0 0 := Stand.of_body Bd
  have e0 : s₁.heap = h0 := by rw [← hh, Bd.state]; rfl
  have N0 := Fr.nil n0
  have ZZ := Z0
  show Go p e below s (Qrm0 Z p0 p1 p2 p3 h0 n0) room_1.cells room_1.slots (s₁.setTop (entryFrame m #[(.int p0), (.int p1), (.int p2), (.int p3)] maxLocals))
  generalize hQQ : (Qrm0 Z p0 p1 p2 p3 h0 n0) = QQ
  refine gs (fun t k => castTop (g' := (mkF m 0 #[.val (.int p0), .val (.int p1), .val (.int p2), .val (.int p3), .unset, .unset, .unset, .unset, .unset, .unset, .unset, .unset, .unset, .unset, .unset, .unset, .unset, .unset, .unset] [])) (by first | (simp [entryFrame, mkF, argsToLocals, Value.category, maxLocals]; done) | rfl) k) ?_
  show Go p e below s QQ room_1.cells room_1.slots (s₁.setTop (mkF m 0 #[.val (.int p0), .val (.int p1), .val (.int p2), .val (.int p3), .unset, .unset, .unset, .unset, .unset, .unset, .unset, .unset, .unset, .unset, .unset, .unset, .unset, .unset, .unset] []))
  refine gs (fun t => XS.iloadN X0.here hx rfl (hb hby at_0) rfl) ?_
  show Go p e below s QQ room_1.cells room_1.slots (s₁.setTop (mkF m 1 #[.val (.int p0), .val (.int p1), .val (.int p2), .val (.int p3), .unset, .unset, .unset, .unset, .unset, .unset, .unset, .unset, .unset, .unset, .unset, .unset, .unset, .unset, .unset] [(.int p0)]))
  refine gs (fun t => X0.ldcInt hx hown (mvT hZ (hw _ (List.mem_of_getElem? (i := 0) rfl))) (g := (mkF m 1 #[.val (.int p0), .val (.int p1), .val (.int p2), .val (.int p3), .unset, .unset, .unset, .unset, .unset, .unset, .unset, .unset, .unset, .unset, .unset, .unset, .unset, .unset, .unset] [(.int p0)])) rfl (hb hby at_1) t) ?_
  show Go p e below s QQ room_1.cells room_1.slots (s₁.setTop (mkF m 3 #[.val (.int p0), .val (.int p1), .val (.int p2), .val (.int p3), .unset, .unset, .unset, .unset, .unset, .unset, .unset, .unset, .unset, .unset, .unset, .unset, .unset, .unset, .unset] [(.int (2147483647 : Int32)), (.int p0)]))
  refine gs (fun t => XS.iand X0.here hx rfl (hb hby at_3) rfl) ?_
  show Go p e below s QQ room_1.cells room_1.slots (s₁.setTop (mkF m 4 #[.val (.int p0), .val (.int p1), .val (.int p2), .val (.int p3), .unset, .unset, .unset, .unset, .unset, .unset, .unset, .unset, .unset, .unset, .unset, .unset, .unset, .unset, .unset] [(.int (p0 &&& (2147483647 : Int32)))]))
  generalize haa : (p0 &&& (2147483647 : Int32)) = aa
  show Go p e below s QQ room_1.cells room_1.slots (s₁.setTop (mkF m 4 #[.val (.int p0), .val (.int p1), .val (.int p2), .val (.int p3), .unset, .unset, .unset, .unset, .unset, .unset, .unset, .unset, .unset, .unset, .unset, .unset, .unset, .unset, .unset] [(.int aa)]))
  refine gs (fun t => XS.istore X0.here hx rfl (hb hby at_4) rfl (l' := #[.val (.int p0), .val (.int p1), .val (.int p2), .val (.int p3), .val (.int aa), .unset, .unset, .unset, .unset, .unset, .unset, .unset, .unset, .unset, .unset, .unset, .unset, .unset, .unset]) rfl) ?_
  show Go p e below s QQ room_1.cells room_1.slots (s₁.setTop (mkF m 6 #[.val (.int p0), .val (.int p1), .val (.int p2), .val (.int p3), .val (.int aa), .unset, .unset, .unset, .unset, .unset, .unset, .unset, .unset, .unset, .unset, .unset, .unset, .unset, .unset] []))
  refine gs (fun t => XS.iloadN X0.here hx rfl (hb hby at_6) rfl) ?_
  show Go p e below s QQ room_1.cells room_1.slots (s₁.setTop (mkF m 7 #[.val (.int p0), .val (.int p1), .val (.int p2), .val (.int p3), .val (.int aa), .unset, .unset, .unset, .unset, .unset, .unset, .unset, .unset, .unset, .unset, .unset, .unset, .unset, .unset] [(.int p1)]))
  refine gs (fun t => X0.ldcInt hx hown (mvT hZ (hw _ (List.mem_of_getElem? (i := 0) rfl))) (g := (mkF m 7 #[.val (.int p0), .val (.int p1), .val (.int p2), .val (.int p3), .val (.int aa), .unset, .unset, .unset, .unset, .unset, .unset, .unset, .unset, .unset, .unset, .unset, .unset, .unset, .unset] [(.int p1)])) rfl (hb hby at_7) t) ?_
  show Go p e below s QQ room_1.cells room_1.slots (s₁.setTop (mkF m 9 #[.val (.int p0), .val (.int p1), .val (.int p2), .val (.int p3), .val (.int aa), .unset, .unset, .unset, .unset, .unset, .unset, .unset, .unset, .unset, .unset, .unset, .unset, .unset, .unset] [(.int (2147483647 : Int32)), (.int p1)]))
  refine gs (fun t => XS.iand X0.here hx rfl (hb hby at_9) rfl) ?_
  show Go p e below s QQ room_1.cells room_1.slots (s₁.setTop (mkF m 10 #[.val (.int p0), .val (.int p1), .val (.int p2), .val (.int p3), .val (.int aa), .unset, .unset, .unset, .unset, .unset, .unset, .unset, .unset, .unset, .unset, .unset, .unset, .unset, .unset] [(.int (p1 &&& (2147483647 : Int32)))]))
  generalize hcc : (p1 &&& (2147483647 : Int32)) = cc2
  show Go p e below s QQ room_1.cells room_1.slots (s₁.setTop (mkF m 10 #[.val (.int p0), .val (.int p1), .val (.int p2), .val (.int p3), .val (.int aa), .unset, .unset, .unset, .unset, .unset, .unset, .unset, .unset, .unset, .unset, .unset, .unset, .unset, .unset] [(.int cc2)]))
  refine gs (fun t => XS.istore X0.here hx rfl (hb hby at_10) rfl (l' := #[.val (.int p0), .val (.int p1), .val (.int p2), .val (.int p3), .val (.int aa), .val (.int cc2), .unset, .unset, .unset, .unset, .unset, .unset, .unset, .unset, .unset, .unset, .unset, .unset, .unset]) rfl) ?_
  show Go p e below s QQ room_1.cells room_1.slots (s₁.setTop (mkF m 12 #[.val (.int p0), .val (.int p1), .val (.int p2), .val (.int p3), .val (.int aa), .val (.int cc2), .unset, .unset, .unset, .unset, .unset, .unset, .unset, .unset, .unset, .unset, .unset, .unset, .unset] []))
  refine gs (fun t => XS.iload X0.here hx rfl (hb hby at_12) rfl) ?_
  show Go p e below s QQ room_1.cells room_1.slots (s₁.setTop (mkF m 14 #[.val (.int p0), .val (.int p1), .val (.int p2), .val (.int p3), .val (.int aa), .val (.int cc2), .unset, .unset, .unset, .unset, .unset, .unset, .unset, .unset, .unset, .unset, .unset, .unset, .unset] [(.int aa)]))
  refine gs (fun t => XS.iload X0.here hx rfl (hb hby at_14) rfl) ?_
  show Go p e below s QQ room_1.cells room_1.slots (s₁.setTop (mkF m 16 #[.val (.int p0), .val (.int p1), .val (.int p2), .val (.int p3), .val (.int aa), .val (.int cc2), .unset, .unset, .unset, .unset, .unset, .unset, .unset, .unset, .unset, .unset, .unset, .unset, .unset] [(.int cc2), (.int aa)]))
  obtain ⟨_, _, ⟨T1, L1, k1, n1⟩, -, X1, ⟨Lc1, hQ1, l1, y1, z1⟩, st1⟩ := Jvm.LawKit.callS X0 hx (y := (⟨"java/lang/Math", "min", "(II)I"⟩ : MethodName)) hown (mvT hZ (hw _ (List.mem_of_getElem? (i := 1) rfl))) (mvT hZ (hw _ (List.mem_of_getElem? (i := 2) rfl))) (mvT hZ (hw _ (List.mem_of_getElem? (i := 3) rfl))) (mvT hZ (hw _ (List.mem_of_getElem? (i := 4) rfl))) (by decide) (backOf (W := 0) (rm1 l Z a0 hw [] aa cc2 h0 n0 ZZ ) hZ (hw _ (List.mem_of_getElem? (i := 4) rfl)) (hw _ (List.mem_of_getElem? (i := 3) rfl)) (by decide) (by decide)) (g := (mkF m 16 #[.val (.int p0), .val (.int p1), .val (.int p2), .val (.int p3), .val (.int aa), .val (.int cc2), .unset, .unset, .unset, .unset, .unset, .unset, .unset, .unset, .unset, .unset, .unset, .unset, .unset] [(.int cc2), (.int aa)])) rfl (by rw [hml]; rfl) (argsL := [(.int aa), (.int cc2)]) (rest := []) (lenOf pd_0 rfl) rfl (by show 2 * 0 + _ ≤ _; exact Nat.le_of_eq rfl) (hb hby at_16) (fun _ _ => ⟨rfl, e0, (by decide : 0 + 0 ≤ _), (by decide : 0 + 0 ≤ _)⟩)
  dsimp only [Pt.U, Pt.locs, Pt.cells, Pt.slots] at X1 l1 y1 z1 st1 hQ1
  subst l1 y1 z1
  obtain ⟨rfl, N1q, e1⟩ := hQ1
  replace N0 := Fr.app N0 N1q
  refine gs st1 ?_
  show Go p e below s QQ room_1.cells room_1.slots (T1.setTop (mkF m 19 #[.val (.int p0), .val (.int p1), .val (.int p2), .val (.int p3), .val (.int aa), .val (.int cc2), .unset, .unset, .unset, .unset, .unset, .unset, .unset, .unset, .unset, .unset, .unset, .unset, .unset] [(.int (if cc2 < aa then cc2 else aa))]))
  generalize hfr : (if cc2 < aa then cc2 else aa) = fr
  show Go p e below s QQ room_1.cells room_1.slots (T1.setTop (mkF m 19 #[.val (.int p0), .val (.int p1), .val (.int p2), .val (.int p3), .val (.int aa), .val (.int cc2), .unset, .unset, .unset, .unset, .unset, .unset, .unset, .unset, .unset, .unset, .unset, .unset, .unset] [(.int fr)]))
  refine gs (fun t => XS.istore X1.here hx rfl (hb hby at_19) rfl (l' := #[.val (.int p0), .val (.int p1), .val (.int p2), .val (.int p3), .val (.int aa), .val (.int cc2), .val (.int fr), .unset, .unset, .unset, .unset, .unset, .unset, .unset, .unset, .unset, .unset, .unset, .unset]) rfl) ?_
  show Go p e below s QQ room_1.cells room_1.slots (T1.setTop (mkF m 21 #[.val (.int p0), .val (.int p1), .val (.int p2), .val (.int p3), .val (.int aa), .val (.int cc2), .val (.int fr), .unset, .unset, .unset, .unset, .unset, .unset, .unset, .unset, .unset, .unset, .unset, .unset] []))
  refine gs (fun t => XS.iload X1.here hx rfl (hb hby at_21) rfl) ?_
  show Go p e below s QQ room_1.cells room_1.slots (T1.setTop (mkF m 23 #[.val (.int p0), .val (.int p1), .val (.int p2), .val (.int p3), .val (.int aa), .val (.int cc2), .val (.int fr), .unset, .unset, .unset, .unset, .unset, .unset, .unset, .unset, .unset, .unset, .unset, .unset] [(.int aa)]))
  refine gs (fun t => XS.iload X1.here hx rfl (hb hby at_23) rfl) ?_
  show Go p e below s QQ room_1.cells room_1.slots (T1.setTop (mkF m 25 #[.val (.int p0), .val (.int p1), .val (.int p2), .val (.int p3), .val (.int aa), .val (.int cc2), .val (.int fr), .unset, .unset, .unset, .unset, .unset, .unset, .unset, .unset, .unset, .unset, .unset, .unset] [(.int cc2), (.int aa)]))
  obtain ⟨_, _, ⟨T2, L2, k2, n2⟩, -, X2, ⟨Lc2, hQ2, l2, y2, z2⟩, st2⟩ := Jvm.LawKit.callS X1 hx (y := (⟨"java/lang/Math", "max", "(II)I"⟩ : MethodName)) hown (mvT hZ (hw _ (List.mem_of_getElem? (i := 5) rfl))) (mvT hZ (hw _ (List.mem_of_getElem? (i := 6) rfl))) (mvT hZ (hw _ (List.mem_of_getElem? (i := 3) rfl))) (mvT hZ (hw _ (List.mem_of_getElem? (i := 7) rfl))) (by decide) (backOf (W := 0) (rm2 l Z a0 hw [] aa cc2 h0 n0 ZZ ) hZ (hw _ (List.mem_of_getElem? (i := 7) rfl)) (hw _ (List.mem_of_getElem? (i := 3) rfl)) (by decide) (by decide)) (g := (mkF m 25 #[.val (.int p0), .val (.int p1), .val (.int p2), .val (.int p3), .val (.int aa), .val (.int cc2), .val (.int fr), .unset, .unset, .unset, .unset, .unset, .unset, .unset, .unset, .unset, .unset, .unset, .unset] [(.int cc2), (.int aa)])) rfl (by rw [hml]; rfl) (argsL := [(.int aa), (.int cc2)]) (rest := []) (lenOf pd_0 rfl) rfl (by show 2 * 0 + _ ≤ _; exact Nat.le_of_eq rfl) (hb hby at_25) (fun _ _ => ⟨rfl, e1, (by decide : 0 + 0 ≤ _), (by decide : 0 + 0 ≤ _)⟩)
  dsimp only [Pt.U, Pt.locs, Pt.cells, Pt.slots] at X2 l2 y2 z2 st2 hQ2
  subst l2 y2 z2
  obtain ⟨rfl, N2q, e2⟩ := hQ2
  replace N0 := Fr.app N0 N2q
  refine gs st2 ?_
  show Go p e below s QQ room_1.cells room_1.slots (T2.setTop (mkF m 28 #[.val (.int p0), .val (.int p1), .val (.int p2), .val (.int p3), .val (.int aa), .val (.int cc2), .val (.int fr), .unset, .unset, .unset, .unset, .unset, .unset, .unset, .unset, .unset, .unset, .unset, .unset] [(.int (if aa < cc2 then cc2 else aa))]))
  generalize hto : (if aa < cc2 then cc2 else aa) = to_
  show Go p e below s QQ room_1.cells room_1.slots (T2.setTop (mkF m 28 #[.val (.int p0), .val (.int p1), .val (.int p2), .val (.int p3), .val (.int aa), .val (.int cc2), .val (.int fr), .unset, .unset, .unset, .unset, .unset, .unset, .unset, .unset, .unset, .unset, .unset, .unset] [(.int to_)]))
  obtain ⟨hf0, hft⟩ := own_mm haa hcc hfr hto
  refine gs (fun t => XS.istore X2.here hx rfl (hb hby at_28) rfl (l' := #[.val (.int p0), .val (.int p1), .val (.int p2), .val (.int p3), .val (.int aa), .val (.int cc2), .val (.int fr), .val (.int to_), .unset, .unset, .unset, .unset, .unset, .unset, .unset, .unset, .unset, .unset, .unset]) rfl) ?_
  show Go p e below s QQ room_1.cells room_1.slots (T2.setTop (mkF m 30 #[.val (.int p0), .val (.int p1), .val (.int p2), .val (.int p3), .val (.int aa), .val (.int cc2), .val (.int fr), .val (.int to_), .unset, .unset, .unset, .unset, .unset, .unset, .unset, .unset, .unset, .unset, .unset] []))
  refine gs (fun t => XS.iload X2.here hx rfl (hb hby at_30) rfl) ?_
  show Go p e below s QQ room_1.cells room_1.slots (T2.setTop (mkF m 32 #[.val (.int p0), .val (.int p1), .val (.int p2), .val (.int p3), .val (.int aa), .val (.int cc2), .val (.int fr), .val (.int to_), .unset, .unset, .unset, .unset, .unset, .unset, .unset, .unset, .unset, .unset, .unset] [(.int fr)]))
  refine gs (fun t => XS.iload X2.here hx rfl (hb hby at_32) rfl) ?_
  show Go p e below s QQ room_1.cells room_1.slots (T2.setTop (mkF m 34 #[.val (.int p0), .val (.int p1), .val (.int p2), .val (.int p3), .val (.int aa), .val (.int cc2), .val (.int fr), .val (.int to_), .unset, .unset, .unset, .unset, .unset, .unset, .unset, .unset, .unset, .unset, .unset] [(.int to_), (.int fr)]))
  by_cases heq : fr = to_
  · skip
    refine gs (fun t => XS.icmpNo X2.here hx rfl (hb hby at_34) rfl (teq heq).2) ?_
    show Go p e below s QQ room_1.cells room_1.slots (T2.setTop (mkF m 37 #[.val (.int p0), .val (.int p1), .val (.int p2), .val (.int p3), .val (.int aa), .val (.int cc2), .val (.int fr), .val (.int to_), .unset, .unset, .unset, .unset, .unset, .unset, .unset, .unset, .unset, .unset, .unset] []))
    refine gs (fun t => XS.iconst X2.here hx rfl (hb hby at_37)) ?_
    show Go p e below s QQ room_1.cells room_1.slots (T2.setTop (mkF m 38 #[.val (.int p0), .val (.int p1), .val (.int p2), .val (.int p3), .val (.int aa), .val (.int cc2), .val (.int fr), .val (.int to_), .unset, .unset, .unset, .unset, .unset, .unset, .unset, .unset, .unset, .unset, .unset] [(.int (1 : Int32))]))
    exact goB X2 hx Bd.notSynchronized Bd.returns (by simp) (w := (1 : Int32)) (by first | rfl | decide) (hb hby at_38) (by rw [← hQQ, e2]; exact ⟨rfl, N0⟩) (by decide) (by decide)
  · skip
    refine gs (fun t => XS.icmpYes X2.here hx rfl (pc0 := 34) (pc' := 39) rfl (hb hby at_34) rfl (feq heq).2 (by decide) (by decide)) ?_
    show Go p e below s QQ room_1.cells room_1.slots (T2.setTop (mkF m 39 #[.val (.int p0), .val (.int p1), .val (.int p2), .val (.int p3), .val (.int aa), .val (.int cc2), .val (.int fr), .val (.int to_), .unset, .unset, .unset, .unset, .unset, .unset, .unset, .unset, .unset, .unset, .unset] []))
    have hne : ¬ fr.toInt = to_.toInt := fun q => heq (Int32.toInt_inj.mp q)
    have hlt : fr.toInt < to_.toInt := by omega
    obtain ⟨ef, et⟩ := own_fl hf0 hlt
    have rto := rng32 to_
    refine gs (fun t => XS.iload X2.here hx rfl (hb hby at_39) rfl) ?_
    show Go p e below s QQ room_1.cells room_1.slots (T2.setTop (mkF m 41 #[.val (.int p0), .val (.int p1), .val (.int p2), .val (.int p3), .val (.int aa), .val (.int cc2), .val (.int fr), .val (.int to_), .unset, .unset, .unset, .unset, .unset, .unset, .unset, .unset, .unset, .unset, .unset] [(.int fr)]))
    refine gs (fun t => XS.bipush X2.here hx rfl (hb hby at_41)) ?_
    show Go p e below s QQ room_1.cells room_1.slots (T2.setTop (mkF m 43 #[.val (.int p0), .val (.int p1), .val (.int p2), .val (.int p3), .val (.int aa), .val (.int cc2), .val (.int fr), .val (.int to_), .unset, .unset, .unset, .unset, .unset, .unset, .unset, .unset, .unset, .unset, .unset] [(.int (64 : Int32)), (.int fr)]))
    refine gs (fun t => XS.idiv X2.here hx rfl (hb hby at_43) rfl (by decide)) ?_
    show Go p e below s QQ room_1.cells room_1.slots (T2.setTop (mkF m 44 #[.val (.int p0), .val (.int p1), .val (.int p2), .val (.int p3), .val (.int aa), .val (.int cc2), .val (.int fr), .val (.int to_), .unset, .unset, .unset, .unset, .unset, .unset, .unset, .unset, .unset, .unset, .unset] [(.int (fr / (64 : Int32)))]))
    refine gs (fun t => XS.istore X2.here hx rfl (hb hby at_44) rfl (l' := #[.val (.int p0), .val (.int p1), .val (.int p2), .val (.int p3), .val (.int aa), .val (.int cc2), .val (.int fr), .val (.int to_), .val (.int (fr / (64 : Int32))), .unset, .unset, .unset, .unset, .unset, .unset, .unset, .unset, .unset, .unset]) rfl) ?_
    show Go p e below s QQ room_1.cells room_1.slots (T2.setTop (mkF m 46 #[.val (.int p0), .val (.int p1), .val (.int p2), .val (.int p3), .val (.int aa), .val (.int cc2), .val (.int fr), .val (.int to_), .val (.int (fr / (64 : Int32))), .unset, .unset, .unset, .unset, .unset, .unset, .unset, .unset, .unset, .unset] []))
    refine gs (fun t => XS.iload X2.here hx rfl (hb hby at_46) rfl) ?_
    show Go p e below s QQ room_1.cells room_1.slots (T2.setTop (mkF m 48 #[.val (.int p0), .val (.int p1), .val (.int p2), .val (.int p3), .val (.int aa), .val (.int cc2), .val (.int fr), .val (.int to_), .val (.int (fr / (64 : Int32))), .unset, .unset, .unset, .unset, .unset, .unset, .unset, .unset, .unset, .unset] [(.int to_)]))
    refine gs (fun t => XS.iconst X2.here hx rfl (hb hby at_48)) ?_
    show Go p e below s QQ room_1.cells room_1.slots (T2.setTop (mkF m 49 #[.val (.int p0), .val (.int p1), .val (.int p2), .val (.int p3), .val (.int aa), .val (.int cc2), .val (.int fr), .val (.int to_), .val (.int (fr / (64 : Int32))), .unset, .unset, .unset, .unset, .unset, .unset, .unset, .unset, .unset, .unset] [(.int (1 : Int32)), (.int to_)]))
    refine gs (fun t => XS.isub X2.here hx rfl (hb hby at_49) rfl) ?_
    show Go p e below s QQ room_1.cells room_1.slots (T2.setTop (mkF m 50 #[.val (.int p0), .val (.int p1), .val (.int p2), .val (.int p3), .val (.int aa), .val (.int cc2), .val (.int fr), .val (.int to_), .val (.int (fr / (64 : Int32))), .unset, .unset, .unset, .unset, .unset, .unset, .unset, .unset, .unset, .unset] [(.int (to_ - (1 : Int32)))]))
    refine gs (fun t => XS.bipush X2.here hx rfl (hb hby at_50)) ?_
    show Go p e below s QQ room_1.cells room_1.slots (T2.setTop (mkF m 52 #[.val (.int p0), .val (.int p1), .val (.int p2), .val (.int p3), .val (.int aa), .val (.int cc2), .val (.int fr), .val (.int to_), .val (.int (fr / (64 : Int32))), .unset, .unset, .unset, .unset, .unset, .unset, .unset, .unset, .unset, .unset] [(.int (64 : Int32)), (.int (to_ - (1 : Int32)))]))
    refine gs (fun t => XS.idiv X2.here hx rfl (hb hby at_52) rfl (by decide)) ?_
    show Go p e below s QQ room_1.cells room_1.slots (T2.setTop (mkF m 53 #[.val (.int p0), .val (.int p1), .val (.int p2), .val (.int p3), .val (.int aa), .val (.int cc2), .val (.int fr), .val (.int to_), .val (.int (fr / (64 : Int32))), .unset, .unset, .unset, .unset, .unset, .unset, .unset, .unset, .unset, .unset] [(.int ((to_ - (1 : Int32)) / (64 : Int32)))]))
    refine gs (fun t => XS.istore X2.here hx rfl (hb hby at_53) rfl (l' := #[.val (.int p0), .val (.int p1), .val (.int p2), .val (.int p3), .val (.int aa), .val (.int cc2), .val (.int fr), .val (.int to_), .val (.int (fr / (64 : Int32))), .val (.int ((to_ - (1 : Int32)) / (64 : Int32))), .unset, .unset, .unset, .unset, .unset, .unset, .unset, .unset, .unset]) rfl) ?_
    show Go p e below s QQ room_1.cells room_1.slots (T2.setTop (mkF m 55 #[.val (.int p0), .val (.int p1), .val (.int p2), .val (.int p3), .val (.int aa), .val (.int cc2), .val (.int fr), .val (.int to_), .val (.int (fr / (64 : Int32))), .val (.int ((to_ - (1 : Int32)) / (64 : Int32))), .unset, .unset, .unset, .unset, .unset, .unset, .unset, .unset, .unset] []))
    refine gs (fun t => XS.iloadN X2.here hx rfl (hb hby at_55) rfl) ?_
    show Go p e below s QQ room_1.cells room_1.slots (T2.setTop (mkF m 56 #[.val (.int p0), .val (.int p1), .val (.int p2), .val (.int p3), .val (.int aa), .val (.int cc2), .val (.int fr), .val (.int to_), .val (.int (fr / (64 : Int32))), .val (.int ((to_ - (1 : Int32)) / (64 : Int32))), .unset, .unset, .unset, .unset, .unset, .unset, .unset, .unset, .unset] [(.int p2)]))
    refine gs (fun t => XS.iconst X2.here hx rfl (hb hby at_56)) ?_
    show Go p e below s QQ room_1.cells room_1.slots (T2.setTop (mkF m 57 #[.val (.int p0), .val (.int p1), .val (.int p2), .val (.int p3), .val (.int aa), .val (.int cc2), .val (.int fr), .val (.int to_), .val (.int (fr / (64 : Int32))), .val (.int ((to_ - (1 : Int32)) / (64 : Int32))), .unset, .unset, .unset, .unset, .unset, .unset, .unset, .unset, .unset] [(.int (3 : Int32)), (.int p2)]))
    refine gs (fun t => XS.iand X2.here hx rfl (hb hby at_57) rfl) ?_
    show Go p e below s QQ room_1.cells room_1.slots (T2.setTop (mkF m 58 #[.val (.int p0), .val (.int p1), .val (.int p2), .val (.int p3), .val (.int aa), .val (.int cc2), .val (.int fr), .val (.int to_), .val (.int (fr / (64 : Int32))), .val (.int ((to_ - (1 : Int32)) / (64 : Int32))), .unset, .unset, .unset, .unset, .unset, .unset, .unset, .unset, .unset] [(.int (p2 &&& (3 : Int32)))]))
    refine gs (fun t => XS.istore X2.here hx rfl (hb hby at_58) rfl (l' := #[.val (.int p0), .val (.int p1), .val (.int p2), .val (.int p3), .val (.int aa), .val (.int cc2), .val (.int fr), .val (.int to_), .val (.int (fr / (64 : Int32))), .val (.int ((to_ - (1 : Int32)) / (64 : Int32))), .val (.int (p2 &&& (3 : Int32))), .unset, .unset, .unset, .unset, .unset, .unset, .unset, .unset]) rfl) ?_
    show Go p e below s QQ room_1.cells room_1.slots (T2.setTop (mkF m 60 #[.val (.int p0), .val (.int p1), .val (.int p2), .val (.int p3), .val (.int aa), .val (.int cc2), .val (.int fr), .val (.int to_), .val (.int (fr / (64 : Int32))), .val (.int ((to_ - (1 : Int32)) / (64 : Int32))), .val (.int (p2 &&& (3 : Int32))), .unset, .unset, .unset, .unset, .unset, .unset, .unset, .unset] []))
    refine gs (fun t => XS.iload X2.here hx rfl (hb hby at_60) rfl) ?_
    show Go p e below s QQ room_1.cells room_1.slots (T2.setTop (mkF m 62 #[.val (.int p0), .val (.int p1), .val (.int p2), .val (.int p3), .val (.int aa), .val (.int cc2), .val (.int fr), .val (.int to_), .val (.int (fr / (64 : Int32))), .val (.int ((to_ - (1 : Int32)) / (64 : Int32))), .val (.int (p2 &&& (3 : Int32))), .unset, .unset, .unset, .unset, .unset, .unset, .unset, .unset] [(.int (p2 &&& (3 : Int32)))]))
    have key1 : ∀ (ww : Int32) (hw1 : fr.toInt / 64 ≤ ww.toInt) (hw2 : ww.toInt ≤ (to_.toInt - 1) / 64), Go p e below s QQ room_1.cells room_1.slots (T2.setTop (mkF m 101 #[.val (.int p0), .val (.int p1), .val (.int p2), .val (.int p3), .val (.int aa), .val (.int cc2), .val (.int fr), .val (.int to_), .val (.int (fr / (64 : Int32))), .val (.int ((to_ - (1 : Int32)) / (64 : Int32))), .val (.int (p2 &&& (3 : Int32))), .val (.int ww), .unset, .unset, .unset, .unset, .unset, .unset, .unset] [])) := by
      intro ww hw1 hw2
      refine gs (fun t => XS.iloadN X2.here hx rfl (hb hby at_101) rfl) ?_
      show Go p e below s QQ room_1.cells room_1.slots (T2.setTop (mkF m 102 #[.val (.int p0), .val (.int p1), .val (.int p2), .val (.int p3), .val (.int aa), .val (.int cc2), .val (.int fr), .val (.int to_), .val (.int (fr / (64 : Int32))), .val (.int ((to_ - (1 : Int32)) / (64 : Int32))), .val (.int (p2 &&& (3 : Int32))), .val (.int ww), .unset, .unset, .unset, .unset, .unset, .unset, .unset] [(.int p3)]))
      refine gs (fun t => XS.bipush X2.here hx rfl (hb hby at_102)) ?_
      show Go p e below s QQ room_1.cells room_1.slots (T2.setTop (mkF m 104 #[.val (.int p0), .val (.int p1), .val (.int p2), .val (.int p3), .val (.int aa), .val (.int cc2), .val (.int fr), .val (.int to_), .val (.int (fr / (64 : Int32))), .val (.int ((to_ - (1 : Int32)) / (64 : Int32))), .val (.int (p2 &&& (3 : Int32))), .val (.int ww), .unset, .unset, .unset, .unset, .unset, .unset, .unset] [(.int (63 : Int32)), (.int p3)]))
      refine gs (fun t => XS.iand X2.here hx rfl (hb hby at_104) rfl) ?_
      show Go p e below s QQ room_1.cells room_1.slots (T2.setTop (mkF m 105 #[.val (.int p0), .val (.int p1), .val (.int p2), .val (.int p3), .val (.int aa), .val (.int cc2), .val (.int fr), .val (.int to_), .val (.int (fr / (64 : Int32))), .val (.int ((to_ - (1 : Int32)) / (64 : Int32))), .val (.int (p2 &&& (3 : Int32))), .val (.int ww), .unset, .unset, .unset, .unset, .unset, .unset, .unset] [(.int (p3 &&& (63 : Int32)))]))
      generalize hbb : (p3 &&& (63 : Int32)) = bb
      show Go p e below s QQ room_1.cells room_1.slots (T2.setTop (mkF m 105 #[.val (.int p0), .val (.int p1), .val (.int p2), .val (.int p3), .val (.int aa), .val (.int cc2), .val (.int fr), .val (.int to_), .val (.int (fr / (64 : Int32))), .val (.int ((to_ - (1 : Int32)) / (64 : Int32))), .val (.int (p2 &&& (3 : Int32))), .val (.int ww), .unset, .unset, .unset, .unset, .unset, .unset, .unset] [(.int bb)]))
      obtain ⟨hb0, hb1⟩ := own_b hbb
      refine gs (fun t => XS.istore X2.here hx rfl (hb hby at_105) rfl (l' := #[.val (.int p0), .val (.int p1), .val (.int p2), .val (.int p3), .val (.int aa), .val (.int cc2), .val (.int fr), .val (.int to_), .val (.int (fr / (64 : Int32))), .val (.int ((to_ - (1 : Int32)) / (64 : Int32))), .val (.int (p2 &&& (3 : Int32))), .val (.int ww), .val (.int bb), .unset, .unset, .unset, .unset, .unset, .unset]) rfl) ?_
      show Go p e below s QQ room_1.cells room_1.slots (T2.setTop (mkF m 107 #[.val (.int p0), .val (.int p1), .val (.int p2), .val (.int p3), .val (.int aa), .val (.int cc2), .val (.int fr), .val (.int to_), .val (.int (fr / (64 : Int32))), .val (.int ((to_ - (1 : Int32)) / (64 : Int32))), .val (.int (p2 &&& (3 : Int32))), .val (.int ww), .val (.int bb), .unset, .unset, .unset, .unset, .unset, .unset] []))
      refine gs (fun t => XS.iload X2.here hx rfl (hb hby at_107) rfl) ?_
      show Go p e below s QQ room_1.cells room_1.slots (T2.setTop (mkF m 109 #[.val (.int p0), .val (.int p1), .val (.int p2), .val (.int p3), .val (.int aa), .val (.int cc2), .val (.int fr), .val (.int to_), .val (.int (fr / (64 : Int32))), .val (.int ((to_ - (1 : Int32)) / (64 : Int32))), .val (.int (p2 &&& (3 : Int32))), .val (.int ww), .val (.int bb), .unset, .unset, .unset, .unset, .unset, .unset] [(.int ww)]))
      refine gs (fun t => XS.iload X2.here hx rfl (hb hby at_109) rfl) ?_
      show Go p e below s QQ room_1.cells room_1.slots (T2.setTop (mkF m 111 #[.val (.int p0), .val (.int p1), .val (.int p2), .val (.int p3), .val (.int aa), .val (.int cc2), .val (.int fr), .val (.int to_), .val (.int (fr / (64 : Int32))), .val (.int ((to_ - (1 : Int32)) / (64 : Int32))), .val (.int (p2 &&& (3 : Int32))), .val (.int ww), .val (.int bb), .unset, .unset, .unset, .unset, .unset, .unset] [(.int fr), (.int ww)]))
      refine gs (fun t => XS.iload X2.here hx rfl (hb hby at_111) rfl) ?_
      show Go p e below s QQ room_1.cells room_1.slots (T2.setTop (mkF m 113 #[.val (.int p0), .val (.int p1), .val (.int p2), .val (.int p3), .val (.int aa), .val (.int cc2), .val (.int fr), .val (.int to_), .val (.int (fr / (64 : Int32))), .val (.int ((to_ - (1 : Int32)) / (64 : Int32))), .val (.int (p2 &&& (3 : Int32))), .val (.int ww), .val (.int bb), .unset, .unset, .unset, .unset, .unset, .unset] [(.int to_), (.int fr), (.int ww)]))
      obtain ⟨_, _, ⟨T4, L4, k4, n4⟩, -, X4, ⟨Lc4, hQ4, l4, y4, z4⟩, st4⟩ := Jvm.LawKit.callS X2 hx (y := (⟨"com/example/tuplewise/tuplewise/SparseBitSet", "rangeWord", "(III)J"⟩ : MethodName)) hown (mvT hZ (hw _ (List.mem_of_getElem? (i := 8) rfl))) (mvT hZ (hw _ (List.mem_of_getElem? (i := 9) rfl))) (mvT hZ (hw _ (List.mem_of_getElem? (i := 10) rfl))) (mvT hZ (hw _ (List.mem_of_getElem? (i := 11) rfl))) (by decide) (backOf (W := 0) (rm3 l Z a0 hw [] ww fr to_ h0 n0 ZZ ) hZ (hw _ (List.mem_of_getElem? (i := 11) rfl)) (hw _ (List.mem_of_getElem? (i := 10) rfl)) (by decide) (by decide)) (g := (mkF m 113 #[.val (.int p0), .val (.int p1), .val (.int p2), .val (.int p3), .val (.int aa), .val (.int cc2), .val (.int fr), .val (.int to_), .val (.int (fr / (64 : Int32))), .val (.int ((to_ - (1 : Int32)) / (64 : Int32))), .val (.int (p2 &&& (3 : Int32))), .val (.int ww), .val (.int bb), .unset, .unset, .unset, .unset, .unset, .unset] [(.int to_), (.int fr), (.int ww)])) rfl (by rw [hml]; rfl) (argsL := [(.int ww), (.int fr), (.int to_)]) (rest := []) (lenOf pd_1 rfl) rfl (by show 2 * 0 + _ ≤ _; exact Nat.le_of_eq rfl) (hb hby at_113) (fun _ _ => ⟨rfl, e2, (by decide : 0 + 0 ≤ _), (by decide : 0 + 0 ≤ _)⟩)
      dsimp only [Pt.U, Pt.locs, Pt.cells, Pt.slots] at X4 l4 y4 z4 st4 hQ4
      subst l4 y4 z4
      obtain ⟨rfl, N4q, e4⟩ := hQ4
      replace N0 := Fr.app N0 N4q
      refine gs st4 ?_
      show Go p e below s QQ room_1.cells room_1.slots (T4.setTop (mkF m 116 #[.val (.int p0), .val (.int p1), .val (.int p2), .val (.int p3), .val (.int aa), .val (.int cc2), .val (.int fr), .val (.int to_), .val (.int (fr / (64 : Int32))), .val (.int ((to_ - (1 : Int32)) / (64 : Int32))), .val (.int (p2 &&& (3 : Int32))), .val (.int ww), .val (.int bb), .unset, .unset, .unset, .unset, .unset, .unset] [(.long (own_rw ww fr to_))]))
      refine gs (fun t => XS.lstore X4.here hx rfl (hb hby at_116) rfl (l' := #[.val (.int p0), .val (.int p1), .val (.int p2), .val (.int p3), .val (.int aa), .val (.int cc2), .val (.int fr), .val (.int to_), .val (.int (fr / (64 : Int32))), .val (.int ((to_ - (1 : Int32)) / (64 : Int32))), .val (.int (p2 &&& (3 : Int32))), .val (.int ww), .val (.int bb), .val (.long (own_rw ww fr to_)), .second, .unset, .unset, .unset, .unset]) rfl) ?_
      show Go p e below s QQ room_1.cells room_1.slots (T4.setTop (mkF m 118 #[.val (.int p0), .val (.int p1), .val (.int p2), .val (.int p3), .val (.int aa), .val (.int cc2), .val (.int fr), .val (.int to_), .val (.int (fr / (64 : Int32))), .val (.int ((to_ - (1 : Int32)) / (64 : Int32))), .val (.int (p2 &&& (3 : Int32))), .val (.int ww), .val (.int bb), .val (.long (own_rw ww fr to_)), .second, .unset, .unset, .unset, .unset] []))
      refine gs (fun t => X4.ldc2Long hx hown (mvT hZ (hw _ (List.mem_of_getElem? (i := 13) rfl))) (g := (mkF m 118 #[.val (.int p0), .val (.int p1), .val (.int p2), .val (.int p3), .val (.int aa), .val (.int cc2), .val (.int fr), .val (.int to_), .val (.int (fr / (64 : Int32))), .val (.int ((to_ - (1 : Int32)) / (64 : Int32))), .val (.int (p2 &&& (3 : Int32))), .val (.int ww), .val (.int bb), .val (.long (own_rw ww fr to_)), .second, .unset, .unset, .unset, .unset] [])) rfl (hb hby at_118) t) ?_
      show Go p e below s QQ room_1.cells room_1.slots (T4.setTop (mkF m 121 #[.val (.int p0), .val (.int p1), .val (.int p2), .val (.int p3), .val (.int aa), .val (.int cc2), .val (.int fr), .val (.int to_), .val (.int (fr / (64 : Int32))), .val (.int ((to_ - (1 : Int32)) / (64 : Int32))), .val (.int (p2 &&& (3 : Int32))), .val (.int ww), .val (.int bb), .val (.long (own_rw ww fr to_)), .second, .unset, .unset, .unset, .unset] [(.long (64 : Int64))]))
      refine gs (fun t => XS.iload X4.here hx rfl (hb hby at_121) rfl) ?_
      show Go p e below s QQ room_1.cells room_1.slots (T4.setTop (mkF m 123 #[.val (.int p0), .val (.int p1), .val (.int p2), .val (.int p3), .val (.int aa), .val (.int cc2), .val (.int fr), .val (.int to_), .val (.int (fr / (64 : Int32))), .val (.int ((to_ - (1 : Int32)) / (64 : Int32))), .val (.int (p2 &&& (3 : Int32))), .val (.int ww), .val (.int bb), .val (.long (own_rw ww fr to_)), .second, .unset, .unset, .unset, .unset] [(.int ww), (.long (64 : Int64))]))
      refine gs (fun t => XS.i2l X4.here hx rfl (hb hby at_123) rfl) ?_
      show Go p e below s QQ room_1.cells room_1.slots (T4.setTop (mkF m 124 #[.val (.int p0), .val (.int p1), .val (.int p2), .val (.int p3), .val (.int aa), .val (.int cc2), .val (.int fr), .val (.int to_), .val (.int (fr / (64 : Int32))), .val (.int ((to_ - (1 : Int32)) / (64 : Int32))), .val (.int (p2 &&& (3 : Int32))), .val (.int ww), .val (.int bb), .val (.long (own_rw ww fr to_)), .second, .unset, .unset, .unset, .unset] [(.long (ww.toInt64)), (.long (64 : Int64))]))
      refine gs (fun t => XS.lmul X4.here hx rfl (hb hby at_124) rfl) ?_
      show Go p e below s QQ room_1.cells room_1.slots (T4.setTop (mkF m 125 #[.val (.int p0), .val (.int p1), .val (.int p2), .val (.int p3), .val (.int aa), .val (.int cc2), .val (.int fr), .val (.int to_), .val (.int (fr / (64 : Int32))), .val (.int ((to_ - (1 : Int32)) / (64 : Int32))), .val (.int (p2 &&& (3 : Int32))), .val (.int ww), .val (.int bb), .val (.long (own_rw ww fr to_)), .second, .unset, .unset, .unset, .unset] [(.long ((64 : Int64) * (ww.toInt64)))]))
      refine gs (fun t => XS.iload X4.here hx rfl (hb hby at_125) rfl) ?_
      show Go p e below s QQ room_1.cells room_1.slots (T4.setTop (mkF m 127 #[.val (.int p0), .val (.int p1), .val (.int p2), .val (.int p3), .val (.int aa), .val (.int cc2), .val (.int fr), .val (.int to_), .val (.int (fr / (64 : Int32))), .val (.int ((to_ - (1 : Int32)) / (64 : Int32))), .val (.int (p2 &&& (3 : Int32))), .val (.int ww), .val (.int bb), .val (.long (own_rw ww fr to_)), .second, .unset, .unset, .unset, .unset] [(.int bb), (.long ((64 : Int64) * (ww.toInt64)))]))
      refine gs (fun t => XS.i2l X4.here hx rfl (hb hby at_127) rfl) ?_
      show Go p e below s QQ room_1.cells room_1.slots (T4.setTop (mkF m 128 #[.val (.int p0), .val (.int p1), .val (.int p2), .val (.int p3), .val (.int aa), .val (.int cc2), .val (.int fr), .val (.int to_), .val (.int (fr / (64 : Int32))), .val (.int ((to_ - (1 : Int32)) / (64 : Int32))), .val (.int (p2 &&& (3 : Int32))), .val (.int ww), .val (.int bb), .val (.long (own_rw ww fr to_)), .second, .unset, .unset, .unset, .unset] [(.long (bb.toInt64)), (.long ((64 : Int64) * (ww.toInt64)))]))
      refine gs (fun t => XS.ladd X4.here hx rfl (hb hby at_128) rfl) ?_
      show Go p e below s QQ room_1.cells room_1.slots (T4.setTop (mkF m 129 #[.val (.int p0), .val (.int p1), .val (.int p2), .val (.int p3), .val (.int aa), .val (.int cc2), .val (.int fr), .val (.int to_), .val (.int (fr / (64 : Int32))), .val (.int ((to_ - (1 : Int32)) / (64 : Int32))), .val (.int (p2 &&& (3 : Int32))), .val (.int ww), .val (.int bb), .val (.long (own_rw ww fr to_)), .second, .unset, .unset, .unset, .unset] [(.long (((64 : Int64) * (ww.toInt64)) + (bb.toInt64)))]))
      generalize hkk : (((64 : Int64) * (ww.toInt64)) + (bb.toInt64)) = kk
      show Go p e below s QQ room_1.cells room_1.slots (T4.setTop (mkF m 129 #[.val (.int p0), .val (.int p1), .val (.int p2), .val (.int p3), .val (.int aa), .val (.int cc2), .val (.int fr), .val (.int to_), .val (.int (fr / (64 : Int32))), .val (.int ((to_ - (1 : Int32)) / (64 : Int32))), .val (.int (p2 &&& (3 : Int32))), .val (.int ww), .val (.int bb), .val (.long (own_rw ww fr to_)), .second, .unset, .unset, .unset, .unset] [(.long kk)]))
      have ek := own_k (by omega) hb0 hb1 hkk
      have el := own_law hf0 hlt hw1 hw2 hb0 hb1
      rw [← ek] at el
      have i1 := c_i2l fr
      have i2 := c_i2l to_
      refine gs (fun t => XS.lstore X4.here hx rfl (hb hby at_129) rfl (l' := #[.val (.int p0), .val (.int p1), .val (.int p2), .val (.int p3), .val (.int aa), .val (.int cc2), .val (.int fr), .val (.int to_), .val (.int (fr / (64 : Int32))), .val (.int ((to_ - (1 : Int32)) / (64 : Int32))), .val (.int (p2 &&& (3 : Int32))), .val (.int ww), .val (.int bb), .val (.long (own_rw ww fr to_)), .second, .val (.long kk), .second, .unset, .unset]) rfl) ?_
      show Go p e below s QQ room_1.cells room_1.slots (T4.setTop (mkF m 131 #[.val (.int p0), .val (.int p1), .val (.int p2), .val (.int p3), .val (.int aa), .val (.int cc2), .val (.int fr), .val (.int to_), .val (.int (fr / (64 : Int32))), .val (.int ((to_ - (1 : Int32)) / (64 : Int32))), .val (.int (p2 &&& (3 : Int32))), .val (.int ww), .val (.int bb), .val (.long (own_rw ww fr to_)), .second, .val (.long kk), .second, .unset, .unset] []))
      refine gs (fun t => XS.iload X4.here hx rfl (hb hby at_131) rfl) ?_
      show Go p e below s QQ room_1.cells room_1.slots (T4.setTop (mkF m 133 #[.val (.int p0), .val (.int p1), .val (.int p2), .val (.int p3), .val (.int aa), .val (.int cc2), .val (.int fr), .val (.int to_), .val (.int (fr / (64 : Int32))), .val (.int ((to_ - (1 : Int32)) / (64 : Int32))), .val (.int (p2 &&& (3 : Int32))), .val (.int ww), .val (.int bb), .val (.long (own_rw ww fr to_)), .second, .val (.long kk), .second, .unset, .unset] [(.int fr)]))
      refine gs (fun t => XS.i2l X4.here hx rfl (hb hby at_133) rfl) ?_
      show Go p e below s QQ room_1.cells room_1.slots (T4.setTop (mkF m 134 #[.val (.int p0), .val (.int p1), .val (.int p2), .val (.int p3), .val (.int aa), .val (.int cc2), .val (.int fr), .val (.int to_), .val (.int (fr / (64 : Int32))), .val (.int ((to_ - (1 : Int32)) / (64 : Int32))), .val (.int (p2 &&& (3 : Int32))), .val (.int ww), .val (.int bb), .val (.long (own_rw ww fr to_)), .second, .val (.long kk), .second, .unset, .unset] [(.long (fr.toInt64))]))
      refine gs (fun t => XS.lload X4.here hx rfl (hb hby at_134) rfl) ?_
      show Go p e below s QQ room_1.cells room_1.slots (T4.setTop (mkF m 136 #[.val (.int p0), .val (.int p1), .val (.int p2), .val (.int p3), .val (.int aa), .val (.int cc2), .val (.int fr), .val (.int to_), .val (.int (fr / (64 : Int32))), .val (.int ((to_ - (1 : Int32)) / (64 : Int32))), .val (.int (p2 &&& (3 : Int32))), .val (.int ww), .val (.int bb), .val (.long (own_rw ww fr to_)), .second, .val (.long kk), .second, .unset, .unset] [(.long kk), (.long (fr.toInt64))]))
      refine gs (fun t => XS.lcmp X4.here hx rfl (hb hby at_136) rfl) ?_
      show Go p e below s QQ room_1.cells room_1.slots (T4.setTop (mkF m 137 #[.val (.int p0), .val (.int p1), .val (.int p2), .val (.int p3), .val (.int aa), .val (.int cc2), .val (.int fr), .val (.int to_), .val (.int (fr / (64 : Int32))), .val (.int ((to_ - (1 : Int32)) / (64 : Int32))), .val (.int (p2 &&& (3 : Int32))), .val (.int ww), .val (.int bb), .val (.long (own_rw ww fr to_)), .second, .val (.long kk), .second, .unset, .unset] [(.int (lcmpW (fr.toInt64) kk))]))
      have key2 : ∀ (ee : Int32) (hE : ee = if fr.toInt ≤ kk.toInt ∧ kk.toInt < to_.toInt then 1 else 0), Go p e below s QQ room_1.cells room_1.slots (T4.setTop (mkF m 156 #[.val (.int p0), .val (.int p1), .val (.int p2), .val (.int p3), .val (.int aa), .val (.int cc2), .val (.int fr), .val (.int to_), .val (.int (fr / (64 : Int32))), .val (.int ((to_ - (1 : Int32)) / (64 : Int32))), .val (.int (p2 &&& (3 : Int32))), .val (.int ww), .val (.int bb), .val (.long (own_rw ww fr to_)), .second, .val (.long kk), .second, .val (.int ee), .unset] [])) := by
        intro ee hE
        refine gs (fun t => XS.lload X4.here hx rfl (hb hby at_156) rfl) ?_
        show Go p e below s QQ room_1.cells room_1.slots (T4.setTop (mkF m 158 #[.val (.int p0), .val (.int p1), .val (.int p2), .val (.int p3), .val (.int aa), .val (.int cc2), .val (.int fr), .val (.int to_), .val (.int (fr / (64 : Int32))), .val (.int ((to_ - (1 : Int32)) / (64 : Int32))), .val (.int (p2 &&& (3 : Int32))), .val (.int ww), .val (.int bb), .val (.long (own_rw ww fr to_)), .second, .val (.long kk), .second, .val (.int ee), .unset] [(.long (own_rw ww fr to_))]))
        refine gs (fun t => XS.iload X4.here hx rfl (hb hby at_158) rfl) ?_
        show Go p e below s QQ room_1.cells room_1.slots (T4.setTop (mkF m 160 #[.val (.int p0), .val (.int p1), .val (.int p2), .val (.int p3), .val (.int aa), .val (.int cc2), .val (.int fr), .val (.int to_), .val (.int (fr / (64 : Int32))), .val (.int ((to_ - (1 : Int32)) / (64 : Int32))), .val (.int (p2 &&& (3 : Int32))), .val (.int ww), .val (.int bb), .val (.long (own_rw ww fr to_)), .second, .val (.long kk), .second, .val (.int ee), .unset] [(.int bb), (.long (own_rw ww fr to_))]))
        refine gs (fun t => XS.lushr X4.here hx rfl (hb hby at_160) rfl) ?_
        show Go p e below s QQ room_1.cells room_1.slots (T4.setTop (mkF m 161 #[.val (.int p0), .val (.int p1), .val (.int p2), .val (.int p3), .val (.int aa), .val (.int cc2), .val (.int fr), .val (.int to_), .val (.int (fr / (64 : Int32))), .val (.int ((to_ - (1 : Int32)) / (64 : Int32))), .val (.int (p2 &&& (3 : Int32))), .val (.int ww), .val (.int bb), .val (.long (own_rw ww fr to_)), .second, .val (.long kk), .second, .val (.int ee), .unset] [(.long (((own_rw ww fr to_).toUInt64 >>> (bb &&& 0x3f).toInt64.toUInt64).toInt64))]))
        refine gs (fun t => XS.lconst X4.here hx rfl (hb hby at_161)) ?_
        show Go p e below s QQ room_1.cells room_1.slots (T4.setTop (mkF m 162 #[.val (.int p0), .val (.int p1), .val (.int p2), .val (.int p3), .val (.int aa), .val (.int cc2), .val (.int fr), .val (.int to_), .val (.int (fr / (64 : Int32))), .val (.int ((to_ - (1 : Int32)) / (64 : Int32))), .val (.int (p2 &&& (3 : Int32))), .val (.int ww), .val (.int bb), .val (.long (own_rw ww fr to_)), .second, .val (.long kk), .second, .val (.int ee), .unset] [(.long (1 : Int64)), (.long (((own_rw ww fr to_).toUInt64 >>> (bb &&& 0x3f).toInt64.toUInt64).toInt64))]))
        refine gs (fun t => XS.land X4.here hx rfl (hb hby at_162) rfl) ?_
        show Go p e below s QQ room_1.cells room_1.slots (T4.setTop (mkF m 163 #[.val (.int p0), .val (.int p1), .val (.int p2), .val (.int p3), .val (.int aa), .val (.int cc2), .val (.int fr), .val (.int to_), .val (.int (fr / (64 : Int32))), .val (.int ((to_ - (1 : Int32)) / (64 : Int32))), .val (.int (p2 &&& (3 : Int32))), .val (.int ww), .val (.int bb), .val (.long (own_rw ww fr to_)), .second, .val (.long kk), .second, .val (.int ee), .unset] [(.long ((((own_rw ww fr to_).toUInt64 >>> (bb &&& 0x3f).toInt64.toUInt64).toInt64) &&& (1 : Int64)))]))
        refine gs (fun t => XS.lconst X4.here hx rfl (hb hby at_163)) ?_
        show Go p e below s QQ room_1.cells room_1.slots (T4.setTop (mkF m 164 #[.val (.int p0), .val (.int p1), .val (.int p2), .val (.int p3), .val (.int aa), .val (.int cc2), .val (.int fr), .val (.int to_), .val (.int (fr / (64 : Int32))), .val (.int ((to_ - (1 : Int32)) / (64 : Int32))), .val (.int (p2 &&& (3 : Int32))), .val (.int ww), .val (.int bb), .val (.long (own_rw ww fr to_)), .second, .val (.long kk), .second, .val (.int ee), .unset] [(.long (0 : Int64)), (.long ((((own_rw ww fr to_).toUInt64 >>> (bb &&& 0x3f).toInt64.toUInt64).toInt64) &&& (1 : Int64)))]))
        refine gs (fun t => XS.lcmp X4.here hx rfl (hb hby at_164) rfl) ?_
        show Go p e below s QQ room_1.cells room_1.slots (T4.setTop (mkF m 165 #[.val (.int p0), .val (.int p1), .val (.int p2), .val (.int p3), .val (.int aa), .val (.int cc2), .val (.int fr), .val (.int to_), .val (.int (fr / (64 : Int32))), .val (.int ((to_ - (1 : Int32)) / (64 : Int32))), .val (.int (p2 &&& (3 : Int32))), .val (.int ww), .val (.int bb), .val (.long (own_rw ww fr to_)), .second, .val (.long kk), .second, .val (.int ee), .unset] [(.int (lcmpW ((((own_rw ww fr to_).toUInt64 >>> (bb &&& 0x3f).toInt64.toUInt64).toInt64) &&& (1 : Int64)) (0 : Int64)))]))
        by_cases hz : (lcmpW ((((own_rw ww fr to_).toUInt64 >>> (bb &&& 0x3f).toInt64.toUInt64).toInt64) &&& (1 : Int64)) (0 : Int64)) = (0 : Int32)
        · skip
          refine gs (fun t => XS.ifYes X4.here hx rfl (pc0 := 165) (pc' := 172) rfl (hb hby at_165) rfl ((if0 _ _).trans (teq hz).1) (by decide) (by decide)) ?_
          show Go p e below s QQ room_1.cells room_1.slots (T4.setTop (mkF m 172 #[.val (.int p0), .val (.int p1), .val (.int p2), .val (.int p3), .val (.int aa), .val (.int cc2), .val (.int fr), .val (.int to_), .val (.int (fr / (64 : Int32))), .val (.int ((to_ - (1 : Int32)) / (64 : Int32))), .val (.int (p2 &&& (3 : Int32))), .val (.int ww), .val (.int bb), .val (.long (own_rw ww fr to_)), .second, .val (.long kk), .second, .val (.int ee), .unset] []))
          refine gs (fun t => XS.iconst X4.here hx rfl (hb hby at_172)) ?_
          show Go p e below s QQ room_1.cells room_1.slots (T4.setTop (mkF m 173 #[.val (.int p0), .val (.int p1), .val (.int p2), .val (.int p3), .val (.int aa), .val (.int cc2), .val (.int fr), .val (.int to_), .val (.int (fr / (64 : Int32))), .val (.int ((to_ - (1 : Int32)) / (64 : Int32))), .val (.int (p2 &&& (3 : Int32))), .val (.int ww), .val (.int bb), .val (.long (own_rw ww fr to_)), .second, .val (.long kk), .second, .val (.int ee), .unset] [(.int (0 : Int32))]))
          refine gs (fun t => XS.istore X4.here hx rfl (hb hby at_173) rfl (l' := #[.val (.int p0), .val (.int p1), .val (.int p2), .val (.int p3), .val (.int aa), .val (.int cc2), .val (.int fr), .val (.int to_), .val (.int (fr / (64 : Int32))), .val (.int ((to_ - (1 : Int32)) / (64 : Int32))), .val (.int (p2 &&& (3 : Int32))), .val (.int ww), .val (.int bb), .val (.long (own_rw ww fr to_)), .second, .val (.long kk), .second, .val (.int ee), .val (.int (0 : Int32))]) rfl) ?_
          show Go p e below s QQ room_1.cells room_1.slots (T4.setTop (mkF m 175 #[.val (.int p0), .val (.int p1), .val (.int p2), .val (.int p3), .val (.int aa), .val (.int cc2), .val (.int fr), .val (.int to_), .val (.int (fr / (64 : Int32))), .val (.int ((to_ - (1 : Int32)) / (64 : Int32))), .val (.int (p2 &&& (3 : Int32))), .val (.int ww), .val (.int bb), .val (.long (own_rw ww fr to_)), .second, .val (.long kk), .second, .val (.int ee), .val (.int (0 : Int32))] []))
          refine gs (fun t => XS.iload X4.here hx rfl (hb hby at_175) rfl) ?_
          show Go p e below s QQ room_1.cells room_1.slots (T4.setTop (mkF m 177 #[.val (.int p0), .val (.int p1), .val (.int p2), .val (.int p3), .val (.int aa), .val (.int cc2), .val (.int fr), .val (.int to_), .val (.int (fr / (64 : Int32))), .val (.int ((to_ - (1 : Int32)) / (64 : Int32))), .val (.int (p2 &&& (3 : Int32))), .val (.int ww), .val (.int bb), .val (.long (own_rw ww fr to_)), .second, .val (.long kk), .second, .val (.int ee), .val (.int (0 : Int32))] [(.int ee)]))
          refine gs (fun t => XS.iload X4.here hx rfl (hb hby at_177) rfl) ?_
          show Go p e below s QQ room_1.cells room_1.slots (T4.setTop (mkF m 179 #[.val (.int p0), .val (.int p1), .val (.int p2), .val (.int p3), .val (.int aa), .val (.int cc2), .val (.int fr), .val (.int to_), .val (.int (fr / (64 : Int32))), .val (.int ((to_ - (1 : Int32)) / (64 : Int32))), .val (.int (p2 &&& (3 : Int32))), .val (.int ww), .val (.int bb), .val (.long (own_rw ww fr to_)), .second, .val (.long kk), .second, .val (.int ee), .val (.int (0 : Int32))] [(.int (0 : Int32)), (.int ee)]))
          refine gs (fun t => XS.icmpNo X4.here hx rfl (hb hby at_179) rfl (teq (by rw [hE, if_neg (el.mp ((lw_eq _ _).mp hz))] : ee = (0 : Int32))).2) ?_
          show Go p e below s QQ room_1.cells room_1.slots (T4.setTop (mkF m 182 #[.val (.int p0), .val (.int p1), .val (.int p2), .val (.int p3), .val (.int aa), .val (.int cc2), .val (.int fr), .val (.int to_), .val (.int (fr / (64 : Int32))), .val (.int ((to_ - (1 : Int32)) / (64 : Int32))), .val (.int (p2 &&& (3 : Int32))), .val (.int ww), .val (.int bb), .val (.long (own_rw ww fr to_)), .second, .val (.long kk), .second, .val (.int ee), .val (.int (0 : Int32))] []))
          refine gs (fun t => XS.iconst X4.here hx rfl (hb hby at_182)) ?_
          show Go p e below s QQ room_1.cells room_1.slots (T4.setTop (mkF m 183 #[.val (.int p0), .val (.int p1), .val (.int p2), .val (.int p3), .val (.int aa), .val (.int cc2), .val (.int fr), .val (.int to_), .val (.int (fr / (64 : Int32))), .val (.int ((to_ - (1 : Int32)) / (64 : Int32))), .val (.int (p2 &&& (3 : Int32))), .val (.int ww), .val (.int bb), .val (.long (own_rw ww fr to_)), .second, .val (.long kk), .second, .val (.int ee), .val (.int (0 : Int32))] [(.int (1 : Int32))]))
          refine gs (fun t => XS.goto X4.here hx rfl (pc0 := 183) (pc' := 187) rfl (hb hby at_183) (by decide) (by decide)) ?_
          show Go p e below s QQ room_1.cells room_1.slots (T4.setTop (mkF m 187 #[.val (.int p0), .val (.int p1), .val (.int p2), .val (.int p3), .val (.int aa), .val (.int cc2), .val (.int fr), .val (.int to_), .val (.int (fr / (64 : Int32))), .val (.int ((to_ - (1 : Int32)) / (64 : Int32))), .val (.int (p2 &&& (3 : Int32))), .val (.int ww), .val (.int bb), .val (.long (own_rw ww fr to_)), .second, .val (.long kk), .second, .val (.int ee), .val (.int (0 : Int32))] [(.int (1 : Int32))]))
          exact goB X4 hx Bd.notSynchronized Bd.returns (by simp) (w := (1 : Int32)) (by first | rfl | decide) (hb hby at_187) (by rw [← hQQ, e4]; exact ⟨rfl, N0⟩) (by decide) (by decide)
        · skip
          refine gs (fun t => XS.ifNo X4.here hx rfl (hb hby at_165) rfl ((if0 _ _).trans (feq hz).1)) ?_
          show Go p e below s QQ room_1.cells room_1.slots (T4.setTop (mkF m 168 #[.val (.int p0), .val (.int p1), .val (.int p2), .val (.int p3), .val (.int aa), .val (.int cc2), .val (.int fr), .val (.int to_), .val (.int (fr / (64 : Int32))), .val (.int ((to_ - (1 : Int32)) / (64 : Int32))), .val (.int (p2 &&& (3 : Int32))), .val (.int ww), .val (.int bb), .val (.long (own_rw ww fr to_)), .second, .val (.long kk), .second, .val (.int ee), .unset] []))
          have hz2 := Decidable.not_not.mp (fun q => hz ((lw_eq _ _).mpr (el.mpr q)))
          refine gs (fun t => XS.iconst X4.here hx rfl (hb hby at_168)) ?_
          show Go p e below s QQ room_1.cells room_1.slots (T4.setTop (mkF m 169 #[.val (.int p0), .val (.int p1), .val (.int p2), .val (.int p3), .val (.int aa), .val (.int cc2), .val (.int fr), .val (.int to_), .val (.int (fr / (64 : Int32))), .val (.int ((to_ - (1 : Int32)) / (64 : Int32))), .val (.int (p2 &&& (3 : Int32))), .val (.int ww), .val (.int bb), .val (.long (own_rw ww fr to_)), .second, .val (.long kk), .second, .val (.int ee), .unset] [(.int (1 : Int32))]))
          refine gs (fun t => XS.goto X4.here hx rfl (pc0 := 169) (pc' := 173) rfl (hb hby at_169) (by decide) (by decide)) ?_
          show Go p e below s QQ room_1.cells room_1.slots (T4.setTop (mkF m 173 #[.val (.int p0), .val (.int p1), .val (.int p2), .val (.int p3), .val (.int aa), .val (.int cc2), .val (.int fr), .val (.int to_), .val (.int (fr / (64 : Int32))), .val (.int ((to_ - (1 : Int32)) / (64 : Int32))), .val (.int (p2 &&& (3 : Int32))), .val (.int ww), .val (.int bb), .val (.long (own_rw ww fr to_)), .second, .val (.long kk), .second, .val (.int ee), .unset] [(.int (1 : Int32))]))
          refine gs (fun t => XS.istore X4.here hx rfl (hb hby at_173) rfl (l' := #[.val (.int p0), .val (.int p1), .val (.int p2), .val (.int p3), .val (.int aa), .val (.int cc2), .val (.int fr), .val (.int to_), .val (.int (fr / (64 : Int32))), .val (.int ((to_ - (1 : Int32)) / (64 : Int32))), .val (.int (p2 &&& (3 : Int32))), .val (.int ww), .val (.int bb), .val (.long (own_rw ww fr to_)), .second, .val (.long kk), .second, .val (.int ee), .val (.int (1 : Int32))]) rfl) ?_
          show Go p e below s QQ room_1.cells room_1.slots (T4.setTop (mkF m 175 #[.val (.int p0), .val (.int p1), .val (.int p2), .val (.int p3), .val (.int aa), .val (.int cc2), .val (.int fr), .val (.int to_), .val (.int (fr / (64 : Int32))), .val (.int ((to_ - (1 : Int32)) / (64 : Int32))), .val (.int (p2 &&& (3 : Int32))), .val (.int ww), .val (.int bb), .val (.long (own_rw ww fr to_)), .second, .val (.long kk), .second, .val (.int ee), .val (.int (1 : Int32))] []))
          refine gs (fun t => XS.iload X4.here hx rfl (hb hby at_175) rfl) ?_
          show Go p e below s QQ room_1.cells room_1.slots (T4.setTop (mkF m 177 #[.val (.int p0), .val (.int p1), .val (.int p2), .val (.int p3), .val (.int aa), .val (.int cc2), .val (.int fr), .val (.int to_), .val (.int (fr / (64 : Int32))), .val (.int ((to_ - (1 : Int32)) / (64 : Int32))), .val (.int (p2 &&& (3 : Int32))), .val (.int ww), .val (.int bb), .val (.long (own_rw ww fr to_)), .second, .val (.long kk), .second, .val (.int ee), .val (.int (1 : Int32))] [(.int ee)]))
          refine gs (fun t => XS.iload X4.here hx rfl (hb hby at_177) rfl) ?_
          show Go p e below s QQ room_1.cells room_1.slots (T4.setTop (mkF m 179 #[.val (.int p0), .val (.int p1), .val (.int p2), .val (.int p3), .val (.int aa), .val (.int cc2), .val (.int fr), .val (.int to_), .val (.int (fr / (64 : Int32))), .val (.int ((to_ - (1 : Int32)) / (64 : Int32))), .val (.int (p2 &&& (3 : Int32))), .val (.int ww), .val (.int bb), .val (.long (own_rw ww fr to_)), .second, .val (.long kk), .second, .val (.int ee), .val (.int (1 : Int32))] [(.int (1 : Int32)), (.int ee)]))
          refine gs (fun t => XS.icmpNo X4.here hx rfl (hb hby at_179) rfl (teq (by rw [hE, if_pos hz2] : ee = (1 : Int32))).2) ?_
          show Go p e below s QQ room_1.cells room_1.slots (T4.setTop (mkF m 182 #[.val (.int p0), .val (.int p1), .val (.int p2), .val (.int p3), .val (.int aa), .val (.int cc2), .val (.int fr), .val (.int to_), .val (.int (fr / (64 : Int32))), .val (.int ((to_ - (1 : Int32)) / (64 : Int32))), .val (.int (p2 &&& (3 : Int32))), .val (.int ww), .val (.int bb), .val (.long (own_rw ww fr to_)), .second, .val (.long kk), .second, .val (.int ee), .val (.int (1 : Int32))] []))
          refine gs (fun t => XS.iconst X4.here hx rfl (hb hby at_182)) ?_
          show Go p e below s QQ room_1.cells room_1.slots (T4.setTop (mkF m 183 #[.val (.int p0), .val (.int p1), .val (.int p2), .val (.int p3), .val (.int aa), .val (.int cc2), .val (.int fr), .val (.int to_), .val (.int (fr / (64 : Int32))), .val (.int ((to_ - (1 : Int32)) / (64 : Int32))), .val (.int (p2 &&& (3 : Int32))), .val (.int ww), .val (.int bb), .val (.long (own_rw ww fr to_)), .second, .val (.long kk), .second, .val (.int ee), .val (.int (1 : Int32))] [(.int (1 : Int32))]))
          refine gs (fun t => XS.goto X4.here hx rfl (pc0 := 183) (pc' := 187) rfl (hb hby at_183) (by decide) (by decide)) ?_
          show Go p e below s QQ room_1.cells room_1.slots (T4.setTop (mkF m 187 #[.val (.int p0), .val (.int p1), .val (.int p2), .val (.int p3), .val (.int aa), .val (.int cc2), .val (.int fr), .val (.int to_), .val (.int (fr / (64 : Int32))), .val (.int ((to_ - (1 : Int32)) / (64 : Int32))), .val (.int (p2 &&& (3 : Int32))), .val (.int ww), .val (.int bb), .val (.long (own_rw ww fr to_)), .second, .val (.long kk), .second, .val (.int ee), .val (.int (1 : Int32))] [(.int (1 : Int32))]))
          exact goB X4 hx Bd.notSynchronized Bd.returns (by simp) (w := (1 : Int32)) (by first | rfl | decide) (hb hby at_187) (by rw [← hQQ, e4]; exact ⟨rfl, N0⟩) (by decide) (by decide)
      by_cases h1 : (0 : Int32) < (lcmpW (fr.toInt64) kk)
      · skip
        refine gs (fun t => XS.ifYes X4.here hx rfl (pc0 := 137) (pc' := 153) rfl (hb hby at_137) rfl ((if0 _ _).trans (tlt h1).2.2.1) (by decide) (by decide)) ?_
        show Go p e below s QQ room_1.cells room_1.slots (T4.setTop (mkF m 153 #[.val (.int p0), .val (.int p1), .val (.int p2), .val (.int p3), .val (.int aa), .val (.int cc2), .val (.int fr), .val (.int to_), .val (.int (fr / (64 : Int32))), .val (.int ((to_ - (1 : Int32)) / (64 : Int32))), .val (.int (p2 &&& (3 : Int32))), .val (.int ww), .val (.int bb), .val (.long (own_rw ww fr to_)), .second, .val (.long kk), .second, .unset, .unset] []))
        have g1 := Int64.lt_iff_toInt_lt.mp ((lw_gt _ _).mp h1)
        refine gs (fun t => XS.iconst X4.here hx rfl (hb hby at_153)) ?_
        show Go p e below s QQ room_1.cells room_1.slots (T4.setTop (mkF m 154 #[.val (.int p0), .val (.int p1), .val (.int p2), .val (.int p3), .val (.int aa), .val (.int cc2), .val (.int fr), .val (.int to_), .val (.int (fr / (64 : Int32))), .val (.int ((to_ - (1 : Int32)) / (64 : Int32))), .val (.int (p2 &&& (3 : Int32))), .val (.int ww), .val (.int bb), .val (.long (own_rw ww fr to_)), .second, .val (.long kk), .second, .unset, .unset] [(.int (0 : Int32))]))
        refine gs (fun t => XS.istore X4.here hx rfl (hb hby at_154) rfl (l' := #[.val (.int p0), .val (.int p1), .val (.int p2), .val (.int p3), .val (.int aa), .val (.int cc2), .val (.int fr), .val (.int to_), .val (.int (fr / (64 : Int32))), .val (.int ((to_ - (1 : Int32)) / (64 : Int32))), .val (.int (p2 &&& (3 : Int32))), .val (.int ww), .val (.int bb), .val (.long (own_rw ww fr to_)), .second, .val (.long kk), .second, .val (.int (0 : Int32)), .unset]) rfl) ?_
        show Go p e below s QQ room_1.cells room_1.slots (T4.setTop (mkF m 156 #[.val (.int p0), .val (.int p1), .val (.int p2), .val (.int p3), .val (.int aa), .val (.int cc2), .val (.int fr), .val (.int to_), .val (.int (fr / (64 : Int32))), .val (.int ((to_ - (1 : Int32)) / (64 : Int32))), .val (.int (p2 &&& (3 : Int32))), .val (.int ww), .val (.int bb), .val (.long (own_rw ww fr to_)), .second, .val (.long kk), .second, .val (.int (0 : Int32)), .unset] []))
        exact key2 _ (by rw [if_neg (fun q => by omega)])
      · skip
        refine gs (fun t => XS.ifNo X4.here hx rfl (hb hby at_137) rfl ((if0 _ _).trans (flt h1).2.2.1)) ?_
        show Go p e below s QQ room_1.cells room_1.slots (T4.setTop (mkF m 140 #[.val (.int p0), .val (.int p1), .val (.int p2), .val (.int p3), .val (.int aa), .val (.int cc2), .val (.int fr), .val (.int to_), .val (.int (fr / (64 : Int32))), .val (.int ((to_ - (1 : Int32)) / (64 : Int32))), .val (.int (p2 &&& (3 : Int32))), .val (.int ww), .val (.int bb), .val (.long (own_rw ww fr to_)), .second, .val (.long kk), .second, .unset, .unset] []))
        have g1 : ¬ kk.toInt < fr.toInt := fun q => h1 ((lw_gt _ _).mpr (Int64.lt_iff_toInt_lt.mpr (by omega)))
        refine gs (fun t => XS.lload X4.here hx rfl (hb hby at_140) rfl) ?_
        show Go p e below s QQ room_1.cells room_1.slots (T4.setTop (mkF m 142 #[.val (.int p0), .val (.int p1), .val (.int p2), .val (.int p3), .val (.int aa), .val (.int cc2), .val (.int fr), .val (.int to_), .val (.int (fr / (64 : Int32))), .val (.int ((to_ - (1 : Int32)) / (64 : Int32))), .val (.int (p2 &&& (3 : Int32))), .val (.int ww), .val (.int bb), .val (.long (own_rw ww fr to_)), .second, .val (.long kk), .second, .unset, .unset] [(.long kk)]))
        refine gs (fun t => XS.iload X4.here hx rfl (hb hby at_142) rfl) ?_
        show Go p e below s QQ room_1.cells room_1.slots (T4.setTop (mkF m 144 #[.val (.int p0), .val (.int p1), .val (.int p2), .val (.int p3), .val (.int aa), .val (.int cc2), .val (.int fr), .val (.int to_), .val (.int (fr / (64 : Int32))), .val (.int ((to_ - (1 : Int32)) / (64 : Int32))), .val (.int (p2 &&& (3 : Int32))), .val (.int ww), .val (.int bb), .val (.long (own_rw ww fr to_)), .second, .val (.long kk), .second, .unset, .unset] [(.int to_), (.long kk)]))
        refine gs (fun t => XS.i2l X4.here hx rfl (hb hby at_144) rfl) ?_
        show Go p e below s QQ room_1.cells room_1.slots (T4.setTop (mkF m 145 #[.val (.int p0), .val (.int p1), .val (.int p2), .val (.int p3), .val (.int aa), .val (.int cc2), .val (.int fr), .val (.int to_), .val (.int (fr / (64 : Int32))), .val (.int ((to_ - (1 : Int32)) / (64 : Int32))), .val (.int (p2 &&& (3 : Int32))), .val (.int ww), .val (.int bb), .val (.long (own_rw ww fr to_)), .second, .val (.long kk), .second, .unset, .unset] [(.long (to_.toInt64)), (.long kk)]))
        refine gs (fun t => XS.lcmp X4.here hx rfl (hb hby at_145) rfl) ?_
        show Go p e below s QQ room_1.cells room_1.slots (T4.setTop (mkF m 146 #[.val (.int p0), .val (.int p1), .val (.int p2), .val (.int p3), .val (.int aa), .val (.int cc2), .val (.int fr), .val (.int to_), .val (.int (fr / (64 : Int32))), .val (.int ((to_ - (1 : Int32)) / (64 : Int32))), .val (.int (p2 &&& (3 : Int32))), .val (.int ww), .val (.int bb), .val (.long (own_rw ww fr to_)), .second, .val (.long kk), .second, .unset, .unset] [(.int (lcmpW kk (to_.toInt64)))]))
        by_cases h2 : (lcmpW kk (to_.toInt64)) < (0 : Int32)
        · skip
          refine gs (fun t => XS.ifNo X4.here hx rfl (hb hby at_146) rfl ((if0 _ _).trans (tlt h2).2.1)) ?_
          show Go p e below s QQ room_1.cells room_1.slots (T4.setTop (mkF m 149 #[.val (.int p0), .val (.int p1), .val (.int p2), .val (.int p3), .val (.int aa), .val (.int cc2), .val (.int fr), .val (.int to_), .val (.int (fr / (64 : Int32))), .val (.int ((to_ - (1 : Int32)) / (64 : Int32))), .val (.int (p2 &&& (3 : Int32))), .val (.int ww), .val (.int bb), .val (.long (own_rw ww fr to_)), .second, .val (.long kk), .second, .unset, .unset] []))
          have g2 := Int64.lt_iff_toInt_lt.mp ((lw_lt _ _).mp h2)
          refine gs (fun t => XS.iconst X4.here hx rfl (hb hby at_149)) ?_
          show Go p e below s QQ room_1.cells room_1.slots (T4.setTop (mkF m 150 #[.val (.int p0), .val (.int p1), .val (.int p2), .val (.int p3), .val (.int aa), .val (.int cc2), .val (.int fr), .val (.int to_), .val (.int (fr / (64 : Int32))), .val (.int ((to_ - (1 : Int32)) / (64 : Int32))), .val (.int (p2 &&& (3 : Int32))), .val (.int ww), .val (.int bb), .val (.long (own_rw ww fr to_)), .second, .val (.long kk), .second, .unset, .unset] [(.int (1 : Int32))]))
          refine gs (fun t => XS.goto X4.here hx rfl (pc0 := 150) (pc' := 154) rfl (hb hby at_150) (by decide) (by decide)) ?_
          show Go p e below s QQ room_1.cells room_1.slots (T4.setTop (mkF m 154 #[.val (.int p0), .val (.int p1), .val (.int p2), .val (.int p3), .val (.int aa), .val (.int cc2), .val (.int fr), .val (.int to_), .val (.int (fr / (64 : Int32))), .val (.int ((to_ - (1 : Int32)) / (64 : Int32))), .val (.int (p2 &&& (3 : Int32))), .val (.int ww), .val (.int bb), .val (.long (own_rw ww fr to_)), .second, .val (.long kk), .second, .unset, .unset] [(.int (1 : Int32))]))
          refine gs (fun t => XS.istore X4.here hx rfl (hb hby at_154) rfl (l' := #[.val (.int p0), .val (.int p1), .val (.int p2), .val (.int p3), .val (.int aa), .val (.int cc2), .val (.int fr), .val (.int to_), .val (.int (fr / (64 : Int32))), .val (.int ((to_ - (1 : Int32)) / (64 : Int32))), .val (.int (p2 &&& (3 : Int32))), .val (.int ww), .val (.int bb), .val (.long (own_rw ww fr to_)), .second, .val (.long kk), .second, .val (.int (1 : Int32)), .unset]) rfl) ?_
          show Go p e below s QQ room_1.cells room_1.slots (T4.setTop (mkF m 156 #[.val (.int p0), .val (.int p1), .val (.int p2), .val (.int p3), .val (.int aa), .val (.int cc2), .val (.int fr), .val (.int to_), .val (.int (fr / (64 : Int32))), .val (.int ((to_ - (1 : Int32)) / (64 : Int32))), .val (.int (p2 &&& (3 : Int32))), .val (.int ww), .val (.int bb), .val (.long (own_rw ww fr to_)), .second, .val (.long kk), .second, .val (.int (1 : Int32)), .unset] []))
          exact key2 _ (by rw [if_pos ⟨by omega, by omega⟩])
        · skip
          refine gs (fun t => XS.ifYes X4.here hx rfl (pc0 := 146) (pc' := 153) rfl (hb hby at_146) rfl ((if0 _ _).trans (flt h2).2.1) (by decide) (by decide)) ?_
          show Go p e below s QQ room_1.cells room_1.slots (T4.setTop (mkF m 153 #[.val (.int p0), .val (.int p1), .val (.int p2), .val (.int p3), .val (.int aa), .val (.int cc2), .val (.int fr), .val (.int to_), .val (.int (fr / (64 : Int32))), .val (.int ((to_ - (1 : Int32)) / (64 : Int32))), .val (.int (p2 &&& (3 : Int32))), .val (.int ww), .val (.int bb), .val (.long (own_rw ww fr to_)), .second, .val (.long kk), .second, .unset, .unset] []))
          have g2 : ¬ kk.toInt < to_.toInt := fun q => h2 ((lw_lt _ _).mpr (Int64.lt_iff_toInt_lt.mpr (by omega)))
          refine gs (fun t => XS.iconst X4.here hx rfl (hb hby at_153)) ?_
          show Go p e below s QQ room_1.cells room_1.slots (T4.setTop (mkF m 154 #[.val (.int p0), .val (.int p1), .val (.int p2), .val (.int p3), .val (.int aa), .val (.int cc2), .val (.int fr), .val (.int to_), .val (.int (fr / (64 : Int32))), .val (.int ((to_ - (1 : Int32)) / (64 : Int32))), .val (.int (p2 &&& (3 : Int32))), .val (.int ww), .val (.int bb), .val (.long (own_rw ww fr to_)), .second, .val (.long kk), .second, .unset, .unset] [(.int (0 : Int32))]))
          refine gs (fun t => XS.istore X4.here hx rfl (hb hby at_154) rfl (l' := #[.val (.int p0), .val (.int p1), .val (.int p2), .val (.int p3), .val (.int aa), .val (.int cc2), .val (.int fr), .val (.int to_), .val (.int (fr / (64 : Int32))), .val (.int ((to_ - (1 : Int32)) / (64 : Int32))), .val (.int (p2 &&& (3 : Int32))), .val (.int ww), .val (.int bb), .val (.long (own_rw ww fr to_)), .second, .val (.long kk), .second, .val (.int (0 : Int32)), .unset]) rfl) ?_
          show Go p e below s QQ room_1.cells room_1.slots (T4.setTop (mkF m 156 #[.val (.int p0), .val (.int p1), .val (.int p2), .val (.int p3), .val (.int aa), .val (.int cc2), .val (.int fr), .val (.int to_), .val (.int (fr / (64 : Int32))), .val (.int ((to_ - (1 : Int32)) / (64 : Int32))), .val (.int (p2 &&& (3 : Int32))), .val (.int ww), .val (.int bb), .val (.long (own_rw ww fr to_)), .second, .val (.long kk), .second, .val (.int (0 : Int32)), .unset] []))
          exact key2 _ (by rw [if_neg (fun q => g2 q.2)])
    by_cases hs0 : (p2 &&& (3 : Int32)) = (0 : Int32)
    · skip
      refine gs (fun t => XS.ifNo X2.here hx rfl (hb hby at_62) rfl ((if0 _ _).trans (teq hs0).2)) ?_
      show Go p e below s QQ room_1.cells room_1.slots (T2.setTop (mkF m 65 #[.val (.int p0), .val (.int p1), .val (.int p2), .val (.int p3), .val (.int aa), .val (.int cc2), .val (.int fr), .val (.int to_), .val (.int (fr / (64 : Int32))), .val (.int ((to_ - (1 : Int32)) / (64 : Int32))), .val (.int (p2 &&& (3 : Int32))), .unset, .unset, .unset, .unset, .unset, .unset, .unset, .unset] []))
      refine gs (fun t => XS.iload X2.here hx rfl (hb hby at_65) rfl) ?_
      show Go p e below s QQ room_1.cells room_1.slots (T2.setTop (mkF m 67 #[.val (.int p0), .val (.int p1), .val (.int p2), .val (.int p3), .val (.int aa), .val (.int cc2), .val (.int fr), .val (.int to_), .val (.int (fr / (64 : Int32))), .val (.int ((to_ - (1 : Int32)) / (64 : Int32))), .val (.int (p2 &&& (3 : Int32))), .unset, .unset, .unset, .unset, .unset, .unset, .unset, .unset] [(.int (fr / (64 : Int32)))]))
      refine gs (fun t => XS.istore X2.here hx rfl (hb hby at_67) rfl (l' := #[.val (.int p0), .val (.int p1), .val (.int p2), .val (.int p3), .val (.int aa), .val (.int cc2), .val (.int fr), .val (.int to_), .val (.int (fr / (64 : Int32))), .val (.int ((to_ - (1 : Int32)) / (64 : Int32))), .val (.int (p2 &&& (3 : Int32))), .val (.int (fr / (64 : Int32))), .unset, .unset, .unset, .unset, .unset, .unset, .unset]) rfl) ?_
      show Go p e below s QQ room_1.cells room_1.slots (T2.setTop (mkF m 69 #[.val (.int p0), .val (.int p1), .val (.int p2), .val (.int p3), .val (.int aa), .val (.int cc2), .val (.int fr), .val (.int to_), .val (.int (fr / (64 : Int32))), .val (.int ((to_ - (1 : Int32)) / (64 : Int32))), .val (.int (p2 &&& (3 : Int32))), .val (.int (fr / (64 : Int32))), .unset, .unset, .unset, .unset, .unset, .unset, .unset] []))
      refine gs (fun t => XS.goto X2.here hx rfl (pc0 := 69) (pc' := 101) rfl (hb hby at_69) (by decide) (by decide)) ?_
      show Go p e below s QQ room_1.cells room_1.slots (T2.setTop (mkF m 101 #[.val (.int p0), .val (.int p1), .val (.int p2), .val (.int p3), .val (.int aa), .val (.int cc2), .val (.int fr), .val (.int to_), .val (.int (fr / (64 : Int32))), .val (.int ((to_ - (1 : Int32)) / (64 : Int32))), .val (.int (p2 &&& (3 : Int32))), .val (.int (fr / (64 : Int32))), .unset, .unset, .unset, .unset, .unset, .unset, .unset] []))
      exact key1 _ (by omega) (by omega)
    · skip
      refine gs (fun t => XS.ifYes X2.here hx rfl (pc0 := 62) (pc' := 72) rfl (hb hby at_62) rfl ((if0 _ _).trans (feq hs0).2) (by decide) (by decide)) ?_
      show Go p e below s QQ room_1.cells room_1.slots (T2.setTop (mkF m 72 #[.val (.int p0), .val (.int p1), .val (.int p2), .val (.int p3), .val (.int aa), .val (.int cc2), .val (.int fr), .val (.int to_), .val (.int (fr / (64 : Int32))), .val (.int ((to_ - (1 : Int32)) / (64 : Int32))), .val (.int (p2 &&& (3 : Int32))), .unset, .unset, .unset, .unset, .unset, .unset, .unset, .unset] []))
      refine gs (fun t => XS.iload X2.here hx rfl (hb hby at_72) rfl) ?_
      show Go p e below s QQ room_1.cells room_1.slots (T2.setTop (mkF m 74 #[.val (.int p0), .val (.int p1), .val (.int p2), .val (.int p3), .val (.int aa), .val (.int cc2), .val (.int fr), .val (.int to_), .val (.int (fr / (64 : Int32))), .val (.int ((to_ - (1 : Int32)) / (64 : Int32))), .val (.int (p2 &&& (3 : Int32))), .unset, .unset, .unset, .unset, .unset, .unset, .unset, .unset] [(.int (p2 &&& (3 : Int32)))]))
      refine gs (fun t => XS.iconst X2.here hx rfl (hb hby at_74)) ?_
      show Go p e below s QQ room_1.cells room_1.slots (T2.setTop (mkF m 75 #[.val (.int p0), .val (.int p1), .val (.int p2), .val (.int p3), .val (.int aa), .val (.int cc2), .val (.int fr), .val (.int to_), .val (.int (fr / (64 : Int32))), .val (.int ((to_ - (1 : Int32)) / (64 : Int32))), .val (.int (p2 &&& (3 : Int32))), .unset, .unset, .unset, .unset, .unset, .unset, .unset, .unset] [(.int (1 : Int32)), (.int (p2 &&& (3 : Int32)))]))
      by_cases hs1 : (p2 &&& (3 : Int32)) = (1 : Int32)
      · skip
        refine gs (fun t => XS.icmpNo X2.here hx rfl (hb hby at_75) rfl (teq hs1).2) ?_
        show Go p e below s QQ room_1.cells room_1.slots (T2.setTop (mkF m 78 #[.val (.int p0), .val (.int p1), .val (.int p2), .val (.int p3), .val (.int aa), .val (.int cc2), .val (.int fr), .val (.int to_), .val (.int (fr / (64 : Int32))), .val (.int ((to_ - (1 : Int32)) / (64 : Int32))), .val (.int (p2 &&& (3 : Int32))), .unset, .unset, .unset, .unset, .unset, .unset, .unset, .unset] []))
        refine gs (fun t => XS.iload X2.here hx rfl (hb hby at_78) rfl) ?_
        show Go p e below s QQ room_1.cells room_1.slots (T2.setTop (mkF m 80 #[.val (.int p0), .val (.int p1), .val (.int p2), .val (.int p3), .val (.int aa), .val (.int cc2), .val (.int fr), .val (.int to_), .val (.int (fr / (64 : Int32))), .val (.int ((to_ - (1 : Int32)) / (64 : Int32))), .val (.int (p2 &&& (3 : Int32))), .unset, .unset, .unset, .unset, .unset, .unset, .unset, .unset] [(.int ((to_ - (1 : Int32)) / (64 : Int32)))]))
        refine gs (fun t => XS.istore X2.here hx rfl (hb hby at_80) rfl (l' := #[.val (.int p0), .val (.int p1), .val (.int p2), .val (.int p3), .val (.int aa), .val (.int cc2), .val (.int fr), .val (.int to_), .val (.int (fr / (64 : Int32))), .val (.int ((to_ - (1 : Int32)) / (64 : Int32))), .val (.int (p2 &&& (3 : Int32))), .val (.int ((to_ - (1 : Int32)) / (64 : Int32))), .unset, .unset, .unset, .unset, .unset, .unset, .unset]) rfl) ?_
        show Go p e below s QQ room_1.cells room_1.slots (T2.setTop (mkF m 82 #[.val (.int p0), .val (.int p1), .val (.int p2), .val (.int p3), .val (.int aa), .val (.int cc2), .val (.int fr), .val (.int to_), .val (.int (fr / (64 : Int32))), .val (.int ((to_ - (1 : Int32)) / (64 : Int32))), .val (.int (p2 &&& (3 : Int32))), .val (.int ((to_ - (1 : Int32)) / (64 : Int32))), .unset, .unset, .unset, .unset, .unset, .unset, .unset] []))
        refine gs (fun t => XS.goto X2.here hx rfl (pc0 := 82) (pc' := 101) rfl (hb hby at_82) (by decide) (by decide)) ?_
        show Go p e below s QQ room_1.cells room_1.slots (T2.setTop (mkF m 101 #[.val (.int p0), .val (.int p1), .val (.int p2), .val (.int p3), .val (.int aa), .val (.int cc2), .val (.int fr), .val (.int to_), .val (.int (fr / (64 : Int32))), .val (.int ((to_ - (1 : Int32)) / (64 : Int32))), .val (.int (p2 &&& (3 : Int32))), .val (.int ((to_ - (1 : Int32)) / (64 : Int32))), .unset, .unset, .unset, .unset, .unset, .unset, .unset] []))
        exact key1 _ (by omega) (by omega)
      · skip
        refine gs (fun t => XS.icmpYes X2.here hx rfl (pc0 := 75) (pc' := 85) rfl (hb hby at_75) rfl (feq hs1).2 (by decide) (by decide)) ?_
        show Go p e below s QQ room_1.cells room_1.slots (T2.setTop (mkF m 85 #[.val (.int p0), .val (.int p1), .val (.int p2), .val (.int p3), .val (.int aa), .val (.int cc2), .val (.int fr), .val (.int to_), .val (.int (fr / (64 : Int32))), .val (.int ((to_ - (1 : Int32)) / (64 : Int32))), .val (.int (p2 &&& (3 : Int32))), .unset, .unset, .unset, .unset, .unset, .unset, .unset, .unset] []))
        refine gs (fun t => XS.iload X2.here hx rfl (hb hby at_85) rfl) ?_
        show Go p e below s QQ room_1.cells room_1.slots (T2.setTop (mkF m 87 #[.val (.int p0), .val (.int p1), .val (.int p2), .val (.int p3), .val (.int aa), .val (.int cc2), .val (.int fr), .val (.int to_), .val (.int (fr / (64 : Int32))), .val (.int ((to_ - (1 : Int32)) / (64 : Int32))), .val (.int (p2 &&& (3 : Int32))), .unset, .unset, .unset, .unset, .unset, .unset, .unset, .unset] [(.int (fr / (64 : Int32)))]))
        refine gs (fun t => XS.iloadN X2.here hx rfl (hb hby at_87) rfl) ?_
        show Go p e below s QQ room_1.cells room_1.slots (T2.setTop (mkF m 88 #[.val (.int p0), .val (.int p1), .val (.int p2), .val (.int p3), .val (.int aa), .val (.int cc2), .val (.int fr), .val (.int to_), .val (.int (fr / (64 : Int32))), .val (.int ((to_ - (1 : Int32)) / (64 : Int32))), .val (.int (p2 &&& (3 : Int32))), .unset, .unset, .unset, .unset, .unset, .unset, .unset, .unset] [(.int p2), (.int (fr / (64 : Int32)))]))
        refine gs (fun t => XS.iconst X2.here hx rfl (hb hby at_88)) ?_
        show Go p e below s QQ room_1.cells room_1.slots (T2.setTop (mkF m 89 #[.val (.int p0), .val (.int p1), .val (.int p2), .val (.int p3), .val (.int aa), .val (.int cc2), .val (.int fr), .val (.int to_), .val (.int (fr / (64 : Int32))), .val (.int ((to_ - (1 : Int32)) / (64 : Int32))), .val (.int (p2 &&& (3 : Int32))), .unset, .unset, .unset, .unset, .unset, .unset, .unset, .unset] [(.int (2 : Int32)), (.int p2), (.int (fr / (64 : Int32)))]))
        refine gs (fun t => XS.iushr X2.here hx rfl (hb hby at_89) rfl) ?_
        show Go p e below s QQ room_1.cells room_1.slots (T2.setTop (mkF m 90 #[.val (.int p0), .val (.int p1), .val (.int p2), .val (.int p3), .val (.int aa), .val (.int cc2), .val (.int fr), .val (.int to_), .val (.int (fr / (64 : Int32))), .val (.int ((to_ - (1 : Int32)) / (64 : Int32))), .val (.int (p2 &&& (3 : Int32))), .unset, .unset, .unset, .unset, .unset, .unset, .unset, .unset] [(.int ((p2.toUInt32 >>> ((2 : Int32) &&& 31).toUInt32).toInt32)), (.int (fr / (64 : Int32)))]))
        refine gs (fun t => XS.iload X2.here hx rfl (hb hby at_90) rfl) ?_
        show Go p e below s QQ room_1.cells room_1.slots (T2.setTop (mkF m 92 #[.val (.int p0), .val (.int p1), .val (.int p2), .val (.int p3), .val (.int aa), .val (.int cc2), .val (.int fr), .val (.int to_), .val (.int (fr / (64 : Int32))), .val (.int ((to_ - (1 : Int32)) / (64 : Int32))), .val (.int (p2 &&& (3 : Int32))), .unset, .unset, .unset, .unset, .unset, .unset, .unset, .unset] [(.int ((to_ - (1 : Int32)) / (64 : Int32))), (.int ((p2.toUInt32 >>> ((2 : Int32) &&& 31).toUInt32).toInt32)), (.int (fr / (64 : Int32)))]))
        refine gs (fun t => XS.iload X2.here hx rfl (hb hby at_92) rfl) ?_
        show Go p e below s QQ room_1.cells room_1.slots (T2.setTop (mkF m 94 #[.val (.int p0), .val (.int p1), .val (.int p2), .val (.int p3), .val (.int aa), .val (.int cc2), .val (.int fr), .val (.int to_), .val (.int (fr / (64 : Int32))), .val (.int ((to_ - (1 : Int32)) / (64 : Int32))), .val (.int (p2 &&& (3 : Int32))), .unset, .unset, .unset, .unset, .unset, .unset, .unset, .unset] [(.int (fr / (64 : Int32))), (.int ((to_ - (1 : Int32)) / (64 : Int32))), (.int ((p2.toUInt32 >>> ((2 : Int32) &&& 31).toUInt32).toInt32)), (.int (fr / (64 : Int32)))]))
        refine gs (fun t => XS.isub X2.here hx rfl (hb hby at_94) rfl) ?_
        show Go p e below s QQ room_1.cells room_1.slots (T2.setTop (mkF m 95 #[.val (.int p0), .val (.int p1), .val (.int p2), .val (.int p3), .val (.int aa), .val (.int cc2), .val (.int fr), .val (.int to_), .val (.int (fr / (64 : Int32))), .val (.int ((to_ - (1 : Int32)) / (64 : Int32))), .val (.int (p2 &&& (3 : Int32))), .unset, .unset, .unset, .unset, .unset, .unset, .unset, .unset] [(.int (((to_ - (1 : Int32)) / (64 : Int32)) - (fr / (64 : Int32)))), (.int ((p2.toUInt32 >>> ((2 : Int32) &&& 31).toUInt32).toInt32)), (.int (fr / (64 : Int32)))]))
        refine gs (fun t => XS.iconst X2.here hx rfl (hb hby at_95)) ?_
        show Go p e below s QQ room_1.cells room_1.slots (T2.setTop (mkF m 96 #[.val (.int p0), .val (.int p1), .val (.int p2), .val (.int p3), .val (.int aa), .val (.int cc2), .val (.int fr), .val (.int to_), .val (.int (fr / (64 : Int32))), .val (.int ((to_ - (1 : Int32)) / (64 : Int32))), .val (.int (p2 &&& (3 : Int32))), .unset, .unset, .unset, .unset, .unset, .unset, .unset, .unset] [(.int (1 : Int32)), (.int (((to_ - (1 : Int32)) / (64 : Int32)) - (fr / (64 : Int32)))), (.int ((p2.toUInt32 >>> ((2 : Int32) &&& 31).toUInt32).toInt32)), (.int (fr / (64 : Int32)))]))
        refine gs (fun t => XS.iadd X2.here hx rfl (hb hby at_96) rfl) ?_
        show Go p e below s QQ room_1.cells room_1.slots (T2.setTop (mkF m 97 #[.val (.int p0), .val (.int p1), .val (.int p2), .val (.int p3), .val (.int aa), .val (.int cc2), .val (.int fr), .val (.int to_), .val (.int (fr / (64 : Int32))), .val (.int ((to_ - (1 : Int32)) / (64 : Int32))), .val (.int (p2 &&& (3 : Int32))), .unset, .unset, .unset, .unset, .unset, .unset, .unset, .unset] [(.int ((((to_ - (1 : Int32)) / (64 : Int32)) - (fr / (64 : Int32))) + (1 : Int32))), (.int ((p2.toUInt32 >>> ((2 : Int32) &&& 31).toUInt32).toInt32)), (.int (fr / (64 : Int32)))]))
        obtain ⟨t1, t2, t3⟩ := own_third (f := fr / 64) (l := (to_ - 1) / 64) (x := ((p2.toUInt32 >>> ((2 : Int32) &&& 31).toUInt32).toInt32)) (by omega) (by omega) (by omega) (own_sel p2)
        refine gs (fun t => iremM X2 hx (g := (mkF m 97 #[.val (.int p0), .val (.int p1), .val (.int p2), .val (.int p3), .val (.int aa), .val (.int cc2), .val (.int fr), .val (.int to_), .val (.int (fr / (64 : Int32))), .val (.int ((to_ - (1 : Int32)) / (64 : Int32))), .val (.int (p2 &&& (3 : Int32))), .unset, .unset, .unset, .unset, .unset, .unset, .unset, .unset] [(.int ((((to_ - (1 : Int32)) / (64 : Int32)) - (fr / (64 : Int32))) + (1 : Int32))), (.int ((p2.toUInt32 >>> ((2 : Int32) &&& 31).toUInt32).toInt32)), (.int (fr / (64 : Int32)))])) rfl (hb hby at_97) rfl t1) ?_
        show Go p e below s QQ room_1.cells room_1.slots (T2.setTop (mkF m 98 #[.val (.int p0), .val (.int p1), .val (.int p2), .val (.int p3), .val (.int aa), .val (.int cc2), .val (.int fr), .val (.int to_), .val (.int (fr / (64 : Int32))), .val (.int ((to_ - (1 : Int32)) / (64 : Int32))), .val (.int (p2 &&& (3 : Int32))), .unset, .unset, .unset, .unset, .unset, .unset, .unset, .unset] [(.int (((p2.toUInt32 >>> ((2 : Int32) &&& 31).toUInt32).toInt32) % ((((to_ - (1 : Int32)) / (64 : Int32)) - (fr / (64 : Int32))) + (1 : Int32)))), (.int (fr / (64 : Int32)))]))
        refine gs (fun t => XS.iadd X2.here hx rfl (hb hby at_98) rfl) ?_
        show Go p e below s QQ room_1.cells room_1.slots (T2.setTop (mkF m 99 #[.val (.int p0), .val (.int p1), .val (.int p2), .val (.int p3), .val (.int aa), .val (.int cc2), .val (.int fr), .val (.int to_), .val (.int (fr / (64 : Int32))), .val (.int ((to_ - (1 : Int32)) / (64 : Int32))), .val (.int (p2 &&& (3 : Int32))), .unset, .unset, .unset, .unset, .unset, .unset, .unset, .unset] [(.int ((fr / (64 : Int32)) + (((p2.toUInt32 >>> ((2 : Int32) &&& 31).toUInt32).toInt32) % ((((to_ - (1 : Int32)) / (64 : Int32)) - (fr / (64 : Int32))) + (1 : Int32)))))]))
        refine gs (fun t => XS.istore X2.here hx rfl (hb hby at_99) rfl (l' := #[.val (.int p0), .val (.int p1), .val (.int p2), .val (.int p3), .val (.int aa), .val (.int cc2), .val (.int fr), .val (.int to_), .val (.int (fr / (64 : Int32))), .val (.int ((to_ - (1 : Int32)) / (64 : Int32))), .val (.int (p2 &&& (3 : Int32))), .val (.int ((fr / (64 : Int32)) + (((p2.toUInt32 >>> ((2 : Int32) &&& 31).toUInt32).toInt32) % ((((to_ - (1 : Int32)) / (64 : Int32)) - (fr / (64 : Int32))) + (1 : Int32))))), .unset, .unset, .unset, .unset, .unset, .unset, .unset]) rfl) ?_
        show Go p e below s QQ room_1.cells room_1.slots (T2.setTop (mkF m 101 #[.val (.int p0), .val (.int p1), .val (.int p2), .val (.int p3), .val (.int aa), .val (.int cc2), .val (.int fr), .val (.int to_), .val (.int (fr / (64 : Int32))), .val (.int ((to_ - (1 : Int32)) / (64 : Int32))), .val (.int (p2 &&& (3 : Int32))), .val (.int ((fr / (64 : Int32)) + (((p2.toUInt32 >>> ((2 : Int32) &&& 31).toUInt32).toInt32) % ((((to_ - (1 : Int32)) / (64 : Int32)) - (fr / (64 : Int32))) + (1 : Int32))))), .unset, .unset, .unset, .unset, .unset, .unset, .unset] []))
        exact key1 _ (by rw [← ef]; exact t2) (by rw [← et]; exact t3)
set_option maxRecDepth 65536 in
set_option maxHeartbeats 40000000 in
theorem comes_1 {Post : Tables → Env → Array Value → State → Outcome → State → Prop} (hpost : ∀ tb e args s v u, (limb_1_1.after args s (.returned v) u = true ∧ limb_1_2.after args s (.returned v) u = true ∧ True) → FrameEnd s (.returned v) u (Jvm.fieldLocs frame_1_writes args s ++ Jvm.arrayLocs frame_1_arrays args s ++ Jvm.staticLocs frame_1_statics s) 0 0 → Post tb e args s (.returned v) u) :
    ArmFor flags0 classFile x code maxLocals ret World_1 tables_1 room_1 Calls_1 rest_1 Pre_1 Post := by
  intro l hfl _ _ p e ha hc hk s m args below hf hA hF happ hP
  obtain ⟨hcalls, hrest, hpre⟩ := hP
  obtain ⟨-, -, -, hnamed, -, -, -, hat⟩ := (Spec.applies_iff hf).mp happ
  obtain ⟨hg, hn⟩ := and_e (Cond.before_iff.mp (show (Jvm.Cond.and given_1 narrow_1).before args s = true from hpre))
  obtain ⟨gc, hg0⟩ := and_e hg
  obtain ⟨w0, w1, w2, w3, rfl⟩ : ∃ w0 w1 w2 w3 : Value, args = #[w0, w1, w2, w3] := by
    have hs : args.size = 4 := by simpa [Cond.value, given_1] using gc
    obtain ⟨L⟩ := args
    match L, hs with
    | [w0, w1, w2, w3], _ => exact ⟨w0, w1, w2, w3, rfl⟩
  obtain ⟨ga0, hg1⟩ := and_e hg0
  obtain ⟨i0, ei0⟩ := is_v ga0
  obtain rfl : w0 = (.int i0) := Option.some.inj ei0
  obtain ⟨ga1, hg2⟩ := and_e hg1
  obtain ⟨i1, ei1⟩ := is_v ga1
  obtain rfl : w1 = (.int i1) := Option.some.inj ei1
  obtain ⟨ga2, hg3⟩ := and_e hg2
  obtain ⟨i2, ei2⟩ := is_v ga2
  obtain rfl : w2 = (.int i2) := Option.some.inj ei2
  obtain ⟨i3, ei3⟩ := is_v hg3
  obtain rfl : w3 = (.int i3) := Option.some.inj ei3
  have hw := fun d (hd : d ∈ tables_1) => atoms_spec (ws := Jvm.Cond.code x code maxLocals ret :: tables_1) hat d (List.mem_cons_of_mem _ hd)
  have hfit : Fit s := fun {y c} hc i hi => by
    obtain ⟨ha, rfl⟩ := Array.getElem?_eq_some_iff.mp hc
    have q := List.all_eq_true.mp ((Array.all_eq_true_iff_forall_mem.mp hF) _ (Array.getElem_mem ha)) i (List.mem_range.mpr hi)
    simpa [Array.getElem?_eq_getElem hi] using q
  obtain ⟨n, o, h1, h2, h3, _, L, rfl, ⟨rfl, N⟩, hq⟩ := rm0 l s _ hw tables_1 i0 i1 i2 i3 s.heap s.heap.size (Nat.le_refl _)  p e ha hc hk s m _ below hf ((Spec.applies_iff_loose hf).mp happ).1 ⟨rfl, State.Warmed39.refl s, rfl⟩ trivial
  refine ⟨n, _, h1, h2, h3, hpost _ _ _ _ _ _ ⟨Cond.after_iff.mpr rfl, Cond.after_iff.mpr (eq_i res_at (Term.int_eval (1)) rfl), trivial⟩ ⟨hq.1, hq.2.1, (hq.2.2.sift fun y hy => Or.inr (N y hy)).mono (by decide) (by decide)⟩⟩
theorem main_1_1 : Claimed_1_1 := comes_1 fun _ _ _ _ _ _ h hF => ⟨h.1, hF⟩
theorem main_1_2 : Claimed_1_2 := comes_1 fun _ _ _ _ _ _ h hF => ⟨h.2.1, hF⟩
end Jvm.Pilot.@@N@@
namespace Jvm.Pilot.@@N@@
open Jvm Jvm.ClassFile Sem Op Lib Jvm.Free Jvm.Stand Jvm.Pilot.@@N@@.Jvm.D
/-! MADE BY PROGRAM (witnessworld.py) out of the Statement's table words and the real class files: 10 classes; the members and pool entries that the words name. The judged class is class 1, her method 1. -/
namespace start1
open Jvm.ClassFile
def u (s : String) : CpInfo := .utf8 (stringToUtf16 s)
/-- a pool by its gaps: so many unusable entries, then the entry; so many at the end -/
def gap : Nat → List CpInfo → List CpInfo
  | 0, r => r
  | n + 1, r => .unusable :: gap n r
def poolList (es : List (Nat × CpInfo)) (last : Nat) : List CpInfo := es.foldr (fun e r => gap e.1 (e.2 :: r)) (gap last [])
def pool (es : List (Nat × CpInfo)) (last : Nat) : Array CpInfo := ⟨poolList es last⟩
def fileOf (pool : Array CpInfo) (this : Nat) (attrs : Array Attribute := #[]) (ms : Array MethodInfo := #[]) (fl : Nat := 33) (sup : Nat := 0) (ifs : Array Nat := #[]) (fds : Array FieldInfo := #[]) : ClassFile where
  minorVersion := 0
  majorVersion := 65
  constantPool := pool
  accessFlags := fl
  thisClass := this
  superClass := sup
  interfaces := ifs
  fields := fds
  methods := ms
  attributes := attrs
def plain (name : String) (sup : Option ClassId) : Class where
  name := name
  kind := .ordinary
  loader := none
  accessFlags := 33
  super := sup
  interfaces := #[]
  cf := none
  fields := #[]
  methods := #[]
  instanceTypes := #[]
  staticTypes := #[]
  resolved := #[]
  callSites := []
  init := .initialized
  statics := none
  mirror := none

def pool0 : Array CpInfo := pool [(5, u "<init>"), (0, u "()V"), (1, .class_ 10), (1, u "java/lang/Object")] 113

def k0m0 : Method := { name := "<init>", desc := "()V", sig := { parameters := [], returnType := none }, accessFlags := 1, code := none }
/-- java/lang/Object -/
def k0 : Class := { plain "java/lang/Object" none with
  accessFlags := 33
  interfaces := #[]
  cf := some (fileOf pool0 8 #[] #[{ accessFlags := 1, nameIndex := 5, descriptorIndex := 6, attributes := #[] }] 33 0 #[] #[])
  fields := #[]
  methods := #[k0m0]
  instanceTypes := #[]
  staticTypes := #[]
  resolved := Array.replicate 124 none
  statics := none }

def pool1 : Array CpInfo := pool [(2, .class_ 4), (1, u "java/lang/Object"), (0, u "<init>"), (0, u "()V"), (0, .integer 2147483647), (0, .methodref 9 10), (0, .class_ 11), (0, .nameAndType 12 13), (0, u "java/lang/Math"), (0, u "min"), (0, u "(II)I"), (0, .methodref 9 15), (0, .nameAndType 16 13), (0, u "max"), (0, .methodref 18 19), (0, .class_ 20), (0, .nameAndType 21 22), (0, u "com/example/tuplewise/tuplewise/SparseBitSet"), (0, u "rangeWord"), (0, u "(III)J"), (0, .long 64), (1, .class_ 26), (0, u "com/example/tuplewise/tuplewise/SparseBitSetRangeWordPinLaw"), (2, u "law"), (0, u "(IIII)Z")] 3

def k1m0 : Method := { name := "<init>", desc := "()V", sig := { parameters := [], returnType := none }, accessFlags := 1, code := none }
def k1c1 : Code := { maxStack := 4, maxLocals := 19, code := code, exceptionTable := #[], attributes := #[] }
def k1m1 : Method := { name := "law", desc := "(IIII)Z", sig := { parameters := [.int, .int, .int, .int], returnType := some .boolean }, accessFlags := 9, code := some k1c1 }
/-- com/example/tuplewise/tuplewise/SparseBitSetRangeWordPinLaw -/
def k1 : Class := { plain "com/example/tuplewise/tuplewise/SparseBitSetRangeWordPinLaw" (some 0) with
  accessFlags := 49
  interfaces := #[]
  cf := some (fileOf pool1 25 #[] #[{ accessFlags := 1, nameIndex := 5, descriptorIndex := 6, attributes := #[] }, { accessFlags := 9, nameIndex := 29, descriptorIndex := 30, attributes := #[] }] 49 2 #[] #[])
  fields := #[]
  methods := #[k1m0, k1m1]
  instanceTypes := #[]
  staticTypes := #[]
  resolved := Array.replicate 34 none
  statics := none }

def pool2 : Array CpInfo := pool [(1, .class_ 2), (0, u "java/lang/Math"), (1, .class_ 6), (1, u "java/lang/Object"), (0, u "<init>"), (0, u "()V"), (89, .class_ 100), (1, u "java/lang/Math$RandomNumberGeneratorHolder"), (71, u "negativeZeroFloatBits"), (0, u "J"), (2, u "negativeZeroDoubleBits"), (21, u "max"), (2, u "min"), (43, u "$assertionsDisabled"), (0, u "Z"), (88, u "(II)I"), (2, u "twoToTheDoubleScaleDown"), (0, u "D"), (4, u "twoToTheDoubleScaleUp"), (9, u "E"), (3, u "PI"), (2, u "TAU"), (2, u "DEGREES_TO_RADIANS"), (0, u "RADIANS_TO_DEGREES")] 94

def k2m0 : Method := { name := "<init>", desc := "()V", sig := { parameters := [], returnType := none }, accessFlags := 2, code := none }
def k2c1 : Code := { maxStack := 2, maxLocals := 2, code := jdk_29_method_65_code, exceptionTable := #[], attributes := #[] }
def k2m1 : Method := { name := "max", desc := "(II)I", sig := { parameters := [.int, .int], returnType := some .int }, accessFlags := 9, code := some k2c1 }
def k2c2 : Code := { maxStack := 2, maxLocals := 2, code := jdk_29_method_69_code, exceptionTable := #[], attributes := #[] }
def k2m2 : Method := { name := "min", desc := "(II)I", sig := { parameters := [.int, .int], returnType := some .int }, accessFlags := 9, code := some k2c2 }
/-- java/lang/Math -/
def k2 : Class := { plain "java/lang/Math" (some 0) with
  accessFlags := 49
  interfaces := #[]
  cf := some (fileOf pool2 1 #[.nestMembers #[98]] #[{ accessFlags := 2, nameIndex := 7, descriptorIndex := 8, attributes := #[] }, { accessFlags := 9, nameIndex := 198, descriptorIndex := 335, attributes := #[] }, { accessFlags := 9, nameIndex := 201, descriptorIndex := 335, attributes := #[] }] 49 4 #[] #[{ accessFlags := 25, nameIndex := 354, descriptorIndex := 339, attributes := #[] }, { accessFlags := 25, nameIndex := 358, descriptorIndex := 339, attributes := #[] }, { accessFlags := 25, nameIndex := 361, descriptorIndex := 339, attributes := #[] }, { accessFlags := 26, nameIndex := 364, descriptorIndex := 339, attributes := #[] }, { accessFlags := 26, nameIndex := 365, descriptorIndex := 339, attributes := #[] }, { accessFlags := 26, nameIndex := 172, descriptorIndex := 173, attributes := #[] }, { accessFlags := 26, nameIndex := 176, descriptorIndex := 173, attributes := #[] }, { accessFlags := 8, nameIndex := 344, descriptorIndex := 339, attributes := #[] }, { accessFlags := 8, nameIndex := 338, descriptorIndex := 339, attributes := #[] }, { accessFlags := 4120, nameIndex := 245, descriptorIndex := 246, attributes := #[] }])
  fields := #[{ name := "E", type := .double, accessFlags := 25, slot := 0, constantValue := 0 }, { name := "PI", type := .double, accessFlags := 25, slot := 1, constantValue := 0 }, { name := "TAU", type := .double, accessFlags := 25, slot := 2, constantValue := 0 }, { name := "DEGREES_TO_RADIANS", type := .double, accessFlags := 26, slot := 3, constantValue := 0 }, { name := "RADIANS_TO_DEGREES", type := .double, accessFlags := 26, slot := 4, constantValue := 0 }, { name := "negativeZeroFloatBits", type := .long, accessFlags := 26, slot := 5, constantValue := 0 }, { name := "negativeZeroDoubleBits", type := .long, accessFlags := 26, slot := 6, constantValue := 0 }, { name := "twoToTheDoubleScaleUp", type := .double, accessFlags := 8, slot := 7, constantValue := 0 }, { name := "twoToTheDoubleScaleDown", type := .double, accessFlags := 8, slot := 8, constantValue := 0 }, { name := "$assertionsDisabled", type := .boolean, accessFlags := 4120, slot := 9, constantValue := 0 }]
  methods := #[k2m0, k2m1, k2m2]
  instanceTypes := #[]
  staticTypes := #[.double, .double, .double, .double, .double, .long, .long, .double, .double, .boolean]
  resolved := Array.replicate 460 none
  statics := none }

def pool3 : Array CpInfo := pool [(2, .class_ 4), (1, u "com/example/tuplewise/tuplewise/SparseBitSet"), (7, .class_ 14), (1, u "java/lang/Object"), (1, .long 18446744073709551615), (3, u "savedIn"), (0, u "J"), (2, u "words"), (0, u "[J"), (2, u "live"), (0, u "[I"), (2, u "trail"), (0, u "Lcom/example/tuplewise/tuplewise/Trail;"), (8, u "wordsKept"), (0, u "I"), (6, u "liveSlot"), (5, u "walked"), (18, u "rangeWord"), (0, u "(III)J")] 46

def k3c0 : Code := { maxStack := 5, maxLocals := 5, code := prog_17_method_15_code, exceptionTable := #[], attributes := #[] }
def k3m0 : Method := { name := "rangeWord", desc := "(III)J", sig := { parameters := [.int, .int, .int], returnType := some .long }, accessFlags := 8, code := some k3c0 }
/-- com/example/tuplewise/tuplewise/SparseBitSet -/
def k3 : Class := { plain "com/example/tuplewise/tuplewise/SparseBitSet" (some 0) with
  accessFlags := 32
  interfaces := #[]
  cf := some (fileOf pool3 2 #[] #[{ accessFlags := 8, nameIndex := 75, descriptorIndex := 76, attributes := #[] }] 32 12 #[] #[{ accessFlags := 18, nameIndex := 32, descriptorIndex := 33, attributes := #[] }, { accessFlags := 18, nameIndex := 24, descriptorIndex := 25, attributes := #[] }, { accessFlags := 18, nameIndex := 42, descriptorIndex := 43, attributes := #[] }, { accessFlags := 18, nameIndex := 28, descriptorIndex := 29, attributes := #[] }, { accessFlags := 18, nameIndex := 50, descriptorIndex := 43, attributes := #[] }, { accessFlags := 2, nameIndex := 20, descriptorIndex := 21, attributes := #[] }, { accessFlags := 2, nameIndex := 56, descriptorIndex := 21, attributes := #[] }])
  fields := #[{ name := "trail", type := (.object "com/example/tuplewise/tuplewise/Trail"), accessFlags := 18, slot := 0, constantValue := 0 }, { name := "words", type := (.array .long), accessFlags := 18, slot := 1, constantValue := 0 }, { name := "wordsKept", type := .int, accessFlags := 18, slot := 2, constantValue := 0 }, { name := "live", type := (.array .int), accessFlags := 18, slot := 3, constantValue := 0 }, { name := "liveSlot", type := .int, accessFlags := 18, slot := 4, constantValue := 0 }, { name := "savedIn", type := .long, accessFlags := 2, slot := 5, constantValue := 0 }, { name := "walked", type := .long, accessFlags := 2, slot := 6, constantValue := 0 }]
  methods := #[k3m0]
  instanceTypes := #[(.object "com/example/tuplewise/tuplewise/Trail"), (.array .long), .int, (.array .int), .int, .long, .long]
  staticTypes := #[]
  resolved := Array.replicate 123 none
  statics := none }

def pool4 : Array CpInfo := pool [(1, u "java/lang/Cloneable"), (0, .class_ 1), (0, u "java/lang/Object"), (0, .class_ 3)] 3

/-- java/lang/Cloneable -/
def k4 : Class := { plain "java/lang/Cloneable" (some 0) with
  accessFlags := 1537
  interfaces := #[]
  cf := some (fileOf pool4 2 #[] #[] 1537 4 #[] #[])
  fields := #[]
  methods := #[]
  instanceTypes := #[]
  staticTypes := #[]
  resolved := Array.replicate 8 none
  statics := none }

def pool5 : Array CpInfo := pool [(1, u "java/io/Serializable"), (0, .class_ 1), (0, u "java/lang/Object"), (0, .class_ 3)] 3

/-- java/io/Serializable -/
def k5 : Class := { plain "java/io/Serializable" (some 0) with
  accessFlags := 1537
  interfaces := #[]
  cf := some (fileOf pool5 2 #[] #[] 1537 4 #[] #[])
  fields := #[]
  methods := #[]
  instanceTypes := #[]
  staticTypes := #[]
  resolved := Array.replicate 8 none
  statics := none }

/-- the primitive byte -/
def k6 : Class := { plain "byte" none with kind := .primitive 'B', accessFlags := 0x411 }
/-- [B -/
def k7 : Class := { plain "[B" (some 0) with kind := .array 6 .byte, interfaces := #[4, 5], accessFlags := 1041 }

/-- the primitive int -/
def k8 : Class := { plain "int" none with kind := .primitive 'I', accessFlags := 0x411 }
/-- [I -/
def k9 : Class := { plain "[I" (some 0) with kind := .array 8 .int, interfaces := #[4, 5], accessFlags := 1041 }

def heap : Heap := #[]
def classes : Array Class := #[k0, k1, k2, k3, k4, k5, k6, k7, k8, k9]
def interned : List (Array UInt16 × Addr) := []
def slotsUsed : Nat := 0
def theMethod : MethodId := ⟨1, 1⟩
def args0 : Array Value := #[.int 1, .int 100, .int 3, .int 4]
def aboutOver (below : List Frame) : State where
  vm := { classes := classes, interned := interned.toArray }
  heap := heap
  slotsUsed := slotsUsed
  threads := #[{ frames := .invoking theMethod args0 :: below }]
def below0 : List Frame := [.native { method := ⟨0, 0⟩, args := #[] }]
def about1 : State := aboutOver below0
def p0 : Program := .bare "" "" ""
def e0 : Env := launch0.env 0 0 0
theorem w_frames : about1.frames = Frame.invoking theMethod args0 :: below0 := rfl
set_option maxRecDepth 65536 in
theorem w_args : argsFit about1.vm theMethod args0 = true := by decide +kernel
set_option maxRecDepth 65536 in
theorem w_heap : heapFits about1 = true := by decide +kernel
set_option maxRecDepth 65536 in
theorem w_runnable : about1.curStatus? = some .runnable := by decide +kernel
set_option maxRecDepth 65536 in
theorem w_alone : about1.alone = true := by decide +kernel
set_option maxRecDepth 65536 in
theorem w_named : about1.methodNamed? x = some theMethod := by decide +kernel
set_option maxRecDepth 65536 in
theorem w_hears : about1.hears theMethod below0 = true := by decide +kernel
set_option maxRecDepth 65536 in
theorem w_ripe : about1.ripe theMethod args0 below0 = true := by decide +kernel
theorem w_running : about1.status = .running := rfl
set_option maxRecDepth 65536 in
theorem w_room : about1.hasRoom e0.platform room_1 = true :=
  launch0.hasRoom_least _ room_1 (by decide +kernel) (by decide +kernel) (by decide +kernel) (by decide +kernel) (by decide +kernel) (by decide +kernel)
theorem allAtoms_all (ts : List Jvm.Cond) (a : Array Jvm.Value) (st : Jvm.State) : (allAtoms ts).before a st = ts.all (fun c => c.before a st) := by
  induction ts with
  | nil => rfl
  | cons c t ih =>
    show (Jvm.Cond.and c (allAtoms t)).before a st = _
    rw [Jvm.Cond.before_and, ih, List.all_cons]
def words1 : List Jvm.Cond := Jvm.Cond.code x code maxLocals ret :: tables_1
/-- a 'code' word, met by the world's own term for the bytes: nothing is compared byte by byte -/
theorem code_word {y : MethodName} {bytes : ByteArray} {mx : Nat} {rt : Option FieldType} {a : Array Value} {s : State} {m : MethodId} {meth : Method} {c : Code} (h1 : s.methodNamed? y = some m) (h2 : s.vm.method? m = some meth) (h3 : meth.code = some c) (h4 : c.code = bytes)
    (h5 : (c.maxLocals == mx && c.exceptionTable.isEmpty && decide (c.maxStack ≤ mostOperands) && decide (meth.sig.returnType = rt) && !meth.locks && decide (parseMethodDescriptor y.desc = some meth.sig)) = true) : (Jvm.Cond.code y bytes mx rt).before a s = true := by
  simp only [Bool.and_eq_true, beq_iff_eq, Bool.not_eq_true', decide_eq_true_eq] at h5
  obtain ⟨⟨⟨⟨⟨g1, g2⟩, g3⟩, g4⟩, g5⟩, g6⟩ := h5
  simp [Cond.before, Cond.holds, Cond.value, h1, h2, h3, h4, g1, g2, g3, g4, g5, g6]
def isCode : Jvm.Cond → Bool
  | .code _ _ _ _ => true
  | _ => false
theorem all_split {L : List Jvm.Cond} {P : Jvm.Cond → Bool} (h1 : L.all (fun c => isCode c || P c) = true) (h2 : ∀ c ∈ L.filter isCode, P c = true) : L.all P = true := by
  refine List.all_eq_true.mpr fun c hc => ?_
  have h := List.all_eq_true.mp h1 c hc
  rcases Bool.eq_false_or_eq_true (isCode c) with hi | hi
  · exact h2 c (List.mem_filter.mpr ⟨hc, hi⟩)
  · simpa [hi] using h
set_option maxRecDepth 65536 in
theorem w_c0 : (Jvm.Cond.code x code maxLocals ret).before args0 about1 = true := code_word (m := ⟨1, 1⟩) (meth := k1m1) (c := k1c1) (by decide +kernel) rfl rfl rfl (by decide +kernel)
set_option maxRecDepth 65536 in
theorem w_c1 : (Jvm.Cond.code ({ cls := "java/lang/Math", name := "min", desc := "(II)I" } : Jvm.MethodName) jdk_29_method_69_code (2 : Nat) (Option.some Jvm.ClassFile.FieldType.int)).before args0 about1 = true := code_word (m := ⟨2, 2⟩) (meth := k2m2) (c := k2c2) (by decide +kernel) rfl rfl rfl (by decide +kernel)
set_option maxRecDepth 65536 in
theorem w_c2 : (Jvm.Cond.code ({ cls := "java/lang/Math", name := "max", desc := "(II)I" } : Jvm.MethodName) jdk_29_method_65_code (2 : Nat) (Option.some Jvm.ClassFile.FieldType.int)).before args0 about1 = true := code_word (m := ⟨2, 1⟩) (meth := k2m1) (c := k2c1) (by decide +kernel) rfl rfl rfl (by decide +kernel)
set_option maxRecDepth 65536 in
theorem w_c3 : (Jvm.Cond.code ({ cls := "com/example/tuplewise/tuplewise/SparseBitSet", name := "rangeWord", desc := "(III)J" } : Jvm.MethodName) prog_17_method_15_code (5 : Nat) (Option.some Jvm.ClassFile.FieldType.long)).before args0 about1 = true := code_word (m := ⟨3, 0⟩) (meth := k3m0) (c := k3c0) (by decide +kernel) rfl rfl rfl (by decide +kernel)
def codes1 : List Jvm.Cond := [Jvm.Cond.code x code maxLocals ret, Jvm.Cond.code ({ cls := "java/lang/Math", name := "min", desc := "(II)I" } : Jvm.MethodName) jdk_29_method_69_code (2 : Nat) (Option.some Jvm.ClassFile.FieldType.int), Jvm.Cond.code ({ cls := "java/lang/Math", name := "max", desc := "(II)I" } : Jvm.MethodName) jdk_29_method_65_code (2 : Nat) (Option.some Jvm.ClassFile.FieldType.int), Jvm.Cond.code ({ cls := "com/example/tuplewise/tuplewise/SparseBitSet", name := "rangeWord", desc := "(III)J" } : Jvm.MethodName) prog_17_method_15_code (5 : Nat) (Option.some Jvm.ClassFile.FieldType.long)]
set_option maxRecDepth 65536 in
theorem codes_eq : words1.filter isCode = codes1 := rfl
theorem w_codes : ∀ c ∈ words1.filter isCode, c.before args0 about1 = true := by
  rw [codes_eq]
  intro c hc
  simp only [codes1, List.mem_cons, List.not_mem_nil, or_false] at hc
  rcases hc with rfl | rfl | rfl | rfl
  · exact w_c0
  · exact w_c1
  · exact w_c2
  · exact w_c3
set_option maxRecDepth 65536 in
theorem w_t1 : words1.all (fun c => isCode c || c.before args0 about1) = true := by decide +kernel
theorem w_tables : (allAtoms (Jvm.Cond.code x code maxLocals ret :: tables_1)).before args0 about1 = true := by
  rw [allAtoms_all]
  show words1.all (fun c => c.before args0 about1) = true
  refine all_split ?_ w_codes
  rw [w_t1]
set_option maxRecDepth 65536 in
theorem w_case : (Jvm.Cond.and given_1 narrow_1).before args0 about1 = true := by decide +kernel
theorem w_applies : (headSpec (Jvm.Cond.code x code maxLocals ret :: tables_1) room_1).applies x e0.platform about1 = true :=
  (Spec.applies_iff w_frames).mpr ⟨w_running, w_runnable, w_alone, w_named, w_hears, w_ripe, w_room, w_tables⟩
theorem atStart : AtStart classFile x code maxLocals ret World_1 tables_1 room_1 Calls_1 rest_1 Pre_1 launch0 p0 e0 about1 theMethod args0 below0 :=
  ⟨lists_1, trivial, launch0.admits_env _ _ _, launch0.least_env, fairChoices_fair.cas, fairChoices_fair.clock, w_frames, w_args, w_heap, w_applies, trivial, trivial, w_case⟩
end start1
theorem witness_1 : WitnessClaimed_1 := ⟨start1.p0, start1.e0, start1.about1, start1.theMethod, start1.args0, start1.below0, start1.atStart⟩
end Jvm.Pilot.@@N@@
