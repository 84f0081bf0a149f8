import JvmDerived
import JvmDerived.Pilot.@@N@@Statement
import JvmDerived.Pilot.@@N@@Code
set_option linter.unusedVariables false
set_option linter.unusedSimpArgs false
namespace Jvm.RoadKit
open Sem ClassFile Op Lib Jvm.Stand Jvm.Free Jvm.LawKit
section Own
variable {p : Program} {l : Launch} {e : Env} {R : Room} {s : State} {m : MethodId} {args : Array Value} {below : List Frame} {meth : Method} {c : Code} {T : State} {locs : List Loc} {cells slots : Nat} {Z : State} {h h' : Heap} {a b : Addr} {ty : FieldType} {ws : List Addr}
/-- from the state S the run comes to an end that Q allows -/
def Go (p : Program) (e : Env) (below : List Frame) (s : State) (Q : Option Value → Heap → List Loc → Prop) (K N : Nat) (S : State) : Prop :=
  ∃ (t : State) (o : Outcome), Steps p.tables e below S t ∧ t.status = .running ∧ Ended t below o ∧ ∃ v L, o = .returned v ∧ Q v t.heap L ∧ FrameEnd s o t L K N
variable {Q : Option Value → Heap → List Loc → Prop} {K N : Nat} {S S' : State}
theorem gs (h : ∀ t, Steps p.tables e below S' t → Steps p.tables e below S t) (k : Go p e below s Q K N S') : Go p e below s Q K N S := by
  obtain ⟨t, o, a, b⟩ := k
  exact ⟨t, o, h t a, b⟩
theorem gt (h : Steps p.tables e below S S') (k : Go p e below s Q K N S') : Go p e below s Q K N S := gs (fun _ => h.trans) k
theorem goEnd (X : Stand p l e R s m args below meth c T locs cells slots) {v : Option Value} (hlocks : meth.locks = false) (hv : meth.sig.returnType = none → v = none)
    (hs : ∀ fs, (∀ (f : JFrame) (acts : List Action), f.method = m → f.locked = none → f.entered = [] → (doReturn e (T.setTop f) acts v).1 = T.setFrames fs) → Steps p.tables e below S (T.setFrames fs))
    (hQ : Q v T.heap locs) (hk : cells ≤ K) (hn : slots ≤ N) : Go p e below s Q K N S := by
  obtain ⟨fs, hr, hrun, hended, hW, hsame⟩ := X.leave (v := v) hv hlocks
  exact ⟨_, _, hs fs hr, hrun, hended, v, locs, rfl, hQ, ⟨_, rfl⟩, hW, hsame.mono hk hn⟩
theorem goV (X : Stand p l e R s m args below meth c T locs cells slots) (hx : p.tables.exec = Jvm.exec) (hlocks : meth.locks = false) (hret : meth.sig.returnType = none) {pc : Nat} {Ls : Array Slot} (hd : decode c.code pc = .ok (.return_, 1)) (hQ : Q none T.heap locs) (hk : cells ≤ K) (hn : slots ≤ N) :
    Go p e below s Q K N (T.setTop (mkF m pc Ls [])) := goEnd X hlocks (fun _ => rfl) (fun _ hr => X.returnOut hx hret hd hr) hQ hk hn
theorem goW (X : Stand p l e R s m args below meth c T locs cells slots) (hx : p.tables.exec = Jvm.exec) (hlocks : meth.locks = false) {t : FieldType} (hret : meth.sig.returnType = some t) {pc : Nat} {Ls : Array Slot} {w : Value} {i : Instr} {rest : List Value} (hn0 : narrow t w = w)
    (hi : (i = .ireturn ∧ (t = .int ∨ t = .boolean ∨ t = .byte ∨ t = .char ∨ t = .short) ∧ ∃ z, w = .int z) ∨ (i = .lreturn ∧ t = .long ∧ ∃ z, w = .long z) ∨ (i = .dreturn ∧ t = .double ∧ ∃ z, w = .double z) ∨ (i = .freturn ∧ t = .float ∧ ∃ z, w = .float z) ∨ (i = .areturn ∧ t.isReference = true ∧ w.isRef = true))
    (hd : decode c.code pc = .ok (i, 1)) (hQ : Q (some w) T.heap locs) (hk : cells ≤ K) (hn : slots ≤ N) : Go p e below s Q K N (T.setTop (mkF m pc Ls (w :: rest))) :=
  goEnd X hlocks (fun q => by rw [hret] at q; cases q) (fun _ hr => retOut X hx hret hn0 hi hd hr) hQ hk hn
theorem goI (X : Stand p l e R s m args below meth c T locs cells slots) (hx : p.tables.exec = Jvm.exec) (hlocks : meth.locks = false) (hret : meth.sig.returnType = some .int) {pc : Nat} {Ls : Array Slot} {w : Int32} {rest : List Value} (hd : decode c.code pc = .ok (.ireturn, 1)) (hQ : Q (some (.int w)) T.heap locs) (hk : cells ≤ K) (hn : slots ≤ N) :
    Go p e below s Q K N (T.setTop (mkF m pc Ls (.int w :: rest))) := goW X hx hlocks hret rfl (Or.inl ⟨rfl, Or.inl rfl, w, rfl⟩) hd hQ hk hn
theorem goJ (X : Stand p l e R s m args below meth c T locs cells slots) (hx : p.tables.exec = Jvm.exec) (hlocks : meth.locks = false) (hret : meth.sig.returnType = some .long) {pc : Nat} {Ls : Array Slot} {w : Int64} {rest : List Value} (hd : decode c.code pc = .ok (.lreturn, 1)) (hQ : Q (some (.long w)) T.heap locs) (hk : cells ≤ K) (hn : slots ≤ N) :
    Go p e below s Q K N (T.setTop (mkF m pc Ls (.long w :: rest))) := goW X hx hlocks hret rfl (Or.inr (Or.inl ⟨rfl, rfl, w, rfl⟩)) hd hQ hk hn
theorem goR (X : Stand p l e R s m args below meth c T locs cells slots) (hx : p.tables.exec = Jvm.exec) (hlocks : meth.locks = false) {t : FieldType} (hret : meth.sig.returnType = some t) (ht : t.isReference = true) {pc : Nat} {Ls : Array Slot} {w : Value} (hw : w.isRef = true) {rest : List Value} (hd : decode c.code pc = .ok (.areturn, 1)) (hQ : Q (some w) T.heap locs) (hk : cells ≤ K) (hn : slots ≤ N) :
    Go p e below s Q K N (T.setTop (mkF m pc Ls (w :: rest))) :=
  goW X hx hlocks hret (by cases t <;> simp [FieldType.isReference] at ht <;> rfl) (Or.inr (Or.inr (Or.inr (Or.inr ⟨rfl, ht, hw⟩)))) hd hQ hk hn
theorem goB (X : Stand p l e R s m args below meth c T locs cells slots) (hx : p.tables.exec = Jvm.exec) (hlocks : meth.locks = false) {t : FieldType} (hret : meth.sig.returnType = some t) (ht : t = .boolean ∨ t = .byte ∨ t = .char ∨ t = .short) {pc : Nat} {Ls : Array Slot} {z w : Int32} {rest : List Value} (hz : nar t z = w) (hd : decode c.code pc = .ok (.ireturn, 1)) (hQ : Q (some (.int w)) T.heap locs) (hk : cells ≤ K) (hn : slots ≤ N) :
    Go p e below s Q K N (T.setTop (mkF m pc Ls (.int z :: rest))) := by
  subst hz
  exact goEnd X hlocks (fun q => by rw [hret] at q; cases q) (fun _ hr => retN X hx hret ht hd hr) hQ hk hn
/-- an array of n places; the place i holds f i -/
def Arf (Z : State) (h : Heap) (a : Addr) (ty : FieldType) (n : Nat) (f : Nat → Value) : Prop := ∃ c : Cell, Arr Z h a c ty ∧ c.slots.size = n ∧ n < 2 ^ 31 ∧ ∀ i, i < n → c.slots[i]? = some (f i)
def updv (f : Nat → Value) (j : Nat) (v : Value) : Nat → Value := fun i => if i = j then v else f i
variable {n : Nat} {f g : Nat → Value} {sl : Nat} {v : Value}
theorem Arf.lt (F : Arf Z h a ty n f) : a < h.size := by obtain ⟨c, A, -⟩ := F; exact A.lt
theorem Arf.ext (F : Arf Z h a ty n f) (E : Ext h h') : Arf Z h' a ty n f := by obtain ⟨c, A, r⟩ := F; exact ⟨c, A.ext E, r⟩
theorem Arf.other (F : Arf Z h b ty n f) (W : Wr h h' a sl v) (q : b ≠ a) : Arf Z h' b ty n f := by obtain ⟨c, A, r⟩ := F; exact ⟨c, A.other W q, r⟩
theorem Arf.keep (F : Arf Z h a ty n f) (K : Keep h h' ws) (q : a ∉ ws) : Arf Z h' a ty n f := by obtain ⟨c, A, r⟩ := F; exact ⟨c, ⟨K.2.1 a c A.1 q, A.2⟩, r⟩
theorem Arf.congr (F : Arf Z h a ty n f) (q : ∀ i, i < n → f i = g i) : Arf Z h a ty n g := by
  obtain ⟨c, A, r1, r2, r3⟩ := F
  exact ⟨c, A, r1, r2, fun i hi => by rw [← q i hi]; exact r3 i hi⟩
theorem clampLt (z : Int32) : z.toNatClampNeg < 2 ^ 31 := by
  have h1 := z.toInt_lt
  have h2 : z.toNatClampNeg = z.toInt.toNat := rfl
  omega
theorem clampOf {j : Int32} (h0 : 0 ≤ j.toInt) : (j.toNatClampNeg : Int) = j.toInt := by
  have h2 : j.toNatClampNeg = j.toInt.toNat := rfl
  omega
theorem Arf.new {k : ClassId} {z : Int32} (A : Arr Z h a (newA k ty z) ty) : Arf Z h a ty z.toNatClampNeg (fun _ => defaultValue ty) := by
  refine ⟨_, A, sz_new _ _ _, clampLt z, fun i hi => ?_⟩
  simp [newA, hi]
theorem Arf.set (F : Arf Z h a ty n f) {j : Nat} (W : Wr h h' a j v) (hj : j < n) : Arf Z h' a ty n (updv f j v) := by
  obtain ⟨c, A, r1, r2, r3⟩ := F
  refine ⟨_, A.same W, by rw [sz_set]; exact r1, r2, fun i hi => ?_⟩
  by_cases q : i = j
  · subst q
    simp [Cell.setSlot, updv, r1, hi]
  · have q' : ¬ j = i := fun x => q x.symm
    simp [Cell.setSlot, updv, q, Array.getElem?_setIfInBounds_ne q', r3 i hi]
theorem inI {cl : Cell} (S : cl.slots.size = n) {j : Int32} (hj : 0 ≤ j.toInt ∧ j.toInt < n) : ¬ (j < 0 ∨ cl.slots.size ≤ j.toNatClampNeg) := by
  have q := clampOf hj.1
  rintro (h1 | h1)
  · rw [Int32.lt_iff_toInt_lt] at h1
    have : (0 : Int32).toInt = 0 := rfl
    omega
  · omega
theorem stIf (X : Stand p l e R s m args below meth c T locs cells slots) (hx : p.tables.exec = Jvm.exec) (hZ : Z.Warmed39 s.vm) (eT : T.heap = h) (F : Arf Z h a .int n f) {j x : Int32} (hj : 0 ≤ j.toInt ∧ j.toInt < n) {g : JFrame} (hg : g.method = m) {rest : List Value} (hs : g.stack = .int x :: .int j :: .ref a :: rest) (hd : decode c.code g.pc = .ok (.iastore, 1)) :
    ∃ T' h', Stand p l e R s m args below meth c T' (locs ++ [⟨a, j.toNatClampNeg⟩]) cells slots ∧ T'.heap = h' ∧ Wr h h' a j.toNatClampNeg (.int x) ∧ Arf Z h' a .int n (updv f j.toNatClampNeg (.int x)) ∧ ∀ target, Steps p.tables e below (T'.setTop { g with pc := g.pc + 1, stack := rest }) target → Steps p.tables e below (T.setTop g) target := by
  obtain ⟨cl, A, r1, r2, r3⟩ := id F
  obtain ⟨T', h', X', e', W, st⟩ := stI X hx hZ eT A (j := j) (x := x) (inI r1 hj) hg hs hd
  have q := clampOf hj.1
  exact ⟨T', h', X', e', W, F.set W (by omega), st⟩
theorem stJf (X : Stand p l e R s m args below meth c T locs cells slots) (hx : p.tables.exec = Jvm.exec) (hZ : Z.Warmed39 s.vm) (eT : T.heap = h) (F : Arf Z h a .long n f) {j : Int32} {x : Int64} (hj : 0 ≤ j.toInt ∧ j.toInt < n) {g : JFrame} (hg : g.method = m) {rest : List Value} (hs : g.stack = .long x :: .int j :: .ref a :: rest) (hd : decode c.code g.pc = .ok (.lastore, 1)) :
    ∃ T' h', Stand p l e R s m args below meth c T' (locs ++ [⟨a, j.toNatClampNeg⟩]) cells slots ∧ T'.heap = h' ∧ Wr h h' a j.toNatClampNeg (.long x) ∧ Arf Z h' a .long n (updv f j.toNatClampNeg (.long x)) ∧ ∀ target, Steps p.tables e below (T'.setTop { g with pc := g.pc + 1, stack := rest }) target → Steps p.tables e below (T.setTop g) target := by
  obtain ⟨cl, A, r1, r2, r3⟩ := id F
  obtain ⟨T', h', X', e', W, st⟩ := stJ X hx hZ eT A (j := j) (x := x) (inI r1 hj) hg hs hd
  have q := clampOf hj.1
  exact ⟨T', h', X', e', W, F.set W (by omega), st⟩
theorem stBf (X : Stand p l e R s m args below meth c T locs cells slots) (hx : p.tables.exec = Jvm.exec) (hZ : Z.Warmed39 s.vm) (eT : T.heap = h) (F : Arf Z h a .byte n f) {j x : Int32} (hj : 0 ≤ j.toInt ∧ j.toInt < n) {g : JFrame} (hg : g.method = m) {rest : List Value} (hs : g.stack = .int x :: .int j :: .ref a :: rest) (hd : decode c.code g.pc = .ok (.bastore, 1)) :
    ∃ T' h', Stand p l e R s m args below meth c T' (locs ++ [⟨a, j.toNatClampNeg⟩]) cells slots ∧ T'.heap = h' ∧ Wr h h' a j.toNatClampNeg (.int (nar .byte x)) ∧ Arf Z h' a .byte n (updv f j.toNatClampNeg (.int (nar .byte x))) ∧ ∀ target, Steps p.tables e below (T'.setTop { g with pc := g.pc + 1, stack := rest }) target → Steps p.tables e below (T.setTop g) target := by
  obtain ⟨cl, A, r1, r2, r3⟩ := id F
  obtain ⟨T', h', X', e', W, st⟩ := stB X hx hZ eT A (j := j) (x := x) (inI r1 hj) hg hs hd
  have q := clampOf hj.1
  exact ⟨T', h', X', e', W, F.set W (by omega), st⟩
theorem stZf (X : Stand p l e R s m args below meth c T locs cells slots) (hx : p.tables.exec = Jvm.exec) (hZ : Z.Warmed39 s.vm) (eT : T.heap = h) (F : Arf Z h a .boolean n f) {j x : Int32} (hj : 0 ≤ j.toInt ∧ j.toInt < n) {g : JFrame} (hg : g.method = m) {rest : List Value} (hs : g.stack = .int x :: .int j :: .ref a :: rest) (hd : decode c.code g.pc = .ok (.bastore, 1)) :
    ∃ T' h', Stand p l e R s m args below meth c T' (locs ++ [⟨a, j.toNatClampNeg⟩]) cells slots ∧ T'.heap = h' ∧ Wr h h' a j.toNatClampNeg (.int (nar .boolean x)) ∧ Arf Z h' a .boolean n (updv f j.toNatClampNeg (.int (nar .boolean x))) ∧ ∀ target, Steps p.tables e below (T'.setTop { g with pc := g.pc + 1, stack := rest }) target → Steps p.tables e below (T.setTop g) target := by
  obtain ⟨cl, A, r1, r2, r3⟩ := id F
  obtain ⟨T', h', X', e', W, st⟩ := stZ X hx hZ eT A (j := j) (x := x) (inI r1 hj) hg hs hd
  have q := clampOf hj.1
  exact ⟨T', h', X', e', W, F.set W (by omega), st⟩
theorem stCf (X : Stand p l e R s m args below meth c T locs cells slots) (hx : p.tables.exec = Jvm.exec) (hZ : Z.Warmed39 s.vm) (eT : T.heap = h) (F : Arf Z h a .char n f) {j x : Int32} (hj : 0 ≤ j.toInt ∧ j.toInt < n) {g : JFrame} (hg : g.method = m) {rest : List Value} (hs : g.stack = .int x :: .int j :: .ref a :: rest) (hd : decode c.code g.pc = .ok (.castore, 1)) :
    ∃ T' h', Stand p l e R s m args below meth c T' (locs ++ [⟨a, j.toNatClampNeg⟩]) cells slots ∧ T'.heap = h' ∧ Wr h h' a j.toNatClampNeg (.int (nar .char x)) ∧ Arf Z h' a .char n (updv f j.toNatClampNeg (.int (nar .char x))) ∧ ∀ target, Steps p.tables e below (T'.setTop { g with pc := g.pc + 1, stack := rest }) target → Steps p.tables e below (T.setTop g) target := by
  obtain ⟨cl, A, r1, r2, r3⟩ := id F
  obtain ⟨T', h', X', e', W, st⟩ := stC X hx hZ eT A (j := j) (x := x) (inI r1 hj) hg hs hd
  have q := clampOf hj.1
  exact ⟨T', h', X', e', W, F.set W (by omega), st⟩
theorem stRf (X : Stand p l e R s m args below meth c T locs cells slots) (hx : p.tables.exec = Jvm.exec) (hZ : Z.Warmed39 s.vm) (eT : T.heap = h) (F : Arf Z h a ty n f) (hty : ty.isReference = true) {j : Int32} {v : Value} (hv : Sto Z h a v) (hj : 0 ≤ j.toInt ∧ j.toInt < n) {g : JFrame} (hg : g.method = m) {rest : List Value} (hs : g.stack = v :: .int j :: .ref a :: rest) (hd : decode c.code g.pc = .ok (.aastore, 1)) :
    ∃ T' h', Stand p l e R s m args below meth c T' (locs ++ [⟨a, j.toNatClampNeg⟩]) cells slots ∧ T'.heap = h' ∧ Wr h h' a j.toNatClampNeg v ∧ Arf Z h' a ty n (updv f j.toNatClampNeg v) ∧ ∀ target, Steps p.tables e below (T'.setTop { g with pc := g.pc + 1, stack := rest }) target → Steps p.tables e below (T.setTop g) target := by
  obtain ⟨cl, A, r1, r2, r3⟩ := id F
  obtain ⟨T', h', X', e', W, st⟩ := stR X hx hZ eT A (j := j) (v := v) (inI r1 hj) hty hv hg hs hd
  have q := clampOf hj.1
  exact ⟨T', h', X', e', W, F.set W (by omega), st⟩
theorem ldIf (X : Stand p l e R s m args below meth c T locs cells slots) (hx : p.tables.exec = Jvm.exec) (hZ : Z.Warmed39 s.vm) (eT : T.heap = h) (F : Arf Z h a .int n f) {j : Int32} {v : Value} (hj : 0 ≤ j.toInt ∧ j.toInt < n) (hv : f j.toNatClampNeg = v) {g : JFrame} (hg : g.method = m) {rest : List Value} (hs : g.stack = .int j :: .ref a :: rest) (hd : decode c.code g.pc = .ok (.iaload, 1)) :
    ∀ target, Steps p.tables e below (T.setTop { g with pc := g.pc + 1, stack := v :: rest }) target → Steps p.tables e below (T.setTop g) target := by
  obtain ⟨cl, A, r1, r2, r3⟩ := F
  have q := clampOf hj.1
  exact fun t => X.iaload hx (by rw [eT]; exact A.1) (State.isArrayOf_alike hZ.alike A.2.1) A.2.2 (inI r1 hj) (by rw [← hv]; exact r3 _ (by omega)) hg hs hd t
theorem ldJf (X : Stand p l e R s m args below meth c T locs cells slots) (hx : p.tables.exec = Jvm.exec) (hZ : Z.Warmed39 s.vm) (eT : T.heap = h) (F : Arf Z h a .long n f) {j : Int32} {v : Value} (hj : 0 ≤ j.toInt ∧ j.toInt < n) (hv : f j.toNatClampNeg = v) {g : JFrame} (hg : g.method = m) {rest : List Value} (hs : g.stack = .int j :: .ref a :: rest) (hd : decode c.code g.pc = .ok (.laload, 1)) :
    ∀ target, Steps p.tables e below (T.setTop { g with pc := g.pc + 1, stack := v :: rest }) target → Steps p.tables e below (T.setTop g) target := by
  obtain ⟨cl, A, r1, r2, r3⟩ := F
  have q := clampOf hj.1
  exact fun t => X.laload hx (by rw [eT]; exact A.1) (State.isArrayOf_alike hZ.alike A.2.1) A.2.2 (inI r1 hj) (by rw [← hv]; exact r3 _ (by omega)) hg hs hd t
theorem ldCf (X : Stand p l e R s m args below meth c T locs cells slots) (hx : p.tables.exec = Jvm.exec) (hZ : Z.Warmed39 s.vm) (eT : T.heap = h) (F : Arf Z h a .char n f) {j : Int32} {v : Value} (hj : 0 ≤ j.toInt ∧ j.toInt < n) (hv : f j.toNatClampNeg = v) {g : JFrame} (hg : g.method = m) {rest : List Value} (hs : g.stack = .int j :: .ref a :: rest) (hd : decode c.code g.pc = .ok (.caload, 1)) :
    ∀ target, Steps p.tables e below (T.setTop { g with pc := g.pc + 1, stack := v :: rest }) target → Steps p.tables e below (T.setTop g) target := by
  obtain ⟨cl, A, r1, r2, r3⟩ := F
  have q := clampOf hj.1
  exact fun t => X.caload hx (by rw [eT]; exact A.1) (State.isArrayOf_alike hZ.alike A.2.1) A.2.2 (inI r1 hj) (by rw [← hv]; exact r3 _ (by omega)) hg hs hd t
theorem ldBf (X : Stand p l e R s m args below meth c T locs cells slots) (hx : p.tables.exec = Jvm.exec) (hZ : Z.Warmed39 s.vm) (eT : T.heap = h) (F : Arf Z h a .byte n f) {j : Int32} {v : Value} (hj : 0 ≤ j.toInt ∧ j.toInt < n) (hv : f j.toNatClampNeg = v) {g : JFrame} (hg : g.method = m) {rest : List Value} (hs : g.stack = .int j :: .ref a :: rest) (hd : decode c.code g.pc = .ok (.baload, 1)) :
    ∀ target, Steps p.tables e below (T.setTop { g with pc := g.pc + 1, stack := v :: rest }) target → Steps p.tables e below (T.setTop g) target := by
  obtain ⟨cl, A, r1, r2, r3⟩ := F
  have q := clampOf hj.1
  exact fun t => X.baloadBytes hx (by rw [eT]; exact A.1) (State.isArrayOf_alike hZ.alike A.2.1) A.2.2 (inI r1 hj) (by rw [← hv]; exact r3 _ (by omega)) hg hs hd t
theorem ldZf (X : Stand p l e R s m args below meth c T locs cells slots) (hx : p.tables.exec = Jvm.exec) (hZ : Z.Warmed39 s.vm) (eT : T.heap = h) (F : Arf Z h a .boolean n f) {j : Int32} {v : Value} (hj : 0 ≤ j.toInt ∧ j.toInt < n) (hv : f j.toNatClampNeg = v) {g : JFrame} (hg : g.method = m) {rest : List Value} (hs : g.stack = .int j :: .ref a :: rest) (hd : decode c.code g.pc = .ok (.baload, 1)) :
    ∀ target, Steps p.tables e below (T.setTop { g with pc := g.pc + 1, stack := v :: rest }) target → Steps p.tables e below (T.setTop g) target := by
  obtain ⟨cl, A, r1, r2, r3⟩ := F
  have q := clampOf hj.1
  exact fun t => X.baloadBooleans hx (by rw [eT]; exact A.1) (State.isArrayOf_alike hZ.alike A.2.1) A.2.2 (inI r1 hj) (by rw [← hv]; exact r3 _ (by omega)) hg hs hd t
theorem ldRf (X : Stand p l e R s m args below meth c T locs cells slots) (hx : p.tables.exec = Jvm.exec) (hZ : Z.Warmed39 s.vm) (eT : T.heap = h) (F : Arf Z h a ty n f) (hty : ty.isReference = true) {j : Int32} {v : Value} (hj : 0 ≤ j.toInt ∧ j.toInt < n) (hv : f j.toNatClampNeg = v) {g : JFrame} (hg : g.method = m) {rest : List Value} (hs : g.stack = .int j :: .ref a :: rest) (hd : decode c.code g.pc = .ok (.aaload, 1)) :
    ∀ target, Steps p.tables e below (T.setTop { g with pc := g.pc + 1, stack := v :: rest }) target → Steps p.tables e below (T.setTop g) target := by
  obtain ⟨cl, A, r1, r2, r3⟩ := F
  have q := clampOf hj.1
  exact fun t => X.aaload hx (by rw [eT]; exact A.1) (State.isArrayOf_alike hZ.alike A.2.1) hty A.2.2 (inI r1 hj) (by rw [← hv]; exact r3 _ (by omega)) hg hs hd t
theorem lenf (X : Stand p l e R s m args below meth c T locs cells slots) (hx : p.tables.exec = Jvm.exec) (hZ : Z.Warmed39 s.vm) (eT : T.heap = h) (F : Arf Z h a ty n f) {z : Int32} (hz : n.toInt32 = z) {g : JFrame} (hg : g.method = m) {rest : List Value} (hs : g.stack = .ref a :: rest) (hd : decode c.code g.pc = .ok (.arraylength, 1)) :
    ∀ target, Steps p.tables e below (T.setTop { g with pc := g.pc + 1, stack := .int z :: rest }) target → Steps p.tables e below (T.setTop g) target := by
  obtain ⟨cl, A, r1, r2, r3⟩ := F
  subst hz r1
  exact fun t => X.arraylength hx (by rw [eT]; exact A.1) (State.isArrayOf_alike hZ.alike A.2.1) hg hs hd t
theorem toClamp {z : Int32} (q : 0 ≤ z.toInt) : z.toNatClampNeg.toInt32 = z := (back32 (fun h => by rw [Int32.lt_iff_toInt_lt] at h; have : (0 : Int32).toInt = 0 := rfl; omega)).1
theorem refCat {v : Value} (h : v.isRef = true) : v.category = 1 := by rcases ref_cases h with rfl | ⟨_, rfl⟩ <;> rfl
/-- an array that takes every object of the class C -/
def Tak (Z : State) (h : Heap) (a : Addr) (C : String) : Prop := ∃ (cell : Cell) (k kc : Class) (comp : ClassId) (t : FieldType), h[a]? = some cell ∧ Z.vm.classes[cell.cls]? = some k ∧ k.kind = .array comp t ∧ Z.vm.classes[comp]? = some kc ∧ Z.vm.findClass C = some comp
variable {C : String}
theorem Tak.ext (F : Tak Z h a C) (E : Ext h h') : Tak Z h' a C := by obtain ⟨cell, k, kc, comp, t, h1, r⟩ := F; exact ⟨cell, k, kc, comp, t, E.2 _ _ h1, r⟩
theorem Tak.wr (F : Tak Z h a C) (W : Wr h h' b sl v) : Tak Z h' a C := by
  obtain ⟨cell, k, kc, comp, t, h1, h2, r⟩ := F
  obtain ⟨c', e1, e2, -⟩ := wr_at W h1
  exact ⟨c', k, kc, comp, t, e1, by rw [e2]; exact h2, r⟩
theorem Tak.keep (F : Tak Z h a C) (K : Keep h h' ws) : Tak Z h' a C := by
  obtain ⟨cell, k, kc, comp, t, h1, h2, r⟩ := F
  obtain ⟨c', e1, e2, -⟩ := K.2.2 _ _ h1
  exact ⟨c', k, kc, comp, t, e1, by rw [e2]; exact h2, r⟩
theorem Tak.sto (F : Tak Z h a C) {y : Addr} (I : Ins Z h y C true) : Sto Z h a (.ref y) := by
  obtain ⟨cell, k, kc, comp, t, h1, h2, h3, h4, h5⟩ := F
  obtain ⟨cv, cT, g1, g2, g3⟩ := I
  cases h5.symm.trans g2
  simp only [Bool.and_eq_true, Bool.not_eq_true'] at g3
  have hv : ∃ kv, Z.vm.classes[cv.cls]? = some kv := by
    cases q : Z.vm.classes[cv.cls]? with
    | some kv => exact ⟨kv, rfl⟩
    | none =>
      by_cases e : cv.cls = comp
      · rw [e, h4] at q; cases q
      · have := g3.2
        simp [Vm.assignable, Vm.assignableAux, e, q] at this
  obtain ⟨kv, hkv⟩ := hv
  exact Or.inr ⟨cell, cv, k, kv, kc, comp, t, y, h1, h2, h3, h4, rfl, g1, g3.1, hkv, g3.2⟩
theorem Tak.of {cA : ClassId} {n : Int32} (A : Arr Z h a (newA cA ty n) ty) (O : Ovr Z cA C) : Tak Z h a C := by
  obtain ⟨k, comp, o1, o2, o3⟩ := O
  obtain ⟨kc, q, -⟩ := Vm.findClass_spec o3
  exact ⟨_, k, kc, comp, _, A.1, o1, o2, q, o3⟩
theorem Tak.ofA {cA : ClassId} {n : Int32} {ty' : FieldType} (A : Arr Z h a (newA cA ty n) ty) (O : OvrA Z cA ty' C) : Tak Z h a C := by
  obtain ⟨k, comp, o1, o2, o3⟩ := O
  obtain ⟨kc, q, -⟩ := Vm.findClass_spec o3
  exact ⟨_, k, kc, comp, _, A.1, o1, o2, q, o3⟩
theorem own_eqI {t : Term} {k : Int32} {args : Array Value} {first s : State} {o : Option Outcome} {idx : List Nat} (h : (Cond.eq t (.int k)).value args first o s idx = some true) : t.eval args first o idx s = some (.int k) := by
  simp only [Cond.value, Term.eval] at h
  cases ht : t.eval args first o idx s with
  | none => simp [ht] at h
  | some x => cases x <;> simp [ht] at h ⊢ <;> exact h
end Own
end Jvm.RoadKit
namespace Jvm.Pilot.@@N@@
open Jvm Jvm.ClassFile Sem Op Lib Jvm.Free Jvm.Stand Jvm.LawKit Jvm.RoadKit Bundle Jvm.Pilot.@@N@@.Jvm.D
theorem pd_0 : parseMethodDescriptor "([J)I" = some ⟨[(.array .long)], some .int⟩ := by decide +kernel
theorem pd_1 : parseMethodDescriptor "(I)I" = some ⟨[.int], some .int⟩ := by decide +kernel
theorem pd_2 : parseMethodDescriptor "()V" = some ⟨[], none⟩ := by decide +kernel
theorem pd_3 : parseMethodDescriptor "([JLcom/example/tuplewise/tuplewise/Trail;)V" = some ⟨[(.array .long), (.object "com/example/tuplewise/tuplewise/Trail")], none⟩ := by decide +kernel
theorem pd_4 : parseMethodDescriptor "(I)Z" = some ⟨[.int], some .boolean⟩ := by decide +kernel
theorem own_d (u : Int64) : ∃ d : Int, (u = 0 → d = 0) ∧ (¬ u = 0 → d = 1) ∧ 0 ≤ d ∧ d ≤ 1 := by
  by_cases h : u = 0
  · exact ⟨0, fun _ => rfl, fun q => absurd h q, by decide, by decide⟩
  · exact ⟨1, fun q => absurd q h, fun _ => rfl, by decide, by decide⟩
theorem own_inc {c : Int32} (h0 : 0 ≤ c.toInt) (h1 : c.toInt < 1000) : (c + (1 : Int32)).toInt = c.toInt + 1 := by
  have e := c_iadd c 1
  have k : (1 : Int32).toInt = 1 := rfl
  have r := rng32 (c + 1)
  omega
theorem own_ush (x : Int64) (q : Int32) (k : Nat) (hk : q.toBitVec.toNat % 64 = k) (i : Nat) : ((x.toUInt64 >>> (q &&& 0x3f).toInt64.toUInt64).toInt64).toBitVec.getLsbD i = x.toBitVec.getLsbD (k + i) := by
  obtain ⟨e1, e2⟩ := sm64 q k hk
  show (x.toUInt64 >>> (q &&& 0x3f).toInt64.toUInt64).toBitVec.getLsbD i = _
  rw [UInt64.toBitVec_shiftRight]
  show (x.toBitVec >>> ((q &&& 0x3f).toInt64.toBitVec % 64#64)).getLsbD i = _
  rw [e1]
  show (x.toBitVec >>> ((BitVec.ofNat 64 k % 64#64).toNat)).getLsbD i = _
  rw [BitVec.getLsbD_ushiftRight]
  have hq : (BitVec.ofNat 64 k % 64#64).toNat = k := by
    rw [BitVec.toNat_umod, BitVec.toNat_ofNat, show (64#64 : BitVec 64).toNat = 64 from rfl, Nat.mod_eq_of_lt (by omega : k < 2 ^ 64), Nat.mod_eq_of_lt e2]
  rw [hq]
theorem own_sh (x : Int64) (q : Int32) (k : Nat) (hk : q.toBitVec.toNat % 64 = k) (i : Nat) (hi : i < 64) : (x <<< (q &&& 0x3f).toInt64).toBitVec.getLsbD i = (!decide (i < k) && x.toBitVec.getLsbD (i - k)) := by
  obtain ⟨e1, e2⟩ := sm64 q k hk
  rw [Int64.toBitVec_shiftLeft, e1]
  show (x.toBitVec <<< (((BitVec.ofNat 64 k).smod 64).toNat)).getLsbD i = _
  rw [smod64 k e2, BitVec.getLsbD_shiftLeft]
  simp [hi]
theorem own_mod (q : Int32) (h0 : 0 ≤ q.toInt) : q.toBitVec.toNat % 64 = (q.toInt % 64).toNat := by
  have h1 : (q.toBitVec.toNat : Int) = q.toInt := by
    have h2 : q.toInt = q.toBitVec.toInt := rfl
    have h3 := BitVec.toInt_eq_toNat_cond q.toBitVec
    have h4 := q.toBitVec.isLt
    rw [h2] at h0 ⊢
    rw [h3] at h0 ⊢
    split <;> rename_i hc <;> simp only [hc, if_true, if_false] at h0 <;> omega
  omega
theorem own_one (i : Nat) (hi : i < 64) : (1 : Int64).toBitVec.getLsbD i = decide (i = 0) := by
  have h2 : ∀ j : Fin 64, (1 : Int64).toBitVec.getLsbD j.val = decide (j.val = 0) := by decide +kernel
  exact h2 ⟨i, hi⟩
/-- the bit by the shifted one, and by the shifted word -/
theorem own_bits (x : Int64) {n q : Int32} (h0 : 0 ≤ n.toInt) (h1 : 0 ≤ q.toInt) (hq : q.toInt % 64 = n.toInt % 64) : (x &&& ((1 : Int64) <<< (n &&& 0x3f).toInt64)) = 0 ↔ ¬ (((x.toUInt64 >>> (q &&& 0x3f).toInt64.toUInt64).toInt64) &&& (1 : Int64)) = 1 := by
  have mn := own_mod n h0
  have mq := own_mod q h1
  rw [hq] at mq
  generalize hk : (n.toInt % 64).toNat = k at mn mq
  have hk64 : k < 64 := by omega
  have eu := fun i => own_ush x q k mq i
  have es := fun i hi => own_sh 1 n k mn i hi
  generalize ((x.toUInt64 >>> (q &&& 0x3f).toInt64.toUInt64).toInt64) = y at eu ⊢
  generalize ((1 : Int64) <<< (n &&& 0x3f).toInt64) = z at es ⊢
  have ez : ∀ i, i < 64 → z.toBitVec.getLsbD i = decide (i = k) := fun i hi => by
    rw [es i hi, own_one _ (by omega)]
    by_cases h : i < k
    · have : ¬ i = k := by omega
      simp [h, this]
    · by_cases h2 : i = k
      · subst h2; simp
      · have : ¬ i - k = 0 := by omega
        simp [h, h2, this]
  have e1 : (x &&& z) = 0 ↔ x.toBitVec.getLsbD k = false := by
    rw [← Int64.toBitVec_inj, Int64.toBitVec_and]
    constructor
    · intro h
      have := congrArg (fun b => BitVec.getLsbD b k) h
      simp only [BitVec.getLsbD_and, ez k hk64, decide_true, Bool.and_true] at this
      rw [this]
      show (0#64).getLsbD k = false
      simp
    · intro h
      apply BitVec.eq_of_getLsbD_eq
      intro i hi
      rw [BitVec.getLsbD_and, ez i hi]
      by_cases h2 : i = k
      · subst h2; rw [h]; show false = (0#64).getLsbD i; simp
      · simp only [h2, decide_false, Bool.and_false]; show false = (0#64).getLsbD i; simp
  have e2 : (y &&& 1) = 1 ↔ x.toBitVec.getLsbD k = true := by
    have e0 := eu 0
    rw [Nat.add_zero] at e0
    rw [← e0, ← Int64.toBitVec_inj, Int64.toBitVec_and]
    constructor
    · intro h
      have := congrArg (fun b => BitVec.getLsbD b 0) h
      simp only [BitVec.getLsbD_and, own_one 0 (by decide), decide_true, Bool.and_true] at this
      exact this
    · intro h
      apply BitVec.eq_of_getLsbD_eq
      intro i hi
      rw [BitVec.getLsbD_and, own_one i hi]
      by_cases h2 : i = 0
      · subst h2; rw [h]; rfl
      · simp [h2]
  rw [e1, e2]
  simp
theorem own_n (x : Int32) {n : Int32} (h : (x &&& (2147483647 : Int32)) % (192 : Int32) = n) : 0 ≤ n.toInt ∧ n.toInt < 192 ∧ ((n.toUInt32 >>> ((6 : Int32) &&& 31).toUInt32).toInt32).toInt = n.toInt / 64 := by
  have e1 := c_mask x 2147483647 31 (by decide) (by decide)
  have e2 := c_irem (x &&& 2147483647) 192 192 rfl
  rw [h] at e2
  have e3 := c_iushr n 6 6 (by decide) (by decide)
  omega
theorem own_ix {n z : Int32} (h : ((n.toUInt32 >>> ((6 : Int32) &&& 31).toUInt32).toInt32).toInt = z.toInt) : ((n.toUInt32 >>> ((6 : Int32) &&& 31).toUInt32).toInt32).toNatClampNeg = z.toNatClampNeg := by
  show (((n.toUInt32 >>> ((6 : Int32) &&& 31).toUInt32).toInt32).toInt).toNat = z.toInt.toNat
  rw [h]
theorem own_subk {n z : Int32} (h0 : 0 ≤ n.toInt) (h1 : 0 ≤ z.toInt) (h2 : z.toInt ≤ n.toInt) : (n - z).toInt = n.toInt - z.toInt := by
  have e := c_isub n z
  have r := rng32 (n - z)
  have r2 := rng32 n
  omega
theorem d1_0 : decode prog_24_method_1_code 0 = .ok (.aload_n 0, 1) := by decide +kernel
theorem d1_1 : decode prog_24_method_1_code 1 = .ok (.invokespecial 1, 3) := by decide +kernel
theorem d1_4 : decode prog_24_method_1_code 4 = .ok (.aload_n 0, 1) := by decide +kernel
theorem d1_5 : decode prog_24_method_1_code 5 = .ok (.bipush 64, 2) := by decide +kernel
theorem d1_7 : decode prog_24_method_1_code 7 = .ok (.newarray .int, 2) := by decide +kernel
theorem d1_9 : decode prog_24_method_1_code 9 = .ok (.putfield 7, 3) := by decide +kernel
theorem d1_12 : decode prog_24_method_1_code 12 = .ok (.aload_n 0, 1) := by decide +kernel
theorem d1_13 : decode prog_24_method_1_code 13 = .ok (.bipush 64, 2) := by decide +kernel
theorem d1_15 : decode prog_24_method_1_code 15 = .ok (.newarray .long, 2) := by decide +kernel
theorem d1_17 : decode prog_24_method_1_code 17 = .ok (.putfield 13, 3) := by decide +kernel
theorem d1_20 : decode prog_24_method_1_code 20 = .ok (.aload_n 0, 1) := by decide +kernel
theorem d1_21 : decode prog_24_method_1_code 21 = .ok (.sipush 256, 3) := by decide +kernel
theorem d1_24 : decode prog_24_method_1_code 24 = .ok (.newarray .int, 2) := by decide +kernel
theorem d1_26 : decode prog_24_method_1_code 26 = .ok (.putfield 17, 3) := by decide +kernel
theorem d1_29 : decode prog_24_method_1_code 29 = .ok (.aload_n 0, 1) := by decide +kernel
theorem d1_30 : decode prog_24_method_1_code 30 = .ok (.sipush 256, 3) := by decide +kernel
theorem d1_33 : decode prog_24_method_1_code 33 = .ok (.newarray .int, 2) := by decide +kernel
theorem d1_35 : decode prog_24_method_1_code 35 = .ok (.putfield 20, 3) := by decide +kernel
theorem d1_38 : decode prog_24_method_1_code 38 = .ok (.aload_n 0, 1) := by decide +kernel
theorem d1_39 : decode prog_24_method_1_code 39 = .ok (.bipush 8, 2) := by decide +kernel
theorem d1_41 : decode prog_24_method_1_code 41 = .ok (.anewarray 23, 3) := by decide +kernel
theorem d1_44 : decode prog_24_method_1_code 44 = .ok (.putfield 24, 3) := by decide +kernel
theorem d1_47 : decode prog_24_method_1_code 47 = .ok (.aload_n 0, 1) := by decide +kernel
theorem d1_48 : decode prog_24_method_1_code 48 = .ok (.bipush 64, 2) := by decide +kernel
theorem d1_50 : decode prog_24_method_1_code 50 = .ok (.newarray .long, 2) := by decide +kernel
theorem d1_52 : decode prog_24_method_1_code 52 = .ok (.putfield 28, 3) := by decide +kernel
theorem d1_55 : decode prog_24_method_1_code 55 = .ok (.aload_n 0, 1) := by decide +kernel
theorem d1_56 : decode prog_24_method_1_code 56 = .ok (.bipush 64, 2) := by decide +kernel
theorem d1_58 : decode prog_24_method_1_code 58 = .ok (.newarray .long, 2) := by decide +kernel
theorem d1_60 : decode prog_24_method_1_code 60 = .ok (.putfield 31, 3) := by decide +kernel
theorem d1_63 : decode prog_24_method_1_code 63 = .ok (.aload_n 0, 1) := by decide +kernel
theorem d1_64 : decode prog_24_method_1_code 64 = .ok (.bipush 64, 2) := by decide +kernel
theorem d1_66 : decode prog_24_method_1_code 66 = .ok (.newarray .int, 2) := by decide +kernel
theorem d1_68 : decode prog_24_method_1_code 68 = .ok (.putfield 34, 3) := by decide +kernel
theorem d1_71 : decode prog_24_method_1_code 71 = .ok (.aload_n 0, 1) := by decide +kernel
theorem d1_72 : decode prog_24_method_1_code 72 = .ok (.bipush 64, 2) := by decide +kernel
theorem d1_74 : decode prog_24_method_1_code 74 = .ok (.newarray .int, 2) := by decide +kernel
theorem d1_76 : decode prog_24_method_1_code 76 = .ok (.putfield 37, 3) := by decide +kernel
theorem d1_79 : decode prog_24_method_1_code 79 = .ok (.aload_n 0, 1) := by decide +kernel
theorem d1_80 : decode prog_24_method_1_code 80 = .ok (.bipush 64, 2) := by decide +kernel
theorem d1_82 : decode prog_24_method_1_code 82 = .ok (.newarray .long, 2) := by decide +kernel
theorem d1_84 : decode prog_24_method_1_code 84 = .ok (.putfield 40, 3) := by decide +kernel
theorem d1_87 : decode prog_24_method_1_code 87 = .ok (.aload_n 0, 1) := by decide +kernel
theorem d1_88 : decode prog_24_method_1_code 88 = .ok (.lconst 1, 1) := by decide +kernel
theorem d1_89 : decode prog_24_method_1_code 89 = .ok (.putfield 43, 3) := by decide +kernel
theorem d1_92 : decode prog_24_method_1_code 92 = .ok (.return_, 1) := by decide +kernel
theorem pn_1 : plainName "com/example/tuplewise/tuplewise/Trail" = true := by first | (simp [plainName, overriddenIn]; done) | decide +kernel
def Qrm1 (Z : State) (r0 : Addr) (h0 : Heap) (n0 : Nat) (v : Option Value) (h : Heap) (L : List Loc) : Prop := ∃ vb lb : Addr, v = none ∧ Fr n0 L ∧ Keep h0 h [r0] ∧ Fld Z h r0 "com/example/tuplewise/tuplewise/Trail" "values" "[I" (.ref vb) ∧ Fld Z h r0 "com/example/tuplewise/tuplewise/Trail" "longArrays" "[[J" (.ref lb) ∧ Fld Z h r0 "com/example/tuplewise/tuplewise/Trail" "longArrayCount" "I" (.int (0 : Int32)) ∧ Fld Z h r0 "com/example/tuplewise/tuplewise/Trail" "slotCount" "I" (.int (0 : Int32)) ∧ h0.size ≤ vb ∧ h0.size ≤ lb ∧ Arf Z h vb .int 64 (fun _ => .int 0) ∧ Arf Z h lb (.array .long) 8 (fun _ => .null) ∧ Tak Z h lb "[J" ∧ vb ≠ lb
set_option maxRecDepth 65536 in
set_option maxHeartbeats 40000000 in
theorem rm1 (l : Launch) (Z : State) (a0 : Array Value) (hw : ∀ d ∈ tables_1, d.before a0 Z = true) (ws : List Jvm.Cond) (r0 : Addr) (h0 : Heap) (n0 : Nat) (Z0 : n0 ≤ h0.size) (F_values_r0 : Fld Z h0 r0 "com/example/tuplewise/tuplewise/Trail" "values" "[I" .null) (F_savedIn_r0 : Fld Z h0 r0 "com/example/tuplewise/tuplewise/Trail" "savedIn" "[J" .null) (F_savedSlots_r0 : Fld Z h0 r0 "com/example/tuplewise/tuplewise/Trail" "savedSlots" "[I" .null) (F_savedValues_r0 : Fld Z h0 r0 "com/example/tuplewise/tuplewise/Trail" "savedValues" "[I" .null) (F_longArrays_r0 : Fld Z h0 r0 "com/example/tuplewise/tuplewise/Trail" "longArrays" "[[J" .null) (F_savedLongCells_r0 : Fld Z h0 r0 "com/example/tuplewise/tuplewise/Trail" "savedLongCells" "[J" .null) (F_savedLongValues_r0 : Fld Z h0 r0 "com/example/tuplewise/tuplewise/Trail" "savedLongValues" "[J" .null) (F_levelStarts_r0 : Fld Z h0 r0 "com/example/tuplewise/tuplewise/Trail" "levelStarts" "[I" .null) (F_levelLongStarts_r0 : Fld Z h0 r0 "com/example/tuplewise/tuplewise/Trail" "levelLongStarts" "[I" .null) (F_levelIds_r0 : Fld Z h0 r0 "com/example/tuplewise/tuplewise/Trail" "levelIds" "[J" .null) (F_nextLevelId_r0 : Fld Z h0 r0 "com/example/tuplewise/tuplewise/Trail" "nextLevelId" "J" (.long (0 : Int64))) (F_longArrayCount_r0 : Fld Z h0 r0 "com/example/tuplewise/tuplewise/Trail" "longArrayCount" "I" (.int (0 : Int32))) (F_slotCount_r0 : Fld Z h0 r0 "com/example/tuplewise/tuplewise/Trail" "slotCount" "I" (.int (0 : Int32))) (E_r0 : Exa Z h0 r0 "com/example/tuplewise/tuplewise/Trail") (ge_r0 : n0 ≤ r0) :
    MetFree l (⟨"com/example/tuplewise/tuplewise/Trail", "<init>", "()V"⟩ : MethodName) (head1 (Jvm.Cond.code (⟨"com/example/tuplewise/tuplewise/Trail", "<init>", "()V"⟩ : MethodName) prog_24_method_1_code 1 none :: ws) ({ frames := 1, cells := 10, slots := 968, locals := 12 } : Room)) (fun a U => a = #[(.ref r0)] ∧ Z.Warmed39 U.vm ∧ U.heap = h0) (fun _ _ _ _ _ => True) (fun _ U o U' => ∃ v L, o = .returned v ∧ Qrm1 Z r0 h0 n0 v U'.heap L ∧ FrameEnd U o U' L ({ frames := 1, cells := 10, slots := 968, locals := 12 } : Room).cells ({ frames := 1, cells := 10, slots := 968, locals := 12 } : Room).slots) := by
  refine MetFree.of_bodySF (plainFor_of_name pn_1) hisR ?_
  intro p e s m args below meth c s₁ Bd hml0 hP hK
  obtain ⟨rfl, hZ, hh⟩ := hP
  have hx := Bd.exec
  have hby := Bd.bytes
  have hml : c.maxLocals = 1 := hml0
  have hown : s.vm.findClass "com/example/tuplewise/tuplewise/Trail" = some m.cls := findClass_of_methodNamed Bd.named
  have hnm := (name_of_methodNamed Bd.named Bd.method).1
  have X0 : Stand p l e ({ frames := 1, cells := 10, slots := 968, locals := 12 } : Room) s m #[(.ref r0)] below meth c s₁ [] 0 0 := Stand.of_body Bd
  have e0 : s₁.heap = h0 := by rw [← hh, Bd.state]; rfl
  have N0 := Fr.nil n0
  have ZZ := Z0
  have KK : Keep h0 h0 [r0] := Keep.refl h0 _
  show Go p e below s (Qrm1 Z r0 h0 n0) 10 968 (s₁.setTop (entryFrame m #[(.ref r0)] 1))
  generalize hQQ : (Qrm1 Z r0 h0 n0) = QQ
  refine gs (fun t k => castTop (g' := (mkF m 0 #[.val (.ref r0)] [])) (by first | (simp [entryFrame, mkF, argsToLocals, Value.category, maxLocals]; done) | rfl) k) ?_
  show Go p e below s QQ 10 968 (s₁.setTop (mkF m 0 #[.val (.ref r0)] []))
  refine gs (fun t => XS.aloadN X0.here hx rfl (hb hby d1_0) rfl rfl) ?_
  show Go p e below s QQ 10 968 (s₁.setTop (mkF m 1 #[.val (.ref r0)] [(.ref r0)]))
  obtain ⟨T1, X1, e1, st1⟩ := initO X0 hx hZ hown (hw _ (List.mem_of_getElem? (i := 10) rfl)) (hw _ (List.mem_of_getElem? (i := 11) rfl)) (hw _ (List.mem_of_getElem? (i := 12) rfl)) e0 (g := (mkF m 1 #[.val (.ref r0)] [(.ref r0)])) rfl (by rw [hml]; rfl) rfl (hb hby d1_1) (by decide) (W := 0) (by show 2 * 0 + _ ≤ _; exact Nat.le_of_eq rfl) (by decide)
  refine gs st1 ?_
  show Go p e below s QQ 10 968 (T1.setTop (mkF m 4 #[.val (.ref r0)] []))
  refine gs (fun t => XS.aloadN X1.here hx rfl (hb hby d1_4) rfl rfl) ?_
  show Go p e below s QQ 10 968 (T1.setTop (mkF m 5 #[.val (.ref r0)] [(.ref r0)]))
  refine gs (fun t => XS.bipush X1.here hx rfl (hb hby d1_5)) ?_
  show Go p e below s QQ 10 968 (T1.setTop (mkF m 7 #[.val (.ref r0)] [(.int (64 : Int32)), (.ref r0)]))
  obtain ⟨T2, h2, k2, X2, e2, E2, A2, st2⟩ := newP X1 hx hZ (hw _ (List.mem_of_getElem? (i := 13) rfl)) e1 (g := (mkF m 7 #[.val (.ref r0)] [(.int (64 : Int32)), (.ref r0)])) rfl (hb hby d1_7) rfl (by decide) (cap := 64) (by decide) (by decide) (by decide) (by decide)
  obtain ⟨b2, g2⟩ : ∃ z, z = h0.size := ⟨_, rfl⟩
  rw [← g2] at A2 st2
  have ge_b2 : n0 ≤ b2 := by rw [g2]; exact ZZ
  have sz_b2 : h0.size ≤ b2 := by rw [g2]; exact KK.1
  have ne_r0_b2 : r0 ≠ b2 := by rw [g2]; exact Nat.ne_of_lt F_values_r0.lt
  refine gs st2 ?_
  show Go p e below s QQ 10 968 (T2.setTop (mkF m 9 #[.val (.ref r0)] [(.ref b2), (.ref r0)]))
  replace F_values_r0 := F_values_r0.ext E2
  replace F_savedIn_r0 := F_savedIn_r0.ext E2
  replace F_savedSlots_r0 := F_savedSlots_r0.ext E2
  replace F_savedValues_r0 := F_savedValues_r0.ext E2
  replace F_longArrays_r0 := F_longArrays_r0.ext E2
  replace F_savedLongCells_r0 := F_savedLongCells_r0.ext E2
  replace F_savedLongValues_r0 := F_savedLongValues_r0.ext E2
  replace F_levelStarts_r0 := F_levelStarts_r0.ext E2
  replace F_levelLongStarts_r0 := F_levelLongStarts_r0.ext E2
  replace F_levelIds_r0 := F_levelIds_r0.ext E2
  replace F_nextLevelId_r0 := F_nextLevelId_r0.ext E2
  replace F_longArrayCount_r0 := F_longArrayCount_r0.ext E2
  replace F_slotCount_r0 := F_slotCount_r0.ext E2
  replace E_r0 := E_r0.ext E2
  replace ZZ := Nat.le_trans ZZ E2.1
  replace KK := KK.ext E2
  have V_b2 : Arf Z h2 b2 .int 64 (fun _ => .int 0) := Arf.new A2
  obtain ⟨T3, h3, X3, e3, W3, st3⟩ := putF X2 hx hZ hown (host := "") (Or.inl (hw _ (List.mem_of_getElem? (i := 14) rfl))) Via.refl e2 F_values_r0 E_r0 (Or.inl (hw _ (List.mem_of_getElem? (i := 15) rfl))) (hw _ (List.mem_of_getElem? (i := 5) rfl)) (ty := (.array .int)) (by decide) rfl rfl (g := (mkF m 9 #[.val (.ref r0)] [(.ref b2), (.ref r0)])) rfl rfl (hb hby d1_9)
  replace N0 := Fr.snoc X3 N0 ge_r0
  refine gs st3 ?_
  show Go p e below s QQ 10 968 (T3.setTop (mkF m 12 #[.val (.ref r0)] []))
  replace F_values_r0 := F_values_r0.same W3
  replace F_savedIn_r0 := F_savedIn_r0.other W3 (Or.inr (slot_ne (Or.inl (hw _ (List.mem_of_getElem? (i := 17) rfl))) (Or.inl (hw _ (List.mem_of_getElem? (i := 15) rfl))) (by decide) (t := (.array .long)) (t' := (.array .int)) (by decide) (by decide)))
  replace F_savedSlots_r0 := F_savedSlots_r0.other W3 (Or.inr (slot_ne (Or.inl (hw _ (List.mem_of_getElem? (i := 19) rfl))) (Or.inl (hw _ (List.mem_of_getElem? (i := 15) rfl))) (by decide) (t := (.array .int)) (t' := (.array .int)) (by decide) (by decide)))
  replace F_savedValues_r0 := F_savedValues_r0.other W3 (Or.inr (slot_ne (Or.inl (hw _ (List.mem_of_getElem? (i := 21) rfl))) (Or.inl (hw _ (List.mem_of_getElem? (i := 15) rfl))) (by decide) (t := (.array .int)) (t' := (.array .int)) (by decide) (by decide)))
  replace F_longArrays_r0 := F_longArrays_r0.other W3 (Or.inr (slot_ne (Or.inl (hw _ (List.mem_of_getElem? (i := 25) rfl))) (Or.inl (hw _ (List.mem_of_getElem? (i := 15) rfl))) (by decide) (t := (.array (.array .long))) (t' := (.array .int)) (by decide) (by decide)))
  replace F_savedLongCells_r0 := F_savedLongCells_r0.other W3 (Or.inr (slot_ne (Or.inl (hw _ (List.mem_of_getElem? (i := 27) rfl))) (Or.inl (hw _ (List.mem_of_getElem? (i := 15) rfl))) (by decide) (t := (.array .long)) (t' := (.array .int)) (by decide) (by decide)))
  replace F_savedLongValues_r0 := F_savedLongValues_r0.other W3 (Or.inr (slot_ne (Or.inl (hw _ (List.mem_of_getElem? (i := 29) rfl))) (Or.inl (hw _ (List.mem_of_getElem? (i := 15) rfl))) (by decide) (t := (.array .long)) (t' := (.array .int)) (by decide) (by decide)))
  replace F_levelStarts_r0 := F_levelStarts_r0.other W3 (Or.inr (slot_ne (Or.inl (hw _ (List.mem_of_getElem? (i := 31) rfl))) (Or.inl (hw _ (List.mem_of_getElem? (i := 15) rfl))) (by decide) (t := (.array .int)) (t' := (.array .int)) (by decide) (by decide)))
  replace F_levelLongStarts_r0 := F_levelLongStarts_r0.other W3 (Or.inr (slot_ne (Or.inl (hw _ (List.mem_of_getElem? (i := 33) rfl))) (Or.inl (hw _ (List.mem_of_getElem? (i := 15) rfl))) (by decide) (t := (.array .int)) (t' := (.array .int)) (by decide) (by decide)))
  replace F_levelIds_r0 := F_levelIds_r0.other W3 (Or.inr (slot_ne (Or.inl (hw _ (List.mem_of_getElem? (i := 35) rfl))) (Or.inl (hw _ (List.mem_of_getElem? (i := 15) rfl))) (by decide) (t := (.array .long)) (t' := (.array .int)) (by decide) (by decide)))
  replace F_nextLevelId_r0 := F_nextLevelId_r0.other W3 (Or.inr (slot_ne (Or.inl (hw _ (List.mem_of_getElem? (i := 37) rfl))) (Or.inl (hw _ (List.mem_of_getElem? (i := 15) rfl))) (by decide) (t := .long) (t' := (.array .int)) (by decide) (by decide)))
  replace F_longArrayCount_r0 := F_longArrayCount_r0.other W3 (Or.inr (slot_ne (Or.inl (hw _ (List.mem_of_getElem? (i := 57) rfl))) (Or.inl (hw _ (List.mem_of_getElem? (i := 15) rfl))) (by decide) (t := .int) (t' := (.array .int)) (by decide) (by decide)))
  replace F_slotCount_r0 := F_slotCount_r0.other W3 (Or.inr (slot_ne (Or.inl (hw _ (List.mem_of_getElem? (i := 67) rfl))) (Or.inl (hw _ (List.mem_of_getElem? (i := 15) rfl))) (by decide) (t := .int) (t' := (.array .int)) (by decide) (by decide)))
  replace E_r0 := E_r0.wr W3
  replace V_b2 := V_b2.other W3 (Ne.symm ne_r0_b2)
  replace ZZ : n0 ≤ h3.size := by rw [W3.size]; exact ZZ
  replace KK := KK.wr W3 (Or.inl (by simp))
  refine gs (fun t => XS.aloadN X3.here hx rfl (hb hby d1_12) rfl rfl) ?_
  show Go p e below s QQ 10 968 (T3.setTop (mkF m 13 #[.val (.ref r0)] [(.ref r0)]))
  refine gs (fun t => XS.bipush X3.here hx rfl (hb hby d1_13)) ?_
  show Go p e below s QQ 10 968 (T3.setTop (mkF m 15 #[.val (.ref r0)] [(.int (64 : Int32)), (.ref r0)]))
  obtain ⟨T4, h4, k4, X4, e4, E4, A4, st4⟩ := newP X3 hx hZ (hw _ (List.mem_of_getElem? (i := 0) rfl)) e3 (g := (mkF m 15 #[.val (.ref r0)] [(.int (64 : Int32)), (.ref r0)])) rfl (hb hby d1_15) rfl (by decide) (cap := 64) (by decide) (by decide) (by decide) (by decide)
  obtain ⟨b4, g4⟩ : ∃ z, z = h3.size := ⟨_, rfl⟩
  rw [← g4] at A4 st4
  have ge_b4 : n0 ≤ b4 := by rw [g4]; exact ZZ
  have sz_b4 : h0.size ≤ b4 := by rw [g4]; exact KK.1
  have ne_r0_b4 : r0 ≠ b4 := by rw [g4]; exact Nat.ne_of_lt F_values_r0.lt
  have ne_b2_b4 : b2 ≠ b4 := by rw [g4]; exact Nat.ne_of_lt V_b2.lt
  refine gs st4 ?_
  show Go p e below s QQ 10 968 (T4.setTop (mkF m 17 #[.val (.ref r0)] [(.ref b4), (.ref r0)]))
  replace F_values_r0 := F_values_r0.ext E4
  replace F_savedIn_r0 := F_savedIn_r0.ext E4
  replace F_savedSlots_r0 := F_savedSlots_r0.ext E4
  replace F_savedValues_r0 := F_savedValues_r0.ext E4
  replace F_longArrays_r0 := F_longArrays_r0.ext E4
  replace F_savedLongCells_r0 := F_savedLongCells_r0.ext E4
  replace F_savedLongValues_r0 := F_savedLongValues_r0.ext E4
  replace F_levelStarts_r0 := F_levelStarts_r0.ext E4
  replace F_levelLongStarts_r0 := F_levelLongStarts_r0.ext E4
  replace F_levelIds_r0 := F_levelIds_r0.ext E4
  replace F_nextLevelId_r0 := F_nextLevelId_r0.ext E4
  replace F_longArrayCount_r0 := F_longArrayCount_r0.ext E4
  replace F_slotCount_r0 := F_slotCount_r0.ext E4
  replace E_r0 := E_r0.ext E4
  replace V_b2 := V_b2.ext E4
  replace ZZ := Nat.le_trans ZZ E4.1
  replace KK := KK.ext E4
  have V_b4 : Arf Z h4 b4 .long 64 (fun _ => .long 0) := Arf.new A4
  obtain ⟨T5, h5, X5, e5, W5, st5⟩ := putF X4 hx hZ hown (host := "") (Or.inl (hw _ (List.mem_of_getElem? (i := 16) rfl))) Via.refl e4 F_savedIn_r0 E_r0 (Or.inl (hw _ (List.mem_of_getElem? (i := 17) rfl))) (hw _ (List.mem_of_getElem? (i := 5) rfl)) (ty := (.array .long)) (by decide) rfl rfl (g := (mkF m 17 #[.val (.ref r0)] [(.ref b4), (.ref r0)])) rfl rfl (hb hby d1_17)
  replace N0 := Fr.snoc X5 N0 ge_r0
  refine gs st5 ?_
  show Go p e below s QQ 10 968 (T5.setTop (mkF m 20 #[.val (.ref r0)] []))
  replace F_values_r0 := F_values_r0.other W5 (Or.inr (slot_ne (Or.inl (hw _ (List.mem_of_getElem? (i := 15) rfl))) (Or.inl (hw _ (List.mem_of_getElem? (i := 17) rfl))) (by decide) (t := (.array .int)) (t' := (.array .long)) (by decide) (by decide)))
  replace F_savedIn_r0 := F_savedIn_r0.same W5
  replace F_savedSlots_r0 := F_savedSlots_r0.other W5 (Or.inr (slot_ne (Or.inl (hw _ (List.mem_of_getElem? (i := 19) rfl))) (Or.inl (hw _ (List.mem_of_getElem? (i := 17) rfl))) (by decide) (t := (.array .int)) (t' := (.array .long)) (by decide) (by decide)))
  replace F_savedValues_r0 := F_savedValues_r0.other W5 (Or.inr (slot_ne (Or.inl (hw _ (List.mem_of_getElem? (i := 21) rfl))) (Or.inl (hw _ (List.mem_of_getElem? (i := 17) rfl))) (by decide) (t := (.array .int)) (t' := (.array .long)) (by decide) (by decide)))
  replace F_longArrays_r0 := F_longArrays_r0.other W5 (Or.inr (slot_ne (Or.inl (hw _ (List.mem_of_getElem? (i := 25) rfl))) (Or.inl (hw _ (List.mem_of_getElem? (i := 17) rfl))) (by decide) (t := (.array (.array .long))) (t' := (.array .long)) (by decide) (by decide)))
  replace F_savedLongCells_r0 := F_savedLongCells_r0.other W5 (Or.inr (slot_ne (Or.inl (hw _ (List.mem_of_getElem? (i := 27) rfl))) (Or.inl (hw _ (List.mem_of_getElem? (i := 17) rfl))) (by decide) (t := (.array .long)) (t' := (.array .long)) (by decide) (by decide)))
  replace F_savedLongValues_r0 := F_savedLongValues_r0.other W5 (Or.inr (slot_ne (Or.inl (hw _ (List.mem_of_getElem? (i := 29) rfl))) (Or.inl (hw _ (List.mem_of_getElem? (i := 17) rfl))) (by decide) (t := (.array .long)) (t' := (.array .long)) (by decide) (by decide)))
  replace F_levelStarts_r0 := F_levelStarts_r0.other W5 (Or.inr (slot_ne (Or.inl (hw _ (List.mem_of_getElem? (i := 31) rfl))) (Or.inl (hw _ (List.mem_of_getElem? (i := 17) rfl))) (by decide) (t := (.array .int)) (t' := (.array .long)) (by decide) (by decide)))
  replace F_levelLongStarts_r0 := F_levelLongStarts_r0.other W5 (Or.inr (slot_ne (Or.inl (hw _ (List.mem_of_getElem? (i := 33) rfl))) (Or.inl (hw _ (List.mem_of_getElem? (i := 17) rfl))) (by decide) (t := (.array .int)) (t' := (.array .long)) (by decide) (by decide)))
  replace F_levelIds_r0 := F_levelIds_r0.other W5 (Or.inr (slot_ne (Or.inl (hw _ (List.mem_of_getElem? (i := 35) rfl))) (Or.inl (hw _ (List.mem_of_getElem? (i := 17) rfl))) (by decide) (t := (.array .long)) (t' := (.array .long)) (by decide) (by decide)))
  replace F_nextLevelId_r0 := F_nextLevelId_r0.other W5 (Or.inr (slot_ne (Or.inl (hw _ (List.mem_of_getElem? (i := 37) rfl))) (Or.inl (hw _ (List.mem_of_getElem? (i := 17) rfl))) (by decide) (t := .long) (t' := (.array .long)) (by decide) (by decide)))
  replace F_longArrayCount_r0 := F_longArrayCount_r0.other W5 (Or.inr (slot_ne (Or.inl (hw _ (List.mem_of_getElem? (i := 57) rfl))) (Or.inl (hw _ (List.mem_of_getElem? (i := 17) rfl))) (by decide) (t := .int) (t' := (.array .long)) (by decide) (by decide)))
  replace F_slotCount_r0 := F_slotCount_r0.other W5 (Or.inr (slot_ne (Or.inl (hw _ (List.mem_of_getElem? (i := 67) rfl))) (Or.inl (hw _ (List.mem_of_getElem? (i := 17) rfl))) (by decide) (t := .int) (t' := (.array .long)) (by decide) (by decide)))
  replace E_r0 := E_r0.wr W5
  replace V_b2 := V_b2.other W5 (Ne.symm ne_r0_b2)
  replace V_b4 := V_b4.other W5 (Ne.symm ne_r0_b4)
  replace ZZ : n0 ≤ h5.size := by rw [W5.size]; exact ZZ
  replace KK := KK.wr W5 (Or.inl (by simp))
  refine gs (fun t => XS.aloadN X5.here hx rfl (hb hby d1_20) rfl rfl) ?_
  show Go p e below s QQ 10 968 (T5.setTop (mkF m 21 #[.val (.ref r0)] [(.ref r0)]))
  refine gs (fun t => XS.sipush X5.here hx rfl (hb hby d1_21)) ?_
  show Go p e below s QQ 10 968 (T5.setTop (mkF m 24 #[.val (.ref r0)] [(.int (256 : Int32)), (.ref r0)]))
  obtain ⟨T6, h6, k6, X6, e6, E6, A6, st6⟩ := newP X5 hx hZ (hw _ (List.mem_of_getElem? (i := 13) rfl)) e5 (g := (mkF m 24 #[.val (.ref r0)] [(.int (256 : Int32)), (.ref r0)])) rfl (hb hby d1_24) rfl (by decide) (cap := 256) (by decide) (by decide) (by decide) (by decide)
  obtain ⟨b6, g6⟩ : ∃ z, z = h5.size := ⟨_, rfl⟩
  rw [← g6] at A6 st6
  have ge_b6 : n0 ≤ b6 := by rw [g6]; exact ZZ
  have sz_b6 : h0.size ≤ b6 := by rw [g6]; exact KK.1
  have ne_r0_b6 : r0 ≠ b6 := by rw [g6]; exact Nat.ne_of_lt F_values_r0.lt
  have ne_b2_b6 : b2 ≠ b6 := by rw [g6]; exact Nat.ne_of_lt V_b2.lt
  have ne_b4_b6 : b4 ≠ b6 := by rw [g6]; exact Nat.ne_of_lt V_b4.lt
  refine gs st6 ?_
  show Go p e below s QQ 10 968 (T6.setTop (mkF m 26 #[.val (.ref r0)] [(.ref b6), (.ref r0)]))
  replace F_values_r0 := F_values_r0.ext E6
  replace F_savedIn_r0 := F_savedIn_r0.ext E6
  replace F_savedSlots_r0 := F_savedSlots_r0.ext E6
  replace F_savedValues_r0 := F_savedValues_r0.ext E6
  replace F_longArrays_r0 := F_longArrays_r0.ext E6
  replace F_savedLongCells_r0 := F_savedLongCells_r0.ext E6
  replace F_savedLongValues_r0 := F_savedLongValues_r0.ext E6
  replace F_levelStarts_r0 := F_levelStarts_r0.ext E6
  replace F_levelLongStarts_r0 := F_levelLongStarts_r0.ext E6
  replace F_levelIds_r0 := F_levelIds_r0.ext E6
  replace F_nextLevelId_r0 := F_nextLevelId_r0.ext E6
  replace F_longArrayCount_r0 := F_longArrayCount_r0.ext E6
  replace F_slotCount_r0 := F_slotCount_r0.ext E6
  replace E_r0 := E_r0.ext E6
  replace V_b2 := V_b2.ext E6
  replace V_b4 := V_b4.ext E6
  replace ZZ := Nat.le_trans ZZ E6.1
  replace KK := KK.ext E6
  have V_b6 : Arf Z h6 b6 .int 256 (fun _ => .int 0) := Arf.new A6
  obtain ⟨T7, h7, X7, e7, W7, st7⟩ := putF X6 hx hZ hown (host := "") (Or.inl (hw _ (List.mem_of_getElem? (i := 18) rfl))) Via.refl e6 F_savedSlots_r0 E_r0 (Or.inl (hw _ (List.mem_of_getElem? (i := 19) rfl))) (hw _ (List.mem_of_getElem? (i := 5) rfl)) (ty := (.array .int)) (by decide) rfl rfl (g := (mkF m 26 #[.val (.ref r0)] [(.ref b6), (.ref r0)])) rfl rfl (hb hby d1_26)
  replace N0 := Fr.snoc X7 N0 ge_r0
  refine gs st7 ?_
  show Go p e below s QQ 10 968 (T7.setTop (mkF m 29 #[.val (.ref r0)] []))
  replace F_values_r0 := F_values_r0.other W7 (Or.inr (slot_ne (Or.inl (hw _ (List.mem_of_getElem? (i := 15) rfl))) (Or.inl (hw _ (List.mem_of_getElem? (i := 19) rfl))) (by decide) (t := (.array .int)) (t' := (.array .int)) (by decide) (by decide)))
  replace F_savedIn_r0 := F_savedIn_r0.other W7 (Or.inr (slot_ne (Or.inl (hw _ (List.mem_of_getElem? (i := 17) rfl))) (Or.inl (hw _ (List.mem_of_getElem? (i := 19) rfl))) (by decide) (t := (.array .long)) (t' := (.array .int)) (by decide) (by decide)))
  replace F_savedSlots_r0 := F_savedSlots_r0.same W7
  replace F_savedValues_r0 := F_savedValues_r0.other W7 (Or.inr (slot_ne (Or.inl (hw _ (List.mem_of_getElem? (i := 21) rfl))) (Or.inl (hw _ (List.mem_of_getElem? (i := 19) rfl))) (by decide) (t := (.array .int)) (t' := (.array .int)) (by decide) (by decide)))
  replace F_longArrays_r0 := F_longArrays_r0.other W7 (Or.inr (slot_ne (Or.inl (hw _ (List.mem_of_getElem? (i := 25) rfl))) (Or.inl (hw _ (List.mem_of_getElem? (i := 19) rfl))) (by decide) (t := (.array (.array .long))) (t' := (.array .int)) (by decide) (by decide)))
  replace F_savedLongCells_r0 := F_savedLongCells_r0.other W7 (Or.inr (slot_ne (Or.inl (hw _ (List.mem_of_getElem? (i := 27) rfl))) (Or.inl (hw _ (List.mem_of_getElem? (i := 19) rfl))) (by decide) (t := (.array .long)) (t' := (.array .int)) (by decide) (by decide)))
  replace F_savedLongValues_r0 := F_savedLongValues_r0.other W7 (Or.inr (slot_ne (Or.inl (hw _ (List.mem_of_getElem? (i := 29) rfl))) (Or.inl (hw _ (List.mem_of_getElem? (i := 19) rfl))) (by decide) (t := (.array .long)) (t' := (.array .int)) (by decide) (by decide)))
  replace F_levelStarts_r0 := F_levelStarts_r0.other W7 (Or.inr (slot_ne (Or.inl (hw _ (List.mem_of_getElem? (i := 31) rfl))) (Or.inl (hw _ (List.mem_of_getElem? (i := 19) rfl))) (by decide) (t := (.array .int)) (t' := (.array .int)) (by decide) (by decide)))
  replace F_levelLongStarts_r0 := F_levelLongStarts_r0.other W7 (Or.inr (slot_ne (Or.inl (hw _ (List.mem_of_getElem? (i := 33) rfl))) (Or.inl (hw _ (List.mem_of_getElem? (i := 19) rfl))) (by decide) (t := (.array .int)) (t' := (.array .int)) (by decide) (by decide)))
  replace F_levelIds_r0 := F_levelIds_r0.other W7 (Or.inr (slot_ne (Or.inl (hw _ (List.mem_of_getElem? (i := 35) rfl))) (Or.inl (hw _ (List.mem_of_getElem? (i := 19) rfl))) (by decide) (t := (.array .long)) (t' := (.array .int)) (by decide) (by decide)))
  replace F_nextLevelId_r0 := F_nextLevelId_r0.other W7 (Or.inr (slot_ne (Or.inl (hw _ (List.mem_of_getElem? (i := 37) rfl))) (Or.inl (hw _ (List.mem_of_getElem? (i := 19) rfl))) (by decide) (t := .long) (t' := (.array .int)) (by decide) (by decide)))
  replace F_longArrayCount_r0 := F_longArrayCount_r0.other W7 (Or.inr (slot_ne (Or.inl (hw _ (List.mem_of_getElem? (i := 57) rfl))) (Or.inl (hw _ (List.mem_of_getElem? (i := 19) rfl))) (by decide) (t := .int) (t' := (.array .int)) (by decide) (by decide)))
  replace F_slotCount_r0 := F_slotCount_r0.other W7 (Or.inr (slot_ne (Or.inl (hw _ (List.mem_of_getElem? (i := 67) rfl))) (Or.inl (hw _ (List.mem_of_getElem? (i := 19) rfl))) (by decide) (t := .int) (t' := (.array .int)) (by decide) (by decide)))
  replace E_r0 := E_r0.wr W7
  replace V_b2 := V_b2.other W7 (Ne.symm ne_r0_b2)
  replace V_b4 := V_b4.other W7 (Ne.symm ne_r0_b4)
  replace V_b6 := V_b6.other W7 (Ne.symm ne_r0_b6)
  replace ZZ : n0 ≤ h7.size := by rw [W7.size]; exact ZZ
  replace KK := KK.wr W7 (Or.inl (by simp))
  refine gs (fun t => XS.aloadN X7.here hx rfl (hb hby d1_29) rfl rfl) ?_
  show Go p e below s QQ 10 968 (T7.setTop (mkF m 30 #[.val (.ref r0)] [(.ref r0)]))
  refine gs (fun t => XS.sipush X7.here hx rfl (hb hby d1_30)) ?_
  show Go p e below s QQ 10 968 (T7.setTop (mkF m 33 #[.val (.ref r0)] [(.int (256 : Int32)), (.ref r0)]))
  obtain ⟨T8, h8, k8, X8, e8, E8, A8, st8⟩ := newP X7 hx hZ (hw _ (List.mem_of_getElem? (i := 13) rfl)) e7 (g := (mkF m 33 #[.val (.ref r0)] [(.int (256 : Int32)), (.ref r0)])) rfl (hb hby d1_33) rfl (by decide) (cap := 256) (by decide) (by decide) (by decide) (by decide)
  obtain ⟨b8, g8⟩ : ∃ z, z = h7.size := ⟨_, rfl⟩
  rw [← g8] at A8 st8
  have ge_b8 : n0 ≤ b8 := by rw [g8]; exact ZZ
  have sz_b8 : h0.size ≤ b8 := by rw [g8]; exact KK.1
  have ne_r0_b8 : r0 ≠ b8 := by rw [g8]; exact Nat.ne_of_lt F_values_r0.lt
  have ne_b2_b8 : b2 ≠ b8 := by rw [g8]; exact Nat.ne_of_lt V_b2.lt
  have ne_b4_b8 : b4 ≠ b8 := by rw [g8]; exact Nat.ne_of_lt V_b4.lt
  have ne_b6_b8 : b6 ≠ b8 := by rw [g8]; exact Nat.ne_of_lt V_b6.lt
  refine gs st8 ?_
  show Go p e below s QQ 10 968 (T8.setTop (mkF m 35 #[.val (.ref r0)] [(.ref b8), (.ref r0)]))
  replace F_values_r0 := F_values_r0.ext E8
  replace F_savedIn_r0 := F_savedIn_r0.ext E8
  replace F_savedSlots_r0 := F_savedSlots_r0.ext E8
  replace F_savedValues_r0 := F_savedValues_r0.ext E8
  replace F_longArrays_r0 := F_longArrays_r0.ext E8
  replace F_savedLongCells_r0 := F_savedLongCells_r0.ext E8
  replace F_savedLongValues_r0 := F_savedLongValues_r0.ext E8
  replace F_levelStarts_r0 := F_levelStarts_r0.ext E8
  replace F_levelLongStarts_r0 := F_levelLongStarts_r0.ext E8
  replace F_levelIds_r0 := F_levelIds_r0.ext E8
  replace F_nextLevelId_r0 := F_nextLevelId_r0.ext E8
  replace F_longArrayCount_r0 := F_longArrayCount_r0.ext E8
  replace F_slotCount_r0 := F_slotCount_r0.ext E8
  replace E_r0 := E_r0.ext E8
  replace V_b2 := V_b2.ext E8
  replace V_b4 := V_b4.ext E8
  replace V_b6 := V_b6.ext E8
  replace ZZ := Nat.le_trans ZZ E8.1
  replace KK := KK.ext E8
  have V_b8 : Arf Z h8 b8 .int 256 (fun _ => .int 0) := Arf.new A8
  obtain ⟨T9, h9, X9, e9, W9, st9⟩ := putF X8 hx hZ hown (host := "") (Or.inl (hw _ (List.mem_of_getElem? (i := 20) rfl))) Via.refl e8 F_savedValues_r0 E_r0 (Or.inl (hw _ (List.mem_of_getElem? (i := 21) rfl))) (hw _ (List.mem_of_getElem? (i := 5) rfl)) (ty := (.array .int)) (by decide) rfl rfl (g := (mkF m 35 #[.val (.ref r0)] [(.ref b8), (.ref r0)])) rfl rfl (hb hby d1_35)
  replace N0 := Fr.snoc X9 N0 ge_r0
  refine gs st9 ?_
  show Go p e below s QQ 10 968 (T9.setTop (mkF m 38 #[.val (.ref r0)] []))
  replace F_values_r0 := F_values_r0.other W9 (Or.inr (slot_ne (Or.inl (hw _ (List.mem_of_getElem? (i := 15) rfl))) (Or.inl (hw _ (List.mem_of_getElem? (i := 21) rfl))) (by decide) (t := (.array .int)) (t' := (.array .int)) (by decide) (by decide)))
  replace F_savedIn_r0 := F_savedIn_r0.other W9 (Or.inr (slot_ne (Or.inl (hw _ (List.mem_of_getElem? (i := 17) rfl))) (Or.inl (hw _ (List.mem_of_getElem? (i := 21) rfl))) (by decide) (t := (.array .long)) (t' := (.array .int)) (by decide) (by decide)))
  replace F_savedSlots_r0 := F_savedSlots_r0.other W9 (Or.inr (slot_ne (Or.inl (hw _ (List.mem_of_getElem? (i := 19) rfl))) (Or.inl (hw _ (List.mem_of_getElem? (i := 21) rfl))) (by decide) (t := (.array .int)) (t' := (.array .int)) (by decide) (by decide)))
  replace F_savedValues_r0 := F_savedValues_r0.same W9
  replace F_longArrays_r0 := F_longArrays_r0.other W9 (Or.inr (slot_ne (Or.inl (hw _ (List.mem_of_getElem? (i := 25) rfl))) (Or.inl (hw _ (List.mem_of_getElem? (i := 21) rfl))) (by decide) (t := (.array (.array .long))) (t' := (.array .int)) (by decide) (by decide)))
  replace F_savedLongCells_r0 := F_savedLongCells_r0.other W9 (Or.inr (slot_ne (Or.inl (hw _ (List.mem_of_getElem? (i := 27) rfl))) (Or.inl (hw _ (List.mem_of_getElem? (i := 21) rfl))) (by decide) (t := (.array .long)) (t' := (.array .int)) (by decide) (by decide)))
  replace F_savedLongValues_r0 := F_savedLongValues_r0.other W9 (Or.inr (slot_ne (Or.inl (hw _ (List.mem_of_getElem? (i := 29) rfl))) (Or.inl (hw _ (List.mem_of_getElem? (i := 21) rfl))) (by decide) (t := (.array .long)) (t' := (.array .int)) (by decide) (by decide)))
  replace F_levelStarts_r0 := F_levelStarts_r0.other W9 (Or.inr (slot_ne (Or.inl (hw _ (List.mem_of_getElem? (i := 31) rfl))) (Or.inl (hw _ (List.mem_of_getElem? (i := 21) rfl))) (by decide) (t := (.array .int)) (t' := (.array .int)) (by decide) (by decide)))
  replace F_levelLongStarts_r0 := F_levelLongStarts_r0.other W9 (Or.inr (slot_ne (Or.inl (hw _ (List.mem_of_getElem? (i := 33) rfl))) (Or.inl (hw _ (List.mem_of_getElem? (i := 21) rfl))) (by decide) (t := (.array .int)) (t' := (.array .int)) (by decide) (by decide)))
  replace F_levelIds_r0 := F_levelIds_r0.other W9 (Or.inr (slot_ne (Or.inl (hw _ (List.mem_of_getElem? (i := 35) rfl))) (Or.inl (hw _ (List.mem_of_getElem? (i := 21) rfl))) (by decide) (t := (.array .long)) (t' := (.array .int)) (by decide) (by decide)))
  replace F_nextLevelId_r0 := F_nextLevelId_r0.other W9 (Or.inr (slot_ne (Or.inl (hw _ (List.mem_of_getElem? (i := 37) rfl))) (Or.inl (hw _ (List.mem_of_getElem? (i := 21) rfl))) (by decide) (t := .long) (t' := (.array .int)) (by decide) (by decide)))
  replace F_longArrayCount_r0 := F_longArrayCount_r0.other W9 (Or.inr (slot_ne (Or.inl (hw _ (List.mem_of_getElem? (i := 57) rfl))) (Or.inl (hw _ (List.mem_of_getElem? (i := 21) rfl))) (by decide) (t := .int) (t' := (.array .int)) (by decide) (by decide)))
  replace F_slotCount_r0 := F_slotCount_r0.other W9 (Or.inr (slot_ne (Or.inl (hw _ (List.mem_of_getElem? (i := 67) rfl))) (Or.inl (hw _ (List.mem_of_getElem? (i := 21) rfl))) (by decide) (t := .int) (t' := (.array .int)) (by decide) (by decide)))
  replace E_r0 := E_r0.wr W9
  replace V_b2 := V_b2.other W9 (Ne.symm ne_r0_b2)
  replace V_b4 := V_b4.other W9 (Ne.symm ne_r0_b4)
  replace V_b6 := V_b6.other W9 (Ne.symm ne_r0_b6)
  replace V_b8 := V_b8.other W9 (Ne.symm ne_r0_b8)
  replace ZZ : n0 ≤ h9.size := by rw [W9.size]; exact ZZ
  replace KK := KK.wr W9 (Or.inl (by simp))
  refine gs (fun t => XS.aloadN X9.here hx rfl (hb hby d1_38) rfl rfl) ?_
  show Go p e below s QQ 10 968 (T9.setTop (mkF m 39 #[.val (.ref r0)] [(.ref r0)]))
  refine gs (fun t => XS.bipush X9.here hx rfl (hb hby d1_39)) ?_
  show Go p e below s QQ 10 968 (T9.setTop (mkF m 41 #[.val (.ref r0)] [(.int (8 : Int32)), (.ref r0)]))
  obtain ⟨T10, h10, k10, X10, e10, E10, A10, Q10, O10, st10⟩ := newRA X9 hx hZ hown (ty := .long) (by decide) (hw _ (List.mem_of_getElem? (i := 22) rfl)) (hw _ (List.mem_of_getElem? (i := 23) rfl)) e9 (g := (mkF m 41 #[.val (.ref r0)] [(.int (8 : Int32)), (.ref r0)])) rfl (hb hby d1_41) rfl (by decide) (cap := 8) (by decide) (by decide) (by decide) (by decide) (ad := "[[J") (by decide)
  obtain ⟨b10, g10⟩ : ∃ z, z = h9.size := ⟨_, rfl⟩
  rw [← g10] at A10 st10 Q10
  have ge_b10 : n0 ≤ b10 := by rw [g10]; exact ZZ
  have sz_b10 : h0.size ≤ b10 := by rw [g10]; exact KK.1
  have ne_r0_b10 : r0 ≠ b10 := by rw [g10]; exact Nat.ne_of_lt F_values_r0.lt
  have ne_b2_b10 : b2 ≠ b10 := by rw [g10]; exact Nat.ne_of_lt V_b2.lt
  have ne_b4_b10 : b4 ≠ b10 := by rw [g10]; exact Nat.ne_of_lt V_b4.lt
  have ne_b6_b10 : b6 ≠ b10 := by rw [g10]; exact Nat.ne_of_lt V_b6.lt
  have ne_b8_b10 : b8 ≠ b10 := by rw [g10]; exact Nat.ne_of_lt V_b8.lt
  refine gs st10 ?_
  show Go p e below s QQ 10 968 (T10.setTop (mkF m 44 #[.val (.ref r0)] [(.ref b10), (.ref r0)]))
  replace F_values_r0 := F_values_r0.ext E10
  replace F_savedIn_r0 := F_savedIn_r0.ext E10
  replace F_savedSlots_r0 := F_savedSlots_r0.ext E10
  replace F_savedValues_r0 := F_savedValues_r0.ext E10
  replace F_longArrays_r0 := F_longArrays_r0.ext E10
  replace F_savedLongCells_r0 := F_savedLongCells_r0.ext E10
  replace F_savedLongValues_r0 := F_savedLongValues_r0.ext E10
  replace F_levelStarts_r0 := F_levelStarts_r0.ext E10
  replace F_levelLongStarts_r0 := F_levelLongStarts_r0.ext E10
  replace F_levelIds_r0 := F_levelIds_r0.ext E10
  replace F_nextLevelId_r0 := F_nextLevelId_r0.ext E10
  replace F_longArrayCount_r0 := F_longArrayCount_r0.ext E10
  replace F_slotCount_r0 := F_slotCount_r0.ext E10
  replace E_r0 := E_r0.ext E10
  replace V_b2 := V_b2.ext E10
  replace V_b4 := V_b4.ext E10
  replace V_b6 := V_b6.ext E10
  replace V_b8 := V_b8.ext E10
  replace ZZ := Nat.le_trans ZZ E10.1
  replace KK := KK.ext E10
  have V_b10 : Arf Z h10 b10 (.array .long) 8 (fun _ => .null) := Arf.new A10
  have TK_b10 : Tak Z h10 b10 "[J" := Tak.ofA A10 O10
  obtain ⟨T11, h11, X11, e11, W11, st11⟩ := putF X10 hx hZ hown (host := "") (Or.inl (hw _ (List.mem_of_getElem? (i := 24) rfl))) Via.refl e10 F_longArrays_r0 E_r0 (Or.inl (hw _ (List.mem_of_getElem? (i := 25) rfl))) (hw _ (List.mem_of_getElem? (i := 5) rfl)) (ty := (.array (.array .long))) (by decide) rfl rfl (g := (mkF m 44 #[.val (.ref r0)] [(.ref b10), (.ref r0)])) rfl rfl (hb hby d1_44)
  replace N0 := Fr.snoc X11 N0 ge_r0
  refine gs st11 ?_
  show Go p e below s QQ 10 968 (T11.setTop (mkF m 47 #[.val (.ref r0)] []))
  replace F_values_r0 := F_values_r0.other W11 (Or.inr (slot_ne (Or.inl (hw _ (List.mem_of_getElem? (i := 15) rfl))) (Or.inl (hw _ (List.mem_of_getElem? (i := 25) rfl))) (by decide) (t := (.array .int)) (t' := (.array (.array .long))) (by decide) (by decide)))
  replace F_savedIn_r0 := F_savedIn_r0.other W11 (Or.inr (slot_ne (Or.inl (hw _ (List.mem_of_getElem? (i := 17) rfl))) (Or.inl (hw _ (List.mem_of_getElem? (i := 25) rfl))) (by decide) (t := (.array .long)) (t' := (.array (.array .long))) (by decide) (by decide)))
  replace F_savedSlots_r0 := F_savedSlots_r0.other W11 (Or.inr (slot_ne (Or.inl (hw _ (List.mem_of_getElem? (i := 19) rfl))) (Or.inl (hw _ (List.mem_of_getElem? (i := 25) rfl))) (by decide) (t := (.array .int)) (t' := (.array (.array .long))) (by decide) (by decide)))
  replace F_savedValues_r0 := F_savedValues_r0.other W11 (Or.inr (slot_ne (Or.inl (hw _ (List.mem_of_getElem? (i := 21) rfl))) (Or.inl (hw _ (List.mem_of_getElem? (i := 25) rfl))) (by decide) (t := (.array .int)) (t' := (.array (.array .long))) (by decide) (by decide)))
  replace F_longArrays_r0 := F_longArrays_r0.same W11
  replace F_savedLongCells_r0 := F_savedLongCells_r0.other W11 (Or.inr (slot_ne (Or.inl (hw _ (List.mem_of_getElem? (i := 27) rfl))) (Or.inl (hw _ (List.mem_of_getElem? (i := 25) rfl))) (by decide) (t := (.array .long)) (t' := (.array (.array .long))) (by decide) (by decide)))
  replace F_savedLongValues_r0 := F_savedLongValues_r0.other W11 (Or.inr (slot_ne (Or.inl (hw _ (List.mem_of_getElem? (i := 29) rfl))) (Or.inl (hw _ (List.mem_of_getElem? (i := 25) rfl))) (by decide) (t := (.array .long)) (t' := (.array (.array .long))) (by decide) (by decide)))
  replace F_levelStarts_r0 := F_levelStarts_r0.other W11 (Or.inr (slot_ne (Or.inl (hw _ (List.mem_of_getElem? (i := 31) rfl))) (Or.inl (hw _ (List.mem_of_getElem? (i := 25) rfl))) (by decide) (t := (.array .int)) (t' := (.array (.array .long))) (by decide) (by decide)))
  replace F_levelLongStarts_r0 := F_levelLongStarts_r0.other W11 (Or.inr (slot_ne (Or.inl (hw _ (List.mem_of_getElem? (i := 33) rfl))) (Or.inl (hw _ (List.mem_of_getElem? (i := 25) rfl))) (by decide) (t := (.array .int)) (t' := (.array (.array .long))) (by decide) (by decide)))
  replace F_levelIds_r0 := F_levelIds_r0.other W11 (Or.inr (slot_ne (Or.inl (hw _ (List.mem_of_getElem? (i := 35) rfl))) (Or.inl (hw _ (List.mem_of_getElem? (i := 25) rfl))) (by decide) (t := (.array .long)) (t' := (.array (.array .long))) (by decide) (by decide)))
  replace F_nextLevelId_r0 := F_nextLevelId_r0.other W11 (Or.inr (slot_ne (Or.inl (hw _ (List.mem_of_getElem? (i := 37) rfl))) (Or.inl (hw _ (List.mem_of_getElem? (i := 25) rfl))) (by decide) (t := .long) (t' := (.array (.array .long))) (by decide) (by decide)))
  replace F_longArrayCount_r0 := F_longArrayCount_r0.other W11 (Or.inr (slot_ne (Or.inl (hw _ (List.mem_of_getElem? (i := 57) rfl))) (Or.inl (hw _ (List.mem_of_getElem? (i := 25) rfl))) (by decide) (t := .int) (t' := (.array (.array .long))) (by decide) (by decide)))
  replace F_slotCount_r0 := F_slotCount_r0.other W11 (Or.inr (slot_ne (Or.inl (hw _ (List.mem_of_getElem? (i := 67) rfl))) (Or.inl (hw _ (List.mem_of_getElem? (i := 25) rfl))) (by decide) (t := .int) (t' := (.array (.array .long))) (by decide) (by decide)))
  replace E_r0 := E_r0.wr W11
  replace V_b2 := V_b2.other W11 (Ne.symm ne_r0_b2)
  replace V_b4 := V_b4.other W11 (Ne.symm ne_r0_b4)
  replace V_b6 := V_b6.other W11 (Ne.symm ne_r0_b6)
  replace V_b8 := V_b8.other W11 (Ne.symm ne_r0_b8)
  replace V_b10 := V_b10.other W11 (Ne.symm ne_r0_b10)
  replace TK_b10 := TK_b10.wr W11
  replace ZZ : n0 ≤ h11.size := by rw [W11.size]; exact ZZ
  replace KK := KK.wr W11 (Or.inl (by simp))
  refine gs (fun t => XS.aloadN X11.here hx rfl (hb hby d1_47) rfl rfl) ?_
  show Go p e below s QQ 10 968 (T11.setTop (mkF m 48 #[.val (.ref r0)] [(.ref r0)]))
  refine gs (fun t => XS.bipush X11.here hx rfl (hb hby d1_48)) ?_
  show Go p e below s QQ 10 968 (T11.setTop (mkF m 50 #[.val (.ref r0)] [(.int (64 : Int32)), (.ref r0)]))
  obtain ⟨T12, h12, k12, X12, e12, E12, A12, st12⟩ := newP X11 hx hZ (hw _ (List.mem_of_getElem? (i := 0) rfl)) e11 (g := (mkF m 50 #[.val (.ref r0)] [(.int (64 : Int32)), (.ref r0)])) rfl (hb hby d1_50) rfl (by decide) (cap := 64) (by decide) (by decide) (by decide) (by decide)
  obtain ⟨b12, g12⟩ : ∃ z, z = h11.size := ⟨_, rfl⟩
  rw [← g12] at A12 st12
  have ge_b12 : n0 ≤ b12 := by rw [g12]; exact ZZ
  have sz_b12 : h0.size ≤ b12 := by rw [g12]; exact KK.1
  have ne_r0_b12 : r0 ≠ b12 := by rw [g12]; exact Nat.ne_of_lt F_values_r0.lt
  have ne_b2_b12 : b2 ≠ b12 := by rw [g12]; exact Nat.ne_of_lt V_b2.lt
  have ne_b4_b12 : b4 ≠ b12 := by rw [g12]; exact Nat.ne_of_lt V_b4.lt
  have ne_b6_b12 : b6 ≠ b12 := by rw [g12]; exact Nat.ne_of_lt V_b6.lt
  have ne_b8_b12 : b8 ≠ b12 := by rw [g12]; exact Nat.ne_of_lt V_b8.lt
  have ne_b10_b12 : b10 ≠ b12 := by rw [g12]; exact Nat.ne_of_lt V_b10.lt
  refine gs st12 ?_
  show Go p e below s QQ 10 968 (T12.setTop (mkF m 52 #[.val (.ref r0)] [(.ref b12), (.ref r0)]))
  replace F_values_r0 := F_values_r0.ext E12
  replace F_savedIn_r0 := F_savedIn_r0.ext E12
  replace F_savedSlots_r0 := F_savedSlots_r0.ext E12
  replace F_savedValues_r0 := F_savedValues_r0.ext E12
  replace F_longArrays_r0 := F_longArrays_r0.ext E12
  replace F_savedLongCells_r0 := F_savedLongCells_r0.ext E12
  replace F_savedLongValues_r0 := F_savedLongValues_r0.ext E12
  replace F_levelStarts_r0 := F_levelStarts_r0.ext E12
  replace F_levelLongStarts_r0 := F_levelLongStarts_r0.ext E12
  replace F_levelIds_r0 := F_levelIds_r0.ext E12
  replace F_nextLevelId_r0 := F_nextLevelId_r0.ext E12
  replace F_longArrayCount_r0 := F_longArrayCount_r0.ext E12
  replace F_slotCount_r0 := F_slotCount_r0.ext E12
  replace E_r0 := E_r0.ext E12
  replace V_b2 := V_b2.ext E12
  replace V_b4 := V_b4.ext E12
  replace V_b6 := V_b6.ext E12
  replace V_b8 := V_b8.ext E12
  replace V_b10 := V_b10.ext E12
  replace TK_b10 := TK_b10.ext E12
  replace ZZ := Nat.le_trans ZZ E12.1
  replace KK := KK.ext E12
  have V_b12 : Arf Z h12 b12 .long 64 (fun _ => .long 0) := Arf.new A12
  obtain ⟨T13, h13, X13, e13, W13, st13⟩ := putF X12 hx hZ hown (host := "") (Or.inl (hw _ (List.mem_of_getElem? (i := 26) rfl))) Via.refl e12 F_savedLongCells_r0 E_r0 (Or.inl (hw _ (List.mem_of_getElem? (i := 27) rfl))) (hw _ (List.mem_of_getElem? (i := 5) rfl)) (ty := (.array .long)) (by decide) rfl rfl (g := (mkF m 52 #[.val (.ref r0)] [(.ref b12), (.ref r0)])) rfl rfl (hb hby d1_52)
  replace N0 := Fr.snoc X13 N0 ge_r0
  refine gs st13 ?_
  show Go p e below s QQ 10 968 (T13.setTop (mkF m 55 #[.val (.ref r0)] []))
  replace F_values_r0 := F_values_r0.other W13 (Or.inr (slot_ne (Or.inl (hw _ (List.mem_of_getElem? (i := 15) rfl))) (Or.inl (hw _ (List.mem_of_getElem? (i := 27) rfl))) (by decide) (t := (.array .int)) (t' := (.array .long)) (by decide) (by decide)))
  replace F_savedIn_r0 := F_savedIn_r0.other W13 (Or.inr (slot_ne (Or.inl (hw _ (List.mem_of_getElem? (i := 17) rfl))) (Or.inl (hw _ (List.mem_of_getElem? (i := 27) rfl))) (by decide) (t := (.array .long)) (t' := (.array .long)) (by decide) (by decide)))
  replace F_savedSlots_r0 := F_savedSlots_r0.other W13 (Or.inr (slot_ne (Or.inl (hw _ (List.mem_of_getElem? (i := 19) rfl))) (Or.inl (hw _ (List.mem_of_getElem? (i := 27) rfl))) (by decide) (t := (.array .int)) (t' := (.array .long)) (by decide) (by decide)))
  replace F_savedValues_r0 := F_savedValues_r0.other W13 (Or.inr (slot_ne (Or.inl (hw _ (List.mem_of_getElem? (i := 21) rfl))) (Or.inl (hw _ (List.mem_of_getElem? (i := 27) rfl))) (by decide) (t := (.array .int)) (t' := (.array .long)) (by decide) (by decide)))
  replace F_longArrays_r0 := F_longArrays_r0.other W13 (Or.inr (slot_ne (Or.inl (hw _ (List.mem_of_getElem? (i := 25) rfl))) (Or.inl (hw _ (List.mem_of_getElem? (i := 27) rfl))) (by decide) (t := (.array (.array .long))) (t' := (.array .long)) (by decide) (by decide)))
  replace F_savedLongCells_r0 := F_savedLongCells_r0.same W13
  replace F_savedLongValues_r0 := F_savedLongValues_r0.other W13 (Or.inr (slot_ne (Or.inl (hw _ (List.mem_of_getElem? (i := 29) rfl))) (Or.inl (hw _ (List.mem_of_getElem? (i := 27) rfl))) (by decide) (t := (.array .long)) (t' := (.array .long)) (by decide) (by decide)))
  replace F_levelStarts_r0 := F_levelStarts_r0.other W13 (Or.inr (slot_ne (Or.inl (hw _ (List.mem_of_getElem? (i := 31) rfl))) (Or.inl (hw _ (List.mem_of_getElem? (i := 27) rfl))) (by decide) (t := (.array .int)) (t' := (.array .long)) (by decide) (by decide)))
  replace F_levelLongStarts_r0 := F_levelLongStarts_r0.other W13 (Or.inr (slot_ne (Or.inl (hw _ (List.mem_of_getElem? (i := 33) rfl))) (Or.inl (hw _ (List.mem_of_getElem? (i := 27) rfl))) (by decide) (t := (.array .int)) (t' := (.array .long)) (by decide) (by decide)))
  replace F_levelIds_r0 := F_levelIds_r0.other W13 (Or.inr (slot_ne (Or.inl (hw _ (List.mem_of_getElem? (i := 35) rfl))) (Or.inl (hw _ (List.mem_of_getElem? (i := 27) rfl))) (by decide) (t := (.array .long)) (t' := (.array .long)) (by decide) (by decide)))
  replace F_nextLevelId_r0 := F_nextLevelId_r0.other W13 (Or.inr (slot_ne (Or.inl (hw _ (List.mem_of_getElem? (i := 37) rfl))) (Or.inl (hw _ (List.mem_of_getElem? (i := 27) rfl))) (by decide) (t := .long) (t' := (.array .long)) (by decide) (by decide)))
  replace F_longArrayCount_r0 := F_longArrayCount_r0.other W13 (Or.inr (slot_ne (Or.inl (hw _ (List.mem_of_getElem? (i := 57) rfl))) (Or.inl (hw _ (List.mem_of_getElem? (i := 27) rfl))) (by decide) (t := .int) (t' := (.array .long)) (by decide) (by decide)))
  replace F_slotCount_r0 := F_slotCount_r0.other W13 (Or.inr (slot_ne (Or.inl (hw _ (List.mem_of_getElem? (i := 67) rfl))) (Or.inl (hw _ (List.mem_of_getElem? (i := 27) rfl))) (by decide) (t := .int) (t' := (.array .long)) (by decide) (by decide)))
  replace E_r0 := E_r0.wr W13
  replace V_b2 := V_b2.other W13 (Ne.symm ne_r0_b2)
  replace V_b4 := V_b4.other W13 (Ne.symm ne_r0_b4)
  replace V_b6 := V_b6.other W13 (Ne.symm ne_r0_b6)
  replace V_b8 := V_b8.other W13 (Ne.symm ne_r0_b8)
  replace V_b10 := V_b10.other W13 (Ne.symm ne_r0_b10)
  replace TK_b10 := TK_b10.wr W13
  replace V_b12 := V_b12.other W13 (Ne.symm ne_r0_b12)
  replace ZZ : n0 ≤ h13.size := by rw [W13.size]; exact ZZ
  replace KK := KK.wr W13 (Or.inl (by simp))
  refine gs (fun t => XS.aloadN X13.here hx rfl (hb hby d1_55) rfl rfl) ?_
  show Go p e below s QQ 10 968 (T13.setTop (mkF m 56 #[.val (.ref r0)] [(.ref r0)]))
  refine gs (fun t => XS.bipush X13.here hx rfl (hb hby d1_56)) ?_
  show Go p e below s QQ 10 968 (T13.setTop (mkF m 58 #[.val (.ref r0)] [(.int (64 : Int32)), (.ref r0)]))
  obtain ⟨T14, h14, k14, X14, e14, E14, A14, st14⟩ := newP X13 hx hZ (hw _ (List.mem_of_getElem? (i := 0) rfl)) e13 (g := (mkF m 58 #[.val (.ref r0)] [(.int (64 : Int32)), (.ref r0)])) rfl (hb hby d1_58) rfl (by decide) (cap := 64) (by decide) (by decide) (by decide) (by decide)
  obtain ⟨b14, g14⟩ : ∃ z, z = h13.size := ⟨_, rfl⟩
  rw [← g14] at A14 st14
  have ge_b14 : n0 ≤ b14 := by rw [g14]; exact ZZ
  have sz_b14 : h0.size ≤ b14 := by rw [g14]; exact KK.1
  have ne_r0_b14 : r0 ≠ b14 := by rw [g14]; exact Nat.ne_of_lt F_values_r0.lt
  have ne_b2_b14 : b2 ≠ b14 := by rw [g14]; exact Nat.ne_of_lt V_b2.lt
  have ne_b4_b14 : b4 ≠ b14 := by rw [g14]; exact Nat.ne_of_lt V_b4.lt
  have ne_b6_b14 : b6 ≠ b14 := by rw [g14]; exact Nat.ne_of_lt V_b6.lt
  have ne_b8_b14 : b8 ≠ b14 := by rw [g14]; exact Nat.ne_of_lt V_b8.lt
  have ne_b10_b14 : b10 ≠ b14 := by rw [g14]; exact Nat.ne_of_lt V_b10.lt
  have ne_b12_b14 : b12 ≠ b14 := by rw [g14]; exact Nat.ne_of_lt V_b12.lt
  refine gs st14 ?_
  show Go p e below s QQ 10 968 (T14.setTop (mkF m 60 #[.val (.ref r0)] [(.ref b14), (.ref r0)]))
  replace F_values_r0 := F_values_r0.ext E14
  replace F_savedIn_r0 := F_savedIn_r0.ext E14
  replace F_savedSlots_r0 := F_savedSlots_r0.ext E14
  replace F_savedValues_r0 := F_savedValues_r0.ext E14
  replace F_longArrays_r0 := F_longArrays_r0.ext E14
  replace F_savedLongCells_r0 := F_savedLongCells_r0.ext E14
  replace F_savedLongValues_r0 := F_savedLongValues_r0.ext E14
  replace F_levelStarts_r0 := F_levelStarts_r0.ext E14
  replace F_levelLongStarts_r0 := F_levelLongStarts_r0.ext E14
  replace F_levelIds_r0 := F_levelIds_r0.ext E14
  replace F_nextLevelId_r0 := F_nextLevelId_r0.ext E14
  replace F_longArrayCount_r0 := F_longArrayCount_r0.ext E14
  replace F_slotCount_r0 := F_slotCount_r0.ext E14
  replace E_r0 := E_r0.ext E14
  replace V_b2 := V_b2.ext E14
  replace V_b4 := V_b4.ext E14
  replace V_b6 := V_b6.ext E14
  replace V_b8 := V_b8.ext E14
  replace V_b10 := V_b10.ext E14
  replace TK_b10 := TK_b10.ext E14
  replace V_b12 := V_b12.ext E14
  replace ZZ := Nat.le_trans ZZ E14.1
  replace KK := KK.ext E14
  have V_b14 : Arf Z h14 b14 .long 64 (fun _ => .long 0) := Arf.new A14
  obtain ⟨T15, h15, X15, e15, W15, st15⟩ := putF X14 hx hZ hown (host := "") (Or.inl (hw _ (List.mem_of_getElem? (i := 28) rfl))) Via.refl e14 F_savedLongValues_r0 E_r0 (Or.inl (hw _ (List.mem_of_getElem? (i := 29) rfl))) (hw _ (List.mem_of_getElem? (i := 5) rfl)) (ty := (.array .long)) (by decide) rfl rfl (g := (mkF m 60 #[.val (.ref r0)] [(.ref b14), (.ref r0)])) rfl rfl (hb hby d1_60)
  replace N0 := Fr.snoc X15 N0 ge_r0
  refine gs st15 ?_
  show Go p e below s QQ 10 968 (T15.setTop (mkF m 63 #[.val (.ref r0)] []))
  replace F_values_r0 := F_values_r0.other W15 (Or.inr (slot_ne (Or.inl (hw _ (List.mem_of_getElem? (i := 15) rfl))) (Or.inl (hw _ (List.mem_of_getElem? (i := 29) rfl))) (by decide) (t := (.array .int)) (t' := (.array .long)) (by decide) (by decide)))
  replace F_savedIn_r0 := F_savedIn_r0.other W15 (Or.inr (slot_ne (Or.inl (hw _ (List.mem_of_getElem? (i := 17) rfl))) (Or.inl (hw _ (List.mem_of_getElem? (i := 29) rfl))) (by decide) (t := (.array .long)) (t' := (.array .long)) (by decide) (by decide)))
  replace F_savedSlots_r0 := F_savedSlots_r0.other W15 (Or.inr (slot_ne (Or.inl (hw _ (List.mem_of_getElem? (i := 19) rfl))) (Or.inl (hw _ (List.mem_of_getElem? (i := 29) rfl))) (by decide) (t := (.array .int)) (t' := (.array .long)) (by decide) (by decide)))
  replace F_savedValues_r0 := F_savedValues_r0.other W15 (Or.inr (slot_ne (Or.inl (hw _ (List.mem_of_getElem? (i := 21) rfl))) (Or.inl (hw _ (List.mem_of_getElem? (i := 29) rfl))) (by decide) (t := (.array .int)) (t' := (.array .long)) (by decide) (by decide)))
  replace F_longArrays_r0 := F_longArrays_r0.other W15 (Or.inr (slot_ne (Or.inl (hw _ (List.mem_of_getElem? (i := 25) rfl))) (Or.inl (hw _ (List.mem_of_getElem? (i := 29) rfl))) (by decide) (t := (.array (.array .long))) (t' := (.array .long)) (by decide) (by decide)))
  replace F_savedLongCells_r0 := F_savedLongCells_r0.other W15 (Or.inr (slot_ne (Or.inl (hw _ (List.mem_of_getElem? (i := 27) rfl))) (Or.inl (hw _ (List.mem_of_getElem? (i := 29) rfl))) (by decide) (t := (.array .long)) (t' := (.array .long)) (by decide) (by decide)))
  replace F_savedLongValues_r0 := F_savedLongValues_r0.same W15
  replace F_levelStarts_r0 := F_levelStarts_r0.other W15 (Or.inr (slot_ne (Or.inl (hw _ (List.mem_of_getElem? (i := 31) rfl))) (Or.inl (hw _ (List.mem_of_getElem? (i := 29) rfl))) (by decide) (t := (.array .int)) (t' := (.array .long)) (by decide) (by decide)))
  replace F_levelLongStarts_r0 := F_levelLongStarts_r0.other W15 (Or.inr (slot_ne (Or.inl (hw _ (List.mem_of_getElem? (i := 33) rfl))) (Or.inl (hw _ (List.mem_of_getElem? (i := 29) rfl))) (by decide) (t := (.array .int)) (t' := (.array .long)) (by decide) (by decide)))
  replace F_levelIds_r0 := F_levelIds_r0.other W15 (Or.inr (slot_ne (Or.inl (hw _ (List.mem_of_getElem? (i := 35) rfl))) (Or.inl (hw _ (List.mem_of_getElem? (i := 29) rfl))) (by decide) (t := (.array .long)) (t' := (.array .long)) (by decide) (by decide)))
  replace F_nextLevelId_r0 := F_nextLevelId_r0.other W15 (Or.inr (slot_ne (Or.inl (hw _ (List.mem_of_getElem? (i := 37) rfl))) (Or.inl (hw _ (List.mem_of_getElem? (i := 29) rfl))) (by decide) (t := .long) (t' := (.array .long)) (by decide) (by decide)))
  replace F_longArrayCount_r0 := F_longArrayCount_r0.other W15 (Or.inr (slot_ne (Or.inl (hw _ (List.mem_of_getElem? (i := 57) rfl))) (Or.inl (hw _ (List.mem_of_getElem? (i := 29) rfl))) (by decide) (t := .int) (t' := (.array .long)) (by decide) (by decide)))
  replace F_slotCount_r0 := F_slotCount_r0.other W15 (Or.inr (slot_ne (Or.inl (hw _ (List.mem_of_getElem? (i := 67) rfl))) (Or.inl (hw _ (List.mem_of_getElem? (i := 29) rfl))) (by decide) (t := .int) (t' := (.array .long)) (by decide) (by decide)))
  replace E_r0 := E_r0.wr W15
  replace V_b2 := V_b2.other W15 (Ne.symm ne_r0_b2)
  replace V_b4 := V_b4.other W15 (Ne.symm ne_r0_b4)
  replace V_b6 := V_b6.other W15 (Ne.symm ne_r0_b6)
  replace V_b8 := V_b8.other W15 (Ne.symm ne_r0_b8)
  replace V_b10 := V_b10.other W15 (Ne.symm ne_r0_b10)
  replace TK_b10 := TK_b10.wr W15
  replace V_b12 := V_b12.other W15 (Ne.symm ne_r0_b12)
  replace V_b14 := V_b14.other W15 (Ne.symm ne_r0_b14)
  replace ZZ : n0 ≤ h15.size := by rw [W15.size]; exact ZZ
  replace KK := KK.wr W15 (Or.inl (by simp))
  refine gs (fun t => XS.aloadN X15.here hx rfl (hb hby d1_63) rfl rfl) ?_
  show Go p e below s QQ 10 968 (T15.setTop (mkF m 64 #[.val (.ref r0)] [(.ref r0)]))
  refine gs (fun t => XS.bipush X15.here hx rfl (hb hby d1_64)) ?_
  show Go p e below s QQ 10 968 (T15.setTop (mkF m 66 #[.val (.ref r0)] [(.int (64 : Int32)), (.ref r0)]))
  obtain ⟨T16, h16, k16, X16, e16, E16, A16, st16⟩ := newP X15 hx hZ (hw _ (List.mem_of_getElem? (i := 13) rfl)) e15 (g := (mkF m 66 #[.val (.ref r0)] [(.int (64 : Int32)), (.ref r0)])) rfl (hb hby d1_66) rfl (by decide) (cap := 64) (by decide) (by decide) (by decide) (by decide)
  obtain ⟨b16, g16⟩ : ∃ z, z = h15.size := ⟨_, rfl⟩
  rw [← g16] at A16 st16
  have ge_b16 : n0 ≤ b16 := by rw [g16]; exact ZZ
  have sz_b16 : h0.size ≤ b16 := by rw [g16]; exact KK.1
  have ne_r0_b16 : r0 ≠ b16 := by rw [g16]; exact Nat.ne_of_lt F_values_r0.lt
  have ne_b2_b16 : b2 ≠ b16 := by rw [g16]; exact Nat.ne_of_lt V_b2.lt
  have ne_b4_b16 : b4 ≠ b16 := by rw [g16]; exact Nat.ne_of_lt V_b4.lt
  have ne_b6_b16 : b6 ≠ b16 := by rw [g16]; exact Nat.ne_of_lt V_b6.lt
  have ne_b8_b16 : b8 ≠ b16 := by rw [g16]; exact Nat.ne_of_lt V_b8.lt
  have ne_b10_b16 : b10 ≠ b16 := by rw [g16]; exact Nat.ne_of_lt V_b10.lt
  have ne_b12_b16 : b12 ≠ b16 := by rw [g16]; exact Nat.ne_of_lt V_b12.lt
  have ne_b14_b16 : b14 ≠ b16 := by rw [g16]; exact Nat.ne_of_lt V_b14.lt
  refine gs st16 ?_
  show Go p e below s QQ 10 968 (T16.setTop (mkF m 68 #[.val (.ref r0)] [(.ref b16), (.ref r0)]))
  replace F_values_r0 := F_values_r0.ext E16
  replace F_savedIn_r0 := F_savedIn_r0.ext E16
  replace F_savedSlots_r0 := F_savedSlots_r0.ext E16
  replace F_savedValues_r0 := F_savedValues_r0.ext E16
  replace F_longArrays_r0 := F_longArrays_r0.ext E16
  replace F_savedLongCells_r0 := F_savedLongCells_r0.ext E16
  replace F_savedLongValues_r0 := F_savedLongValues_r0.ext E16
  replace F_levelStarts_r0 := F_levelStarts_r0.ext E16
  replace F_levelLongStarts_r0 := F_levelLongStarts_r0.ext E16
  replace F_levelIds_r0 := F_levelIds_r0.ext E16
  replace F_nextLevelId_r0 := F_nextLevelId_r0.ext E16
  replace F_longArrayCount_r0 := F_longArrayCount_r0.ext E16
  replace F_slotCount_r0 := F_slotCount_r0.ext E16
  replace E_r0 := E_r0.ext E16
  replace V_b2 := V_b2.ext E16
  replace V_b4 := V_b4.ext E16
  replace V_b6 := V_b6.ext E16
  replace V_b8 := V_b8.ext E16
  replace V_b10 := V_b10.ext E16
  replace TK_b10 := TK_b10.ext E16
  replace V_b12 := V_b12.ext E16
  replace V_b14 := V_b14.ext E16
  replace ZZ := Nat.le_trans ZZ E16.1
  replace KK := KK.ext E16
  have V_b16 : Arf Z h16 b16 .int 64 (fun _ => .int 0) := Arf.new A16
  obtain ⟨T17, h17, X17, e17, W17, st17⟩ := putF X16 hx hZ hown (host := "") (Or.inl (hw _ (List.mem_of_getElem? (i := 30) rfl))) Via.refl e16 F_levelStarts_r0 E_r0 (Or.inl (hw _ (List.mem_of_getElem? (i := 31) rfl))) (hw _ (List.mem_of_getElem? (i := 5) rfl)) (ty := (.array .int)) (by decide) rfl rfl (g := (mkF m 68 #[.val (.ref r0)] [(.ref b16), (.ref r0)])) rfl rfl (hb hby d1_68)
  replace N0 := Fr.snoc X17 N0 ge_r0
  refine gs st17 ?_
  show Go p e below s QQ 10 968 (T17.setTop (mkF m 71 #[.val (.ref r0)] []))
  replace F_values_r0 := F_values_r0.other W17 (Or.inr (slot_ne (Or.inl (hw _ (List.mem_of_getElem? (i := 15) rfl))) (Or.inl (hw _ (List.mem_of_getElem? (i := 31) rfl))) (by decide) (t := (.array .int)) (t' := (.array .int)) (by decide) (by decide)))
  replace F_savedIn_r0 := F_savedIn_r0.other W17 (Or.inr (slot_ne (Or.inl (hw _ (List.mem_of_getElem? (i := 17) rfl))) (Or.inl (hw _ (List.mem_of_getElem? (i := 31) rfl))) (by decide) (t := (.array .long)) (t' := (.array .int)) (by decide) (by decide)))
  replace F_savedSlots_r0 := F_savedSlots_r0.other W17 (Or.inr (slot_ne (Or.inl (hw _ (List.mem_of_getElem? (i := 19) rfl))) (Or.inl (hw _ (List.mem_of_getElem? (i := 31) rfl))) (by decide) (t := (.array .int)) (t' := (.array .int)) (by decide) (by decide)))
  replace F_savedValues_r0 := F_savedValues_r0.other W17 (Or.inr (slot_ne (Or.inl (hw _ (List.mem_of_getElem? (i := 21) rfl))) (Or.inl (hw _ (List.mem_of_getElem? (i := 31) rfl))) (by decide) (t := (.array .int)) (t' := (.array .int)) (by decide) (by decide)))
  replace F_longArrays_r0 := F_longArrays_r0.other W17 (Or.inr (slot_ne (Or.inl (hw _ (List.mem_of_getElem? (i := 25) rfl))) (Or.inl (hw _ (List.mem_of_getElem? (i := 31) rfl))) (by decide) (t := (.array (.array .long))) (t' := (.array .int)) (by decide) (by decide)))
  replace F_savedLongCells_r0 := F_savedLongCells_r0.other W17 (Or.inr (slot_ne (Or.inl (hw _ (List.mem_of_getElem? (i := 27) rfl))) (Or.inl (hw _ (List.mem_of_getElem? (i := 31) rfl))) (by decide) (t := (.array .long)) (t' := (.array .int)) (by decide) (by decide)))
  replace F_savedLongValues_r0 := F_savedLongValues_r0.other W17 (Or.inr (slot_ne (Or.inl (hw _ (List.mem_of_getElem? (i := 29) rfl))) (Or.inl (hw _ (List.mem_of_getElem? (i := 31) rfl))) (by decide) (t := (.array .long)) (t' := (.array .int)) (by decide) (by decide)))
  replace F_levelStarts_r0 := F_levelStarts_r0.same W17
  replace F_levelLongStarts_r0 := F_levelLongStarts_r0.other W17 (Or.inr (slot_ne (Or.inl (hw _ (List.mem_of_getElem? (i := 33) rfl))) (Or.inl (hw _ (List.mem_of_getElem? (i := 31) rfl))) (by decide) (t := (.array .int)) (t' := (.array .int)) (by decide) (by decide)))
  replace F_levelIds_r0 := F_levelIds_r0.other W17 (Or.inr (slot_ne (Or.inl (hw _ (List.mem_of_getElem? (i := 35) rfl))) (Or.inl (hw _ (List.mem_of_getElem? (i := 31) rfl))) (by decide) (t := (.array .long)) (t' := (.array .int)) (by decide) (by decide)))
  replace F_nextLevelId_r0 := F_nextLevelId_r0.other W17 (Or.inr (slot_ne (Or.inl (hw _ (List.mem_of_getElem? (i := 37) rfl))) (Or.inl (hw _ (List.mem_of_getElem? (i := 31) rfl))) (by decide) (t := .long) (t' := (.array .int)) (by decide) (by decide)))
  replace F_longArrayCount_r0 := F_longArrayCount_r0.other W17 (Or.inr (slot_ne (Or.inl (hw _ (List.mem_of_getElem? (i := 57) rfl))) (Or.inl (hw _ (List.mem_of_getElem? (i := 31) rfl))) (by decide) (t := .int) (t' := (.array .int)) (by decide) (by decide)))
  replace F_slotCount_r0 := F_slotCount_r0.other W17 (Or.inr (slot_ne (Or.inl (hw _ (List.mem_of_getElem? (i := 67) rfl))) (Or.inl (hw _ (List.mem_of_getElem? (i := 31) rfl))) (by decide) (t := .int) (t' := (.array .int)) (by decide) (by decide)))
  replace E_r0 := E_r0.wr W17
  replace V_b2 := V_b2.other W17 (Ne.symm ne_r0_b2)
  replace V_b4 := V_b4.other W17 (Ne.symm ne_r0_b4)
  replace V_b6 := V_b6.other W17 (Ne.symm ne_r0_b6)
  replace V_b8 := V_b8.other W17 (Ne.symm ne_r0_b8)
  replace V_b10 := V_b10.other W17 (Ne.symm ne_r0_b10)
  replace TK_b10 := TK_b10.wr W17
  replace V_b12 := V_b12.other W17 (Ne.symm ne_r0_b12)
  replace V_b14 := V_b14.other W17 (Ne.symm ne_r0_b14)
  replace V_b16 := V_b16.other W17 (Ne.symm ne_r0_b16)
  replace ZZ : n0 ≤ h17.size := by rw [W17.size]; exact ZZ
  replace KK := KK.wr W17 (Or.inl (by simp))
  refine gs (fun t => XS.aloadN X17.here hx rfl (hb hby d1_71) rfl rfl) ?_
  show Go p e below s QQ 10 968 (T17.setTop (mkF m 72 #[.val (.ref r0)] [(.ref r0)]))
  refine gs (fun t => XS.bipush X17.here hx rfl (hb hby d1_72)) ?_
  show Go p e below s QQ 10 968 (T17.setTop (mkF m 74 #[.val (.ref r0)] [(.int (64 : Int32)), (.ref r0)]))
  obtain ⟨T18, h18, k18, X18, e18, E18, A18, st18⟩ := newP X17 hx hZ (hw _ (List.mem_of_getElem? (i := 13) rfl)) e17 (g := (mkF m 74 #[.val (.ref r0)] [(.int (64 : Int32)), (.ref r0)])) rfl (hb hby d1_74) rfl (by decide) (cap := 64) (by decide) (by decide) (by decide) (by decide)
  obtain ⟨b18, g18⟩ : ∃ z, z = h17.size := ⟨_, rfl⟩
  rw [← g18] at A18 st18
  have ge_b18 : n0 ≤ b18 := by rw [g18]; exact ZZ
  have sz_b18 : h0.size ≤ b18 := by rw [g18]; exact KK.1
  have ne_r0_b18 : r0 ≠ b18 := by rw [g18]; exact Nat.ne_of_lt F_values_r0.lt
  have ne_b2_b18 : b2 ≠ b18 := by rw [g18]; exact Nat.ne_of_lt V_b2.lt
  have ne_b4_b18 : b4 ≠ b18 := by rw [g18]; exact Nat.ne_of_lt V_b4.lt
  have ne_b6_b18 : b6 ≠ b18 := by rw [g18]; exact Nat.ne_of_lt V_b6.lt
  have ne_b8_b18 : b8 ≠ b18 := by rw [g18]; exact Nat.ne_of_lt V_b8.lt
  have ne_b10_b18 : b10 ≠ b18 := by rw [g18]; exact Nat.ne_of_lt V_b10.lt
  have ne_b12_b18 : b12 ≠ b18 := by rw [g18]; exact Nat.ne_of_lt V_b12.lt
  have ne_b14_b18 : b14 ≠ b18 := by rw [g18]; exact Nat.ne_of_lt V_b14.lt
  have ne_b16_b18 : b16 ≠ b18 := by rw [g18]; exact Nat.ne_of_lt V_b16.lt
  refine gs st18 ?_
  show Go p e below s QQ 10 968 (T18.setTop (mkF m 76 #[.val (.ref r0)] [(.ref b18), (.ref r0)]))
  replace F_values_r0 := F_values_r0.ext E18
  replace F_savedIn_r0 := F_savedIn_r0.ext E18
  replace F_savedSlots_r0 := F_savedSlots_r0.ext E18
  replace F_savedValues_r0 := F_savedValues_r0.ext E18
  replace F_longArrays_r0 := F_longArrays_r0.ext E18
  replace F_savedLongCells_r0 := F_savedLongCells_r0.ext E18
  replace F_savedLongValues_r0 := F_savedLongValues_r0.ext E18
  replace F_levelStarts_r0 := F_levelStarts_r0.ext E18
  replace F_levelLongStarts_r0 := F_levelLongStarts_r0.ext E18
  replace F_levelIds_r0 := F_levelIds_r0.ext E18
  replace F_nextLevelId_r0 := F_nextLevelId_r0.ext E18
  replace F_longArrayCount_r0 := F_longArrayCount_r0.ext E18
  replace F_slotCount_r0 := F_slotCount_r0.ext E18
  replace E_r0 := E_r0.ext E18
  replace V_b2 := V_b2.ext E18
  replace V_b4 := V_b4.ext E18
  replace V_b6 := V_b6.ext E18
  replace V_b8 := V_b8.ext E18
  replace V_b10 := V_b10.ext E18
  replace TK_b10 := TK_b10.ext E18
  replace V_b12 := V_b12.ext E18
  replace V_b14 := V_b14.ext E18
  replace V_b16 := V_b16.ext E18
  replace ZZ := Nat.le_trans ZZ E18.1
  replace KK := KK.ext E18
  have V_b18 : Arf Z h18 b18 .int 64 (fun _ => .int 0) := Arf.new A18
  obtain ⟨T19, h19, X19, e19, W19, st19⟩ := putF X18 hx hZ hown (host := "") (Or.inl (hw _ (List.mem_of_getElem? (i := 32) rfl))) Via.refl e18 F_levelLongStarts_r0 E_r0 (Or.inl (hw _ (List.mem_of_getElem? (i := 33) rfl))) (hw _ (List.mem_of_getElem? (i := 5) rfl)) (ty := (.array .int)) (by decide) rfl rfl (g := (mkF m 76 #[.val (.ref r0)] [(.ref b18), (.ref r0)])) rfl rfl (hb hby d1_76)
  replace N0 := Fr.snoc X19 N0 ge_r0
  refine gs st19 ?_
  show Go p e below s QQ 10 968 (T19.setTop (mkF m 79 #[.val (.ref r0)] []))
  replace F_values_r0 := F_values_r0.other W19 (Or.inr (slot_ne (Or.inl (hw _ (List.mem_of_getElem? (i := 15) rfl))) (Or.inl (hw _ (List.mem_of_getElem? (i := 33) rfl))) (by decide) (t := (.array .int)) (t' := (.array .int)) (by decide) (by decide)))
  replace F_savedIn_r0 := F_savedIn_r0.other W19 (Or.inr (slot_ne (Or.inl (hw _ (List.mem_of_getElem? (i := 17) rfl))) (Or.inl (hw _ (List.mem_of_getElem? (i := 33) rfl))) (by decide) (t := (.array .long)) (t' := (.array .int)) (by decide) (by decide)))
  replace F_savedSlots_r0 := F_savedSlots_r0.other W19 (Or.inr (slot_ne (Or.inl (hw _ (List.mem_of_getElem? (i := 19) rfl))) (Or.inl (hw _ (List.mem_of_getElem? (i := 33) rfl))) (by decide) (t := (.array .int)) (t' := (.array .int)) (by decide) (by decide)))
  replace F_savedValues_r0 := F_savedValues_r0.other W19 (Or.inr (slot_ne (Or.inl (hw _ (List.mem_of_getElem? (i := 21) rfl))) (Or.inl (hw _ (List.mem_of_getElem? (i := 33) rfl))) (by decide) (t := (.array .int)) (t' := (.array .int)) (by decide) (by decide)))
  replace F_longArrays_r0 := F_longArrays_r0.other W19 (Or.inr (slot_ne (Or.inl (hw _ (List.mem_of_getElem? (i := 25) rfl))) (Or.inl (hw _ (List.mem_of_getElem? (i := 33) rfl))) (by decide) (t := (.array (.array .long))) (t' := (.array .int)) (by decide) (by decide)))
  replace F_savedLongCells_r0 := F_savedLongCells_r0.other W19 (Or.inr (slot_ne (Or.inl (hw _ (List.mem_of_getElem? (i := 27) rfl))) (Or.inl (hw _ (List.mem_of_getElem? (i := 33) rfl))) (by decide) (t := (.array .long)) (t' := (.array .int)) (by decide) (by decide)))
  replace F_savedLongValues_r0 := F_savedLongValues_r0.other W19 (Or.inr (slot_ne (Or.inl (hw _ (List.mem_of_getElem? (i := 29) rfl))) (Or.inl (hw _ (List.mem_of_getElem? (i := 33) rfl))) (by decide) (t := (.array .long)) (t' := (.array .int)) (by decide) (by decide)))
  replace F_levelStarts_r0 := F_levelStarts_r0.other W19 (Or.inr (slot_ne (Or.inl (hw _ (List.mem_of_getElem? (i := 31) rfl))) (Or.inl (hw _ (List.mem_of_getElem? (i := 33) rfl))) (by decide) (t := (.array .int)) (t' := (.array .int)) (by decide) (by decide)))
  replace F_levelLongStarts_r0 := F_levelLongStarts_r0.same W19
  replace F_levelIds_r0 := F_levelIds_r0.other W19 (Or.inr (slot_ne (Or.inl (hw _ (List.mem_of_getElem? (i := 35) rfl))) (Or.inl (hw _ (List.mem_of_getElem? (i := 33) rfl))) (by decide) (t := (.array .long)) (t' := (.array .int)) (by decide) (by decide)))
  replace F_nextLevelId_r0 := F_nextLevelId_r0.other W19 (Or.inr (slot_ne (Or.inl (hw _ (List.mem_of_getElem? (i := 37) rfl))) (Or.inl (hw _ (List.mem_of_getElem? (i := 33) rfl))) (by decide) (t := .long) (t' := (.array .int)) (by decide) (by decide)))
  replace F_longArrayCount_r0 := F_longArrayCount_r0.other W19 (Or.inr (slot_ne (Or.inl (hw _ (List.mem_of_getElem? (i := 57) rfl))) (Or.inl (hw _ (List.mem_of_getElem? (i := 33) rfl))) (by decide) (t := .int) (t' := (.array .int)) (by decide) (by decide)))
  replace F_slotCount_r0 := F_slotCount_r0.other W19 (Or.inr (slot_ne (Or.inl (hw _ (List.mem_of_getElem? (i := 67) rfl))) (Or.inl (hw _ (List.mem_of_getElem? (i := 33) rfl))) (by decide) (t := .int) (t' := (.array .int)) (by decide) (by decide)))
  replace E_r0 := E_r0.wr W19
  replace V_b2 := V_b2.other W19 (Ne.symm ne_r0_b2)
  replace V_b4 := V_b4.other W19 (Ne.symm ne_r0_b4)
  replace V_b6 := V_b6.other W19 (Ne.symm ne_r0_b6)
  replace V_b8 := V_b8.other W19 (Ne.symm ne_r0_b8)
  replace V_b10 := V_b10.other W19 (Ne.symm ne_r0_b10)
  replace TK_b10 := TK_b10.wr W19
  replace V_b12 := V_b12.other W19 (Ne.symm ne_r0_b12)
  replace V_b14 := V_b14.other W19 (Ne.symm ne_r0_b14)
  replace V_b16 := V_b16.other W19 (Ne.symm ne_r0_b16)
  replace V_b18 := V_b18.other W19 (Ne.symm ne_r0_b18)
  replace ZZ : n0 ≤ h19.size := by rw [W19.size]; exact ZZ
  replace KK := KK.wr W19 (Or.inl (by simp))
  refine gs (fun t => XS.aloadN X19.here hx rfl (hb hby d1_79) rfl rfl) ?_
  show Go p e below s QQ 10 968 (T19.setTop (mkF m 80 #[.val (.ref r0)] [(.ref r0)]))
  refine gs (fun t => XS.bipush X19.here hx rfl (hb hby d1_80)) ?_
  show Go p e below s QQ 10 968 (T19.setTop (mkF m 82 #[.val (.ref r0)] [(.int (64 : Int32)), (.ref r0)]))
  obtain ⟨T20, h20, k20, X20, e20, E20, A20, st20⟩ := newP X19 hx hZ (hw _ (List.mem_of_getElem? (i := 0) rfl)) e19 (g := (mkF m 82 #[.val (.ref r0)] [(.int (64 : Int32)), (.ref r0)])) rfl (hb hby d1_82) rfl (by decide) (cap := 64) (by decide) (by decide) (by decide) (by decide)
  obtain ⟨b20, g20⟩ : ∃ z, z = h19.size := ⟨_, rfl⟩
  rw [← g20] at A20 st20
  have ge_b20 : n0 ≤ b20 := by rw [g20]; exact ZZ
  have sz_b20 : h0.size ≤ b20 := by rw [g20]; exact KK.1
  have ne_r0_b20 : r0 ≠ b20 := by rw [g20]; exact Nat.ne_of_lt F_values_r0.lt
  have ne_b2_b20 : b2 ≠ b20 := by rw [g20]; exact Nat.ne_of_lt V_b2.lt
  have ne_b4_b20 : b4 ≠ b20 := by rw [g20]; exact Nat.ne_of_lt V_b4.lt
  have ne_b6_b20 : b6 ≠ b20 := by rw [g20]; exact Nat.ne_of_lt V_b6.lt
  have ne_b8_b20 : b8 ≠ b20 := by rw [g20]; exact Nat.ne_of_lt V_b8.lt
  have ne_b10_b20 : b10 ≠ b20 := by rw [g20]; exact Nat.ne_of_lt V_b10.lt
  have ne_b12_b20 : b12 ≠ b20 := by rw [g20]; exact Nat.ne_of_lt V_b12.lt
  have ne_b14_b20 : b14 ≠ b20 := by rw [g20]; exact Nat.ne_of_lt V_b14.lt
  have ne_b16_b20 : b16 ≠ b20 := by rw [g20]; exact Nat.ne_of_lt V_b16.lt
  have ne_b18_b20 : b18 ≠ b20 := by rw [g20]; exact Nat.ne_of_lt V_b18.lt
  refine gs st20 ?_
  show Go p e below s QQ 10 968 (T20.setTop (mkF m 84 #[.val (.ref r0)] [(.ref b20), (.ref r0)]))
  replace F_values_r0 := F_values_r0.ext E20
  replace F_savedIn_r0 := F_savedIn_r0.ext E20
  replace F_savedSlots_r0 := F_savedSlots_r0.ext E20
  replace F_savedValues_r0 := F_savedValues_r0.ext E20
  replace F_longArrays_r0 := F_longArrays_r0.ext E20
  replace F_savedLongCells_r0 := F_savedLongCells_r0.ext E20
  replace F_savedLongValues_r0 := F_savedLongValues_r0.ext E20
  replace F_levelStarts_r0 := F_levelStarts_r0.ext E20
  replace F_levelLongStarts_r0 := F_levelLongStarts_r0.ext E20
  replace F_levelIds_r0 := F_levelIds_r0.ext E20
  replace F_nextLevelId_r0 := F_nextLevelId_r0.ext E20
  replace F_longArrayCount_r0 := F_longArrayCount_r0.ext E20
  replace F_slotCount_r0 := F_slotCount_r0.ext E20
  replace E_r0 := E_r0.ext E20
  replace V_b2 := V_b2.ext E20
  replace V_b4 := V_b4.ext E20
  replace V_b6 := V_b6.ext E20
  replace V_b8 := V_b8.ext E20
  replace V_b10 := V_b10.ext E20
  replace TK_b10 := TK_b10.ext E20
  replace V_b12 := V_b12.ext E20
  replace V_b14 := V_b14.ext E20
  replace V_b16 := V_b16.ext E20
  replace V_b18 := V_b18.ext E20
  replace ZZ := Nat.le_trans ZZ E20.1
  replace KK := KK.ext E20
  have V_b20 : Arf Z h20 b20 .long 64 (fun _ => .long 0) := Arf.new A20
  obtain ⟨T21, h21, X21, e21, W21, st21⟩ := putF X20 hx hZ hown (host := "") (Or.inl (hw _ (List.mem_of_getElem? (i := 34) rfl))) Via.refl e20 F_levelIds_r0 E_r0 (Or.inl (hw _ (List.mem_of_getElem? (i := 35) rfl))) (hw _ (List.mem_of_getElem? (i := 5) rfl)) (ty := (.array .long)) (by decide) rfl rfl (g := (mkF m 84 #[.val (.ref r0)] [(.ref b20), (.ref r0)])) rfl rfl (hb hby d1_84)
  replace N0 := Fr.snoc X21 N0 ge_r0
  refine gs st21 ?_
  show Go p e below s QQ 10 968 (T21.setTop (mkF m 87 #[.val (.ref r0)] []))
  replace F_values_r0 := F_values_r0.other W21 (Or.inr (slot_ne (Or.inl (hw _ (List.mem_of_getElem? (i := 15) rfl))) (Or.inl (hw _ (List.mem_of_getElem? (i := 35) rfl))) (by decide) (t := (.array .int)) (t' := (.array .long)) (by decide) (by decide)))
  replace F_savedIn_r0 := F_savedIn_r0.other W21 (Or.inr (slot_ne (Or.inl (hw _ (List.mem_of_getElem? (i := 17) rfl))) (Or.inl (hw _ (List.mem_of_getElem? (i := 35) rfl))) (by decide) (t := (.array .long)) (t' := (.array .long)) (by decide) (by decide)))
  replace F_savedSlots_r0 := F_savedSlots_r0.other W21 (Or.inr (slot_ne (Or.inl (hw _ (List.mem_of_getElem? (i := 19) rfl))) (Or.inl (hw _ (List.mem_of_getElem? (i := 35) rfl))) (by decide) (t := (.array .int)) (t' := (.array .long)) (by decide) (by decide)))
  replace F_savedValues_r0 := F_savedValues_r0.other W21 (Or.inr (slot_ne (Or.inl (hw _ (List.mem_of_getElem? (i := 21) rfl))) (Or.inl (hw _ (List.mem_of_getElem? (i := 35) rfl))) (by decide) (t := (.array .int)) (t' := (.array .long)) (by decide) (by decide)))
  replace F_longArrays_r0 := F_longArrays_r0.other W21 (Or.inr (slot_ne (Or.inl (hw _ (List.mem_of_getElem? (i := 25) rfl))) (Or.inl (hw _ (List.mem_of_getElem? (i := 35) rfl))) (by decide) (t := (.array (.array .long))) (t' := (.array .long)) (by decide) (by decide)))
  replace F_savedLongCells_r0 := F_savedLongCells_r0.other W21 (Or.inr (slot_ne (Or.inl (hw _ (List.mem_of_getElem? (i := 27) rfl))) (Or.inl (hw _ (List.mem_of_getElem? (i := 35) rfl))) (by decide) (t := (.array .long)) (t' := (.array .long)) (by decide) (by decide)))
  replace F_savedLongValues_r0 := F_savedLongValues_r0.other W21 (Or.inr (slot_ne (Or.inl (hw _ (List.mem_of_getElem? (i := 29) rfl))) (Or.inl (hw _ (List.mem_of_getElem? (i := 35) rfl))) (by decide) (t := (.array .long)) (t' := (.array .long)) (by decide) (by decide)))
  replace F_levelStarts_r0 := F_levelStarts_r0.other W21 (Or.inr (slot_ne (Or.inl (hw _ (List.mem_of_getElem? (i := 31) rfl))) (Or.inl (hw _ (List.mem_of_getElem? (i := 35) rfl))) (by decide) (t := (.array .int)) (t' := (.array .long)) (by decide) (by decide)))
  replace F_levelLongStarts_r0 := F_levelLongStarts_r0.other W21 (Or.inr (slot_ne (Or.inl (hw _ (List.mem_of_getElem? (i := 33) rfl))) (Or.inl (hw _ (List.mem_of_getElem? (i := 35) rfl))) (by decide) (t := (.array .int)) (t' := (.array .long)) (by decide) (by decide)))
  replace F_levelIds_r0 := F_levelIds_r0.same W21
  replace F_nextLevelId_r0 := F_nextLevelId_r0.other W21 (Or.inr (slot_ne (Or.inl (hw _ (List.mem_of_getElem? (i := 37) rfl))) (Or.inl (hw _ (List.mem_of_getElem? (i := 35) rfl))) (by decide) (t := .long) (t' := (.array .long)) (by decide) (by decide)))
  replace F_longArrayCount_r0 := F_longArrayCount_r0.other W21 (Or.inr (slot_ne (Or.inl (hw _ (List.mem_of_getElem? (i := 57) rfl))) (Or.inl (hw _ (List.mem_of_getElem? (i := 35) rfl))) (by decide) (t := .int) (t' := (.array .long)) (by decide) (by decide)))
  replace F_slotCount_r0 := F_slotCount_r0.other W21 (Or.inr (slot_ne (Or.inl (hw _ (List.mem_of_getElem? (i := 67) rfl))) (Or.inl (hw _ (List.mem_of_getElem? (i := 35) rfl))) (by decide) (t := .int) (t' := (.array .long)) (by decide) (by decide)))
  replace E_r0 := E_r0.wr W21
  replace V_b2 := V_b2.other W21 (Ne.symm ne_r0_b2)
  replace V_b4 := V_b4.other W21 (Ne.symm ne_r0_b4)
  replace V_b6 := V_b6.other W21 (Ne.symm ne_r0_b6)
  replace V_b8 := V_b8.other W21 (Ne.symm ne_r0_b8)
  replace V_b10 := V_b10.other W21 (Ne.symm ne_r0_b10)
  replace TK_b10 := TK_b10.wr W21
  replace V_b12 := V_b12.other W21 (Ne.symm ne_r0_b12)
  replace V_b14 := V_b14.other W21 (Ne.symm ne_r0_b14)
  replace V_b16 := V_b16.other W21 (Ne.symm ne_r0_b16)
  replace V_b18 := V_b18.other W21 (Ne.symm ne_r0_b18)
  replace V_b20 := V_b20.other W21 (Ne.symm ne_r0_b20)
  replace ZZ : n0 ≤ h21.size := by rw [W21.size]; exact ZZ
  replace KK := KK.wr W21 (Or.inl (by simp))
  refine gs (fun t => XS.aloadN X21.here hx rfl (hb hby d1_87) rfl rfl) ?_
  show Go p e below s QQ 10 968 (T21.setTop (mkF m 88 #[.val (.ref r0)] [(.ref r0)]))
  refine gs (fun t => XS.lconst X21.here hx rfl (hb hby d1_88)) ?_
  show Go p e below s QQ 10 968 (T21.setTop (mkF m 89 #[.val (.ref r0)] [(.long (1 : Int64)), (.ref r0)]))
  obtain ⟨T22, h22, X22, e22, W22, st22⟩ := putF X21 hx hZ hown (host := "") (Or.inl (hw _ (List.mem_of_getElem? (i := 36) rfl))) Via.refl e21 F_nextLevelId_r0 E_r0 (Or.inl (hw _ (List.mem_of_getElem? (i := 37) rfl))) (hw _ (List.mem_of_getElem? (i := 5) rfl)) (ty := .long) (by decide) rfl rfl (g := (mkF m 89 #[.val (.ref r0)] [(.long (1 : Int64)), (.ref r0)])) rfl rfl (hb hby d1_89)
  replace N0 := Fr.snoc X22 N0 ge_r0
  refine gs st22 ?_
  show Go p e below s QQ 10 968 (T22.setTop (mkF m 92 #[.val (.ref r0)] []))
  replace F_values_r0 := F_values_r0.other W22 (Or.inr (slot_ne (Or.inl (hw _ (List.mem_of_getElem? (i := 15) rfl))) (Or.inl (hw _ (List.mem_of_getElem? (i := 37) rfl))) (by decide) (t := (.array .int)) (t' := .long) (by decide) (by decide)))
  replace F_savedIn_r0 := F_savedIn_r0.other W22 (Or.inr (slot_ne (Or.inl (hw _ (List.mem_of_getElem? (i := 17) rfl))) (Or.inl (hw _ (List.mem_of_getElem? (i := 37) rfl))) (by decide) (t := (.array .long)) (t' := .long) (by decide) (by decide)))
  replace F_savedSlots_r0 := F_savedSlots_r0.other W22 (Or.inr (slot_ne (Or.inl (hw _ (List.mem_of_getElem? (i := 19) rfl))) (Or.inl (hw _ (List.mem_of_getElem? (i := 37) rfl))) (by decide) (t := (.array .int)) (t' := .long) (by decide) (by decide)))
  replace F_savedValues_r0 := F_savedValues_r0.other W22 (Or.inr (slot_ne (Or.inl (hw _ (List.mem_of_getElem? (i := 21) rfl))) (Or.inl (hw _ (List.mem_of_getElem? (i := 37) rfl))) (by decide) (t := (.array .int)) (t' := .long) (by decide) (by decide)))
  replace F_longArrays_r0 := F_longArrays_r0.other W22 (Or.inr (slot_ne (Or.inl (hw _ (List.mem_of_getElem? (i := 25) rfl))) (Or.inl (hw _ (List.mem_of_getElem? (i := 37) rfl))) (by decide) (t := (.array (.array .long))) (t' := .long) (by decide) (by decide)))
  replace F_savedLongCells_r0 := F_savedLongCells_r0.other W22 (Or.inr (slot_ne (Or.inl (hw _ (List.mem_of_getElem? (i := 27) rfl))) (Or.inl (hw _ (List.mem_of_getElem? (i := 37) rfl))) (by decide) (t := (.array .long)) (t' := .long) (by decide) (by decide)))
  replace F_savedLongValues_r0 := F_savedLongValues_r0.other W22 (Or.inr (slot_ne (Or.inl (hw _ (List.mem_of_getElem? (i := 29) rfl))) (Or.inl (hw _ (List.mem_of_getElem? (i := 37) rfl))) (by decide) (t := (.array .long)) (t' := .long) (by decide) (by decide)))
  replace F_levelStarts_r0 := F_levelStarts_r0.other W22 (Or.inr (slot_ne (Or.inl (hw _ (List.mem_of_getElem? (i := 31) rfl))) (Or.inl (hw _ (List.mem_of_getElem? (i := 37) rfl))) (by decide) (t := (.array .int)) (t' := .long) (by decide) (by decide)))
  replace F_levelLongStarts_r0 := F_levelLongStarts_r0.other W22 (Or.inr (slot_ne (Or.inl (hw _ (List.mem_of_getElem? (i := 33) rfl))) (Or.inl (hw _ (List.mem_of_getElem? (i := 37) rfl))) (by decide) (t := (.array .int)) (t' := .long) (by decide) (by decide)))
  replace F_levelIds_r0 := F_levelIds_r0.other W22 (Or.inr (slot_ne (Or.inl (hw _ (List.mem_of_getElem? (i := 35) rfl))) (Or.inl (hw _ (List.mem_of_getElem? (i := 37) rfl))) (by decide) (t := (.array .long)) (t' := .long) (by decide) (by decide)))
  replace F_nextLevelId_r0 := F_nextLevelId_r0.same W22
  replace F_longArrayCount_r0 := F_longArrayCount_r0.other W22 (Or.inr (slot_ne (Or.inl (hw _ (List.mem_of_getElem? (i := 57) rfl))) (Or.inl (hw _ (List.mem_of_getElem? (i := 37) rfl))) (by decide) (t := .int) (t' := .long) (by decide) (by decide)))
  replace F_slotCount_r0 := F_slotCount_r0.other W22 (Or.inr (slot_ne (Or.inl (hw _ (List.mem_of_getElem? (i := 67) rfl))) (Or.inl (hw _ (List.mem_of_getElem? (i := 37) rfl))) (by decide) (t := .int) (t' := .long) (by decide) (by decide)))
  replace E_r0 := E_r0.wr W22
  replace V_b2 := V_b2.other W22 (Ne.symm ne_r0_b2)
  replace V_b4 := V_b4.other W22 (Ne.symm ne_r0_b4)
  replace V_b6 := V_b6.other W22 (Ne.symm ne_r0_b6)
  replace V_b8 := V_b8.other W22 (Ne.symm ne_r0_b8)
  replace V_b10 := V_b10.other W22 (Ne.symm ne_r0_b10)
  replace TK_b10 := TK_b10.wr W22
  replace V_b12 := V_b12.other W22 (Ne.symm ne_r0_b12)
  replace V_b14 := V_b14.other W22 (Ne.symm ne_r0_b14)
  replace V_b16 := V_b16.other W22 (Ne.symm ne_r0_b16)
  replace V_b18 := V_b18.other W22 (Ne.symm ne_r0_b18)
  replace V_b20 := V_b20.other W22 (Ne.symm ne_r0_b20)
  replace ZZ : n0 ≤ h22.size := by rw [W22.size]; exact ZZ
  replace KK := KK.wr W22 (Or.inl (by simp))
  exact goV X22 hx Bd.notSynchronized Bd.returns (hb hby d1_92) (by rw [← hQQ, e22]; exact ⟨b2, b10, rfl, N0, KK, F_values_r0, F_longArrays_r0, F_longArrayCount_r0, F_slotCount_r0, sz_b2, sz_b10, V_b2, V_b10, TK_b10, ne_b2_b10⟩) (by decide) (by decide)
theorem d4_0 : decode prog_24_method_4_code 0 = .ok (.aload_n 0, 1) := by decide +kernel
theorem d4_1 : decode prog_24_method_4_code 1 = .ok (.getfield 64, 3) := by decide +kernel
theorem d4_4 : decode prog_24_method_4_code 4 = .ok (.aload_n 0, 1) := by decide +kernel
theorem d4_5 : decode prog_24_method_4_code 5 = .ok (.getfield 24, 3) := by decide +kernel
theorem d4_8 : decode prog_24_method_4_code 8 = .ok (.arraylength, 1) := by decide +kernel
theorem d4_9 : decode prog_24_method_4_code 9 = .ok (.if_icmp .ne 23, 3) := by decide +kernel
theorem d4_12 : decode prog_24_method_4_code 12 = .ok (.aload_n 0, 1) := by decide +kernel
theorem d4_13 : decode prog_24_method_4_code 13 = .ok (.aload_n 0, 1) := by decide +kernel
theorem d4_14 : decode prog_24_method_4_code 14 = .ok (.getfield 24, 3) := by decide +kernel
theorem d4_17 : decode prog_24_method_4_code 17 = .ok (.iconst 2, 1) := by decide +kernel
theorem d4_18 : decode prog_24_method_4_code 18 = .ok (.aload_n 0, 1) := by decide +kernel
theorem d4_19 : decode prog_24_method_4_code 19 = .ok (.getfield 64, 3) := by decide +kernel
theorem d4_22 : decode prog_24_method_4_code 22 = .ok (.imul, 1) := by decide +kernel
theorem d4_23 : decode prog_24_method_4_code 23 = .ok (.invokestatic 67, 3) := by decide +kernel
theorem d4_26 : decode prog_24_method_4_code 26 = .ok (.checkcast 70, 3) := by decide +kernel
theorem d4_29 : decode prog_24_method_4_code 29 = .ok (.putfield 24, 3) := by decide +kernel
theorem d4_32 : decode prog_24_method_4_code 32 = .ok (.aload_n 0, 1) := by decide +kernel
theorem d4_33 : decode prog_24_method_4_code 33 = .ok (.getfield 24, 3) := by decide +kernel
theorem d4_36 : decode prog_24_method_4_code 36 = .ok (.aload_n 0, 1) := by decide +kernel
theorem d4_37 : decode prog_24_method_4_code 37 = .ok (.getfield 64, 3) := by decide +kernel
theorem d4_40 : decode prog_24_method_4_code 40 = .ok (.aload_n 1, 1) := by decide +kernel
theorem d4_41 : decode prog_24_method_4_code 41 = .ok (.aastore, 1) := by decide +kernel
theorem d4_42 : decode prog_24_method_4_code 42 = .ok (.aload_n 0, 1) := by decide +kernel
theorem d4_43 : decode prog_24_method_4_code 43 = .ok (.dup, 1) := by decide +kernel
theorem d4_44 : decode prog_24_method_4_code 44 = .ok (.getfield 64, 3) := by decide +kernel
theorem d4_47 : decode prog_24_method_4_code 47 = .ok (.dup_x1, 1) := by decide +kernel
theorem d4_48 : decode prog_24_method_4_code 48 = .ok (.iconst 1, 1) := by decide +kernel
theorem d4_49 : decode prog_24_method_4_code 49 = .ok (.iadd, 1) := by decide +kernel
theorem d4_50 : decode prog_24_method_4_code 50 = .ok (.putfield 64, 3) := by decide +kernel
theorem d4_53 : decode prog_24_method_4_code 53 = .ok (.ireturn, 1) := by decide +kernel
theorem pn_4 : plainName "com/example/tuplewise/tuplewise/Trail" = true := by first | (simp [plainName, overriddenIn]; done) | decide +kernel
def Qrm4 (Z : State) (r0 : Addr) (r1 : Addr) (lb : Addr) (fl : Nat → Value) (vb : Addr) (h0 : Heap) (n0 : Nat) (v : Option Value) (h : Heap) (L : List Loc) : Prop := v = some (.int 0) ∧ Fr n0 L ∧ Keep h0 h [r0, lb] ∧ Fld Z h r0 "com/example/tuplewise/tuplewise/Trail" "values" "[I" (.ref vb) ∧ Fld Z h r0 "com/example/tuplewise/tuplewise/Trail" "slotCount" "I" (.int (0 : Int32))
set_option maxRecDepth 65536 in
set_option maxHeartbeats 40000000 in
theorem rm4 (l : Launch) (Z : State) (a0 : Array Value) (hw : ∀ d ∈ tables_1, d.before a0 Z = true) (ws : List Jvm.Cond) (r0 : Addr) (r1 : Addr) (lb : Addr) (fl : Nat → Value) (vb : Addr) (h0 : Heap) (n0 : Nat) (Z0 : n0 ≤ h0.size) (F_longArrays_r0 : Fld Z h0 r0 "com/example/tuplewise/tuplewise/Trail" "longArrays" "[[J" (.ref lb)) (F_longArrayCount_r0 : Fld Z h0 r0 "com/example/tuplewise/tuplewise/Trail" "longArrayCount" "I" (.int (0 : Int32))) (F_values_r0 : Fld Z h0 r0 "com/example/tuplewise/tuplewise/Trail" "values" "[I" (.ref vb)) (F_slotCount_r0 : Fld Z h0 r0 "com/example/tuplewise/tuplewise/Trail" "slotCount" "I" (.int (0 : Int32))) (E_r0 : Exa Z h0 r0 "com/example/tuplewise/tuplewise/Trail") (V_lb : Arf Z h0 lb (.array .long) 8 fl) (TK_lb : Tak Z h0 lb "[J") (E_r1 : Exa Z h0 r1 "[J") (ge_r0 : n0 ≤ r0) (ge_lb : n0 ≤ lb) (ne_r0_lb : r0 ≠ lb) :
    MetFree l (⟨"com/example/tuplewise/tuplewise/Trail", "keepLongs", "([J)I"⟩ : MethodName) (head1 (Jvm.Cond.code (⟨"com/example/tuplewise/tuplewise/Trail", "keepLongs", "([J)I"⟩ : MethodName) prog_24_method_4_code 2 (some .int) :: ws) ({ frames := 0, cells := 0, slots := 0, locals := 0 } : Room)) (fun a U => a = #[(.ref r0), (.ref r1)] ∧ Z.Warmed39 U.vm ∧ U.heap = h0) (fun _ _ _ _ _ => True) (fun _ U o U' => ∃ v L, o = .returned v ∧ Qrm4 Z r0 r1 lb fl vb h0 n0 v U'.heap L ∧ FrameEnd U o U' L ({ frames := 0, cells := 0, slots := 0, locals := 0 } : Room).cells ({ frames := 0, cells := 0, slots := 0, locals := 0 } : Room).slots) := by
  refine MetFree.of_bodySF (plainFor_of_name pn_4) hisR ?_
  intro p e s m args below meth c s₁ Bd hml0 hP hK
  obtain ⟨rfl, hZ, hh⟩ := hP
  have hx := Bd.exec
  have hby := Bd.bytes
  have hml : c.maxLocals = 2 := hml0
  have hown : s.vm.findClass "com/example/tuplewise/tuplewise/Trail" = some m.cls := findClass_of_methodNamed Bd.named
  have hnm := (name_of_methodNamed Bd.named Bd.method).1
  have X0 : Stand p l e ({ frames := 0, cells := 0, slots := 0, locals := 0 } : Room) s m #[(.ref r0), (.ref r1)] below meth c s₁ [] 0 0 := Stand.of_body Bd
  have e0 : s₁.heap = h0 := by rw [← hh, Bd.state]; rfl
  have N0 := Fr.nil n0
  have ZZ := Z0
  have KK : Keep h0 h0 [r0, lb] := Keep.refl h0 _
  show Go p e below s (Qrm4 Z r0 r1 lb fl vb h0 n0) 0 0 (s₁.setTop (entryFrame m #[(.ref r0), (.ref r1)] 2))
  generalize hQQ : (Qrm4 Z r0 r1 lb fl vb h0 n0) = QQ
  refine gs (fun t k => castTop (g' := (mkF m 0 #[.val (.ref r0), .val (.ref r1)] [])) (by first | (simp [entryFrame, mkF, argsToLocals, Value.category, maxLocals]; done) | rfl) k) ?_
  show Go p e below s QQ 0 0 (s₁.setTop (mkF m 0 #[.val (.ref r0), .val (.ref r1)] []))
  refine gs (fun t => XS.aloadN X0.here hx rfl (hb hby d4_0) rfl rfl) ?_
  show Go p e below s QQ 0 0 (s₁.setTop (mkF m 1 #[.val (.ref r0), .val (.ref r1)] [(.ref r0)]))
  obtain ⟨T23, X23, e23, st23⟩ := getF X0 hx hZ hown (host := "") (Or.inl (hw _ (List.mem_of_getElem? (i := 56) rfl))) Via.refl e0 F_longArrayCount_r0 (g := (mkF m 1 #[.val (.ref r0), .val (.ref r1)] [(.ref r0)])) rfl rfl (hb hby d4_1)
  refine gs st23 ?_
  show Go p e below s QQ 0 0 (T23.setTop (mkF m 4 #[.val (.ref r0), .val (.ref r1)] [(.int (0 : Int32))]))
  refine gs (fun t => XS.aloadN X23.here hx rfl (hb hby d4_4) rfl rfl) ?_
  show Go p e below s QQ 0 0 (T23.setTop (mkF m 5 #[.val (.ref r0), .val (.ref r1)] [(.ref r0), (.int (0 : Int32))]))
  obtain ⟨T24, X24, e24, st24⟩ := getF X23 hx hZ hown (host := "") (Or.inl (hw _ (List.mem_of_getElem? (i := 24) rfl))) Via.refl e23 F_longArrays_r0 (g := (mkF m 5 #[.val (.ref r0), .val (.ref r1)] [(.ref r0), (.int (0 : Int32))])) rfl rfl (hb hby d4_5)
  refine gs st24 ?_
  show Go p e below s QQ 0 0 (T24.setTop (mkF m 8 #[.val (.ref r0), .val (.ref r1)] [(.ref lb), (.int (0 : Int32))]))
  refine gs (fun t => lenf X24 hx hZ e24 V_lb (z := (8 : Int32)) rfl (g := (mkF m 8 #[.val (.ref r0), .val (.ref r1)] [(.ref lb), (.int (0 : Int32))])) rfl rfl (hb hby d4_8) t) ?_
  show Go p e below s QQ 0 0 (T24.setTop (mkF m 9 #[.val (.ref r0), .val (.ref r1)] [(.int (8 : Int32)), (.int (0 : Int32))]))
  refine gs (fun t => XS.icmpYes X24.here hx rfl (pc0 := 9) (pc' := 32) rfl (hb hby d4_9) rfl (feq (by decide : ¬ ((0 : Int32) = (8 : Int32)))).2 (by decide) (by decide)) ?_
  show Go p e below s QQ 0 0 (T24.setTop (mkF m 32 #[.val (.ref r0), .val (.ref r1)] []))
  refine gs (fun t => XS.aloadN X24.here hx rfl (hb hby d4_32) rfl rfl) ?_
  show Go p e below s QQ 0 0 (T24.setTop (mkF m 33 #[.val (.ref r0), .val (.ref r1)] [(.ref r0)]))
  obtain ⟨T25, X25, e25, st25⟩ := getF X24 hx hZ hown (host := "") (Or.inl (hw _ (List.mem_of_getElem? (i := 24) rfl))) Via.refl e24 F_longArrays_r0 (g := (mkF m 33 #[.val (.ref r0), .val (.ref r1)] [(.ref r0)])) rfl rfl (hb hby d4_33)
  refine gs st25 ?_
  show Go p e below s QQ 0 0 (T25.setTop (mkF m 36 #[.val (.ref r0), .val (.ref r1)] [(.ref lb)]))
  refine gs (fun t => XS.aloadN X25.here hx rfl (hb hby d4_36) rfl rfl) ?_
  show Go p e below s QQ 0 0 (T25.setTop (mkF m 37 #[.val (.ref r0), .val (.ref r1)] [(.ref r0), (.ref lb)]))
  obtain ⟨T26, X26, e26, st26⟩ := getF X25 hx hZ hown (host := "") (Or.inl (hw _ (List.mem_of_getElem? (i := 56) rfl))) Via.refl e25 F_longArrayCount_r0 (g := (mkF m 37 #[.val (.ref r0), .val (.ref r1)] [(.ref r0), (.ref lb)])) rfl rfl (hb hby d4_37)
  refine gs st26 ?_
  show Go p e below s QQ 0 0 (T26.setTop (mkF m 40 #[.val (.ref r0), .val (.ref r1)] [(.int (0 : Int32)), (.ref lb)]))
  refine gs (fun t => XS.aloadN X26.here hx rfl (hb hby d4_40) rfl rfl) ?_
  show Go p e below s QQ 0 0 (T26.setTop (mkF m 41 #[.val (.ref r0), .val (.ref r1)] [(.ref r1), (.int (0 : Int32)), (.ref lb)]))
  obtain ⟨T27, h27, X27, e27, W27, V27, st27⟩ := stRf X26 hx hZ e26 V_lb rfl (TK_lb.sto (Ins.self E_r1)) (j := (0 : Int32)) (by decide) (g := (mkF m 41 #[.val (.ref r0), .val (.ref r1)] [(.ref r1), (.int (0 : Int32)), (.ref lb)])) rfl rfl (hb hby d4_41)
  replace N0 := Fr.snoc X27 N0 ge_lb
  refine gs st27 ?_
  show Go p e below s QQ 0 0 (T27.setTop (mkF m 42 #[.val (.ref r0), .val (.ref r1)] []))
  replace F_longArrays_r0 := F_longArrays_r0.other W27 (Or.inl ne_r0_lb)
  replace F_longArrayCount_r0 := F_longArrayCount_r0.other W27 (Or.inl ne_r0_lb)
  replace F_values_r0 := F_values_r0.other W27 (Or.inl ne_r0_lb)
  replace F_slotCount_r0 := F_slotCount_r0.other W27 (Or.inl ne_r0_lb)
  replace E_r0 := E_r0.wr W27
  replace TK_lb := TK_lb.wr W27
  replace E_r1 := E_r1.wr W27
  replace ZZ : n0 ≤ h27.size := by rw [W27.size]; exact ZZ
  replace KK := KK.wr W27 (Or.inl (by simp))
  replace V_lb : Arf Z h27 lb (.array .long) 8 (updv fl 0 (.ref r1)) := V27
  refine gs (fun t => XS.aloadN X27.here hx rfl (hb hby d4_42) rfl rfl) ?_
  show Go p e below s QQ 0 0 (T27.setTop (mkF m 43 #[.val (.ref r0), .val (.ref r1)] [(.ref r0)]))
  refine gs (fun t => XS.dup X27.here hx rfl (hb hby d4_43) rfl rfl) ?_
  show Go p e below s QQ 0 0 (T27.setTop (mkF m 44 #[.val (.ref r0), .val (.ref r1)] [(.ref r0), (.ref r0)]))
  obtain ⟨T28, X28, e28, st28⟩ := getF X27 hx hZ hown (host := "") (Or.inl (hw _ (List.mem_of_getElem? (i := 56) rfl))) Via.refl e27 F_longArrayCount_r0 (g := (mkF m 44 #[.val (.ref r0), .val (.ref r1)] [(.ref r0), (.ref r0)])) rfl rfl (hb hby d4_44)
  refine gs st28 ?_
  show Go p e below s QQ 0 0 (T28.setTop (mkF m 47 #[.val (.ref r0), .val (.ref r1)] [(.int (0 : Int32)), (.ref r0)]))
  refine gs (fun t => XS.dupX1 X28.here hx rfl (hb hby d4_47) rfl rfl rfl) ?_
  show Go p e below s QQ 0 0 (T28.setTop (mkF m 48 #[.val (.ref r0), .val (.ref r1)] [(.int (0 : Int32)), (.ref r0), (.int (0 : Int32))]))
  refine gs (fun t => XS.iconst X28.here hx rfl (hb hby d4_48)) ?_
  show Go p e below s QQ 0 0 (T28.setTop (mkF m 49 #[.val (.ref r0), .val (.ref r1)] [(.int (1 : Int32)), (.int (0 : Int32)), (.ref r0), (.int (0 : Int32))]))
  refine gs (fun t => XS.iadd X28.here hx rfl (hb hby d4_49) rfl) ?_
  show Go p e below s QQ 0 0 (T28.setTop (mkF m 50 #[.val (.ref r0), .val (.ref r1)] [(.int (1 : Int32)), (.ref r0), (.int (0 : Int32))]))
  obtain ⟨T29, h29, X29, e29, W29, st29⟩ := putF X28 hx hZ hown (host := "") (Or.inl (hw _ (List.mem_of_getElem? (i := 56) rfl))) Via.refl e28 F_longArrayCount_r0 E_r0 (Or.inl (hw _ (List.mem_of_getElem? (i := 57) rfl))) (hw _ (List.mem_of_getElem? (i := 5) rfl)) (ty := .int) (by decide) rfl rfl (g := (mkF m 50 #[.val (.ref r0), .val (.ref r1)] [(.int (1 : Int32)), (.ref r0), (.int (0 : Int32))])) rfl rfl (hb hby d4_50)
  replace N0 := Fr.snoc X29 N0 ge_r0
  refine gs st29 ?_
  show Go p e below s QQ 0 0 (T29.setTop (mkF m 53 #[.val (.ref r0), .val (.ref r1)] [(.int (0 : Int32))]))
  replace F_longArrays_r0 := F_longArrays_r0.other W29 (Or.inr (slot_ne (Or.inl (hw _ (List.mem_of_getElem? (i := 25) rfl))) (Or.inl (hw _ (List.mem_of_getElem? (i := 57) rfl))) (by decide) (t := (.array (.array .long))) (t' := .int) (by decide) (by decide)))
  replace F_longArrayCount_r0 := F_longArrayCount_r0.same W29
  replace F_values_r0 := F_values_r0.other W29 (Or.inr (slot_ne (Or.inl (hw _ (List.mem_of_getElem? (i := 15) rfl))) (Or.inl (hw _ (List.mem_of_getElem? (i := 57) rfl))) (by decide) (t := (.array .int)) (t' := .int) (by decide) (by decide)))
  replace F_slotCount_r0 := F_slotCount_r0.other W29 (Or.inr (slot_ne (Or.inl (hw _ (List.mem_of_getElem? (i := 67) rfl))) (Or.inl (hw _ (List.mem_of_getElem? (i := 57) rfl))) (by decide) (t := .int) (t' := .int) (by decide) (by decide)))
  replace E_r0 := E_r0.wr W29
  replace V_lb := V_lb.other W29 (Ne.symm ne_r0_lb)
  replace TK_lb := TK_lb.wr W29
  replace E_r1 := E_r1.wr W29
  replace ZZ : n0 ≤ h29.size := by rw [W29.size]; exact ZZ
  replace KK := KK.wr W29 (Or.inl (by simp))
  exact goI X29 hx Bd.notSynchronized Bd.returns (hb hby d4_53) (by rw [← hQQ, e29]; exact ⟨rfl, N0, KK, F_values_r0, F_slotCount_r0⟩) (by decide) (by decide)
theorem d5_0 : decode prog_24_method_2_code 0 = .ok (.aload_n 0, 1) := by decide +kernel
theorem d5_1 : decode prog_24_method_2_code 1 = .ok (.getfield 47, 3) := by decide +kernel
theorem d5_4 : decode prog_24_method_2_code 4 = .ok (.aload_n 0, 1) := by decide +kernel
theorem d5_5 : decode prog_24_method_2_code 5 = .ok (.getfield 7, 3) := by decide +kernel
theorem d5_8 : decode prog_24_method_2_code 8 = .ok (.arraylength, 1) := by decide +kernel
theorem d5_9 : decode prog_24_method_2_code 9 = .ok (.if_icmp .ne 37, 3) := by decide +kernel
theorem d5_12 : decode prog_24_method_2_code 12 = .ok (.aload_n 0, 1) := by decide +kernel
theorem d5_13 : decode prog_24_method_2_code 13 = .ok (.aload_n 0, 1) := by decide +kernel
theorem d5_14 : decode prog_24_method_2_code 14 = .ok (.getfield 7, 3) := by decide +kernel
theorem d5_17 : decode prog_24_method_2_code 17 = .ok (.iconst 2, 1) := by decide +kernel
theorem d5_18 : decode prog_24_method_2_code 18 = .ok (.aload_n 0, 1) := by decide +kernel
theorem d5_19 : decode prog_24_method_2_code 19 = .ok (.getfield 47, 3) := by decide +kernel
theorem d5_22 : decode prog_24_method_2_code 22 = .ok (.imul, 1) := by decide +kernel
theorem d5_23 : decode prog_24_method_2_code 23 = .ok (.invokestatic 51, 3) := by decide +kernel
theorem d5_26 : decode prog_24_method_2_code 26 = .ok (.putfield 7, 3) := by decide +kernel
theorem d5_29 : decode prog_24_method_2_code 29 = .ok (.aload_n 0, 1) := by decide +kernel
theorem d5_30 : decode prog_24_method_2_code 30 = .ok (.aload_n 0, 1) := by decide +kernel
theorem d5_31 : decode prog_24_method_2_code 31 = .ok (.getfield 13, 3) := by decide +kernel
theorem d5_34 : decode prog_24_method_2_code 34 = .ok (.iconst 2, 1) := by decide +kernel
theorem d5_35 : decode prog_24_method_2_code 35 = .ok (.aload_n 0, 1) := by decide +kernel
theorem d5_36 : decode prog_24_method_2_code 36 = .ok (.getfield 47, 3) := by decide +kernel
theorem d5_39 : decode prog_24_method_2_code 39 = .ok (.imul, 1) := by decide +kernel
theorem d5_40 : decode prog_24_method_2_code 40 = .ok (.invokestatic 57, 3) := by decide +kernel
theorem d5_43 : decode prog_24_method_2_code 43 = .ok (.putfield 13, 3) := by decide +kernel
theorem d5_46 : decode prog_24_method_2_code 46 = .ok (.aload_n 0, 1) := by decide +kernel
theorem d5_47 : decode prog_24_method_2_code 47 = .ok (.getfield 7, 3) := by decide +kernel
theorem d5_50 : decode prog_24_method_2_code 50 = .ok (.aload_n 0, 1) := by decide +kernel
theorem d5_51 : decode prog_24_method_2_code 51 = .ok (.getfield 47, 3) := by decide +kernel
theorem d5_54 : decode prog_24_method_2_code 54 = .ok (.iload_n 1, 1) := by decide +kernel
theorem d5_55 : decode prog_24_method_2_code 55 = .ok (.iastore, 1) := by decide +kernel
theorem d5_56 : decode prog_24_method_2_code 56 = .ok (.aload_n 0, 1) := by decide +kernel
theorem d5_57 : decode prog_24_method_2_code 57 = .ok (.dup, 1) := by decide +kernel
theorem d5_58 : decode prog_24_method_2_code 58 = .ok (.getfield 47, 3) := by decide +kernel
theorem d5_61 : decode prog_24_method_2_code 61 = .ok (.dup_x1, 1) := by decide +kernel
theorem d5_62 : decode prog_24_method_2_code 62 = .ok (.iconst 1, 1) := by decide +kernel
theorem d5_63 : decode prog_24_method_2_code 63 = .ok (.iadd, 1) := by decide +kernel
theorem d5_64 : decode prog_24_method_2_code 64 = .ok (.putfield 47, 3) := by decide +kernel
theorem d5_67 : decode prog_24_method_2_code 67 = .ok (.ireturn, 1) := by decide +kernel
theorem pn_5 : plainName "com/example/tuplewise/tuplewise/Trail" = true := by first | (simp [plainName, overriddenIn]; done) | decide +kernel
def Qrm5 (Z : State) (r0 : Addr) (p1 : Int32) (vb : Addr) (fv : Nat → Value) (h0 : Heap) (n0 : Nat) (v : Option Value) (h : Heap) (L : List Loc) : Prop := v = some (.int 0) ∧ Fr n0 L ∧ Keep h0 h [r0, vb]
set_option maxRecDepth 65536 in
set_option maxHeartbeats 40000000 in
theorem rm5 (l : Launch) (Z : State) (a0 : Array Value) (hw : ∀ d ∈ tables_1, d.before a0 Z = true) (ws : List Jvm.Cond) (r0 : Addr) (p1 : Int32) (vb : Addr) (fv : Nat → Value) (h0 : Heap) (n0 : Nat) (Z0 : n0 ≤ h0.size) (F_values_r0 : Fld Z h0 r0 "com/example/tuplewise/tuplewise/Trail" "values" "[I" (.ref vb)) (F_slotCount_r0 : Fld Z h0 r0 "com/example/tuplewise/tuplewise/Trail" "slotCount" "I" (.int (0 : Int32))) (E_r0 : Exa Z h0 r0 "com/example/tuplewise/tuplewise/Trail") (V_vb : Arf Z h0 vb .int 64 fv) (ge_r0 : n0 ≤ r0) (ge_vb : n0 ≤ vb) (ne_r0_vb : r0 ≠ vb) :
    MetFree l (⟨"com/example/tuplewise/tuplewise/Trail", "newSlot", "(I)I"⟩ : MethodName) (head1 (Jvm.Cond.code (⟨"com/example/tuplewise/tuplewise/Trail", "newSlot", "(I)I"⟩ : MethodName) prog_24_method_2_code 2 (some .int) :: ws) ({ frames := 0, cells := 0, slots := 0, locals := 0 } : Room)) (fun a U => a = #[(.ref r0), (.int p1)] ∧ Z.Warmed39 U.vm ∧ U.heap = h0) (fun _ _ _ _ _ => True) (fun _ U o U' => ∃ v L, o = .returned v ∧ Qrm5 Z r0 p1 vb fv h0 n0 v U'.heap L ∧ FrameEnd U o U' L ({ frames := 0, cells := 0, slots := 0, locals := 0 } : Room).cells ({ frames := 0, cells := 0, slots := 0, locals := 0 } : Room).slots) := by
  refine MetFree.of_bodySF (plainFor_of_name pn_5) hisR ?_
  intro p e s m args below meth c s₁ Bd hml0 hP hK
  obtain ⟨rfl, hZ, hh⟩ := hP
  have hx := Bd.exec
  have hby := Bd.bytes
  have hml : c.maxLocals = 2 := hml0
  have hown : s.vm.findClass "com/example/tuplewise/tuplewise/Trail" = some m.cls := findClass_of_methodNamed Bd.named
  have hnm := (name_of_methodNamed Bd.named Bd.method).1
  have X0 : Stand p l e ({ frames := 0, cells := 0, slots := 0, locals := 0 } : Room) s m #[(.ref r0), (.int p1)] below meth c s₁ [] 0 0 := Stand.of_body Bd
  have e0 : s₁.heap = h0 := by rw [← hh, Bd.state]; rfl
  have N0 := Fr.nil n0
  have ZZ := Z0
  have KK : Keep h0 h0 [r0, vb] := Keep.refl h0 _
  show Go p e below s (Qrm5 Z r0 p1 vb fv h0 n0) 0 0 (s₁.setTop (entryFrame m #[(.ref r0), (.int p1)] 2))
  generalize hQQ : (Qrm5 Z r0 p1 vb fv h0 n0) = QQ
  refine gs (fun t k => castTop (g' := (mkF m 0 #[.val (.ref r0), .val (.int p1)] [])) (by first | (simp [entryFrame, mkF, argsToLocals, Value.category, maxLocals]; done) | rfl) k) ?_
  show Go p e below s QQ 0 0 (s₁.setTop (mkF m 0 #[.val (.ref r0), .val (.int p1)] []))
  refine gs (fun t => XS.aloadN X0.here hx rfl (hb hby d5_0) rfl rfl) ?_
  show Go p e below s QQ 0 0 (s₁.setTop (mkF m 1 #[.val (.ref r0), .val (.int p1)] [(.ref r0)]))
  obtain ⟨T30, X30, e30, st30⟩ := getF X0 hx hZ hown (host := "") (Or.inl (hw _ (List.mem_of_getElem? (i := 66) rfl))) Via.refl e0 F_slotCount_r0 (g := (mkF m 1 #[.val (.ref r0), .val (.int p1)] [(.ref r0)])) rfl rfl (hb hby d5_1)
  refine gs st30 ?_
  show Go p e below s QQ 0 0 (T30.setTop (mkF m 4 #[.val (.ref r0), .val (.int p1)] [(.int (0 : Int32))]))
  refine gs (fun t => XS.aloadN X30.here hx rfl (hb hby d5_4) rfl rfl) ?_
  show Go p e below s QQ 0 0 (T30.setTop (mkF m 5 #[.val (.ref r0), .val (.int p1)] [(.ref r0), (.int (0 : Int32))]))
  obtain ⟨T31, X31, e31, st31⟩ := getF X30 hx hZ hown (host := "") (Or.inl (hw _ (List.mem_of_getElem? (i := 14) rfl))) Via.refl e30 F_values_r0 (g := (mkF m 5 #[.val (.ref r0), .val (.int p1)] [(.ref r0), (.int (0 : Int32))])) rfl rfl (hb hby d5_5)
  refine gs st31 ?_
  show Go p e below s QQ 0 0 (T31.setTop (mkF m 8 #[.val (.ref r0), .val (.int p1)] [(.ref vb), (.int (0 : Int32))]))
  refine gs (fun t => lenf X31 hx hZ e31 V_vb (z := (64 : Int32)) rfl (g := (mkF m 8 #[.val (.ref r0), .val (.int p1)] [(.ref vb), (.int (0 : Int32))])) rfl rfl (hb hby d5_8) t) ?_
  show Go p e below s QQ 0 0 (T31.setTop (mkF m 9 #[.val (.ref r0), .val (.int p1)] [(.int (64 : Int32)), (.int (0 : Int32))]))
  refine gs (fun t => XS.icmpYes X31.here hx rfl (pc0 := 9) (pc' := 46) rfl (hb hby d5_9) rfl (feq (by decide : ¬ ((0 : Int32) = (64 : Int32)))).2 (by decide) (by decide)) ?_
  show Go p e below s QQ 0 0 (T31.setTop (mkF m 46 #[.val (.ref r0), .val (.int p1)] []))
  refine gs (fun t => XS.aloadN X31.here hx rfl (hb hby d5_46) rfl rfl) ?_
  show Go p e below s QQ 0 0 (T31.setTop (mkF m 47 #[.val (.ref r0), .val (.int p1)] [(.ref r0)]))
  obtain ⟨T32, X32, e32, st32⟩ := getF X31 hx hZ hown (host := "") (Or.inl (hw _ (List.mem_of_getElem? (i := 14) rfl))) Via.refl e31 F_values_r0 (g := (mkF m 47 #[.val (.ref r0), .val (.int p1)] [(.ref r0)])) rfl rfl (hb hby d5_47)
  refine gs st32 ?_
  show Go p e below s QQ 0 0 (T32.setTop (mkF m 50 #[.val (.ref r0), .val (.int p1)] [(.ref vb)]))
  refine gs (fun t => XS.aloadN X32.here hx rfl (hb hby d5_50) rfl rfl) ?_
  show Go p e below s QQ 0 0 (T32.setTop (mkF m 51 #[.val (.ref r0), .val (.int p1)] [(.ref r0), (.ref vb)]))
  obtain ⟨T33, X33, e33, st33⟩ := getF X32 hx hZ hown (host := "") (Or.inl (hw _ (List.mem_of_getElem? (i := 66) rfl))) Via.refl e32 F_slotCount_r0 (g := (mkF m 51 #[.val (.ref r0), .val (.int p1)] [(.ref r0), (.ref vb)])) rfl rfl (hb hby d5_51)
  refine gs st33 ?_
  show Go p e below s QQ 0 0 (T33.setTop (mkF m 54 #[.val (.ref r0), .val (.int p1)] [(.int (0 : Int32)), (.ref vb)]))
  refine gs (fun t => XS.iloadN X33.here hx rfl (hb hby d5_54) rfl) ?_
  show Go p e below s QQ 0 0 (T33.setTop (mkF m 55 #[.val (.ref r0), .val (.int p1)] [(.int p1), (.int (0 : Int32)), (.ref vb)]))
  obtain ⟨T34, h34, X34, e34, W34, V34, st34⟩ := stIf X33 hx hZ e33 V_vb (j := (0 : Int32)) (by decide) (g := (mkF m 55 #[.val (.ref r0), .val (.int p1)] [(.int p1), (.int (0 : Int32)), (.ref vb)])) rfl rfl (hb hby d5_55)
  replace N0 := Fr.snoc X34 N0 ge_vb
  refine gs st34 ?_
  show Go p e below s QQ 0 0 (T34.setTop (mkF m 56 #[.val (.ref r0), .val (.int p1)] []))
  replace F_values_r0 := F_values_r0.other W34 (Or.inl ne_r0_vb)
  replace F_slotCount_r0 := F_slotCount_r0.other W34 (Or.inl ne_r0_vb)
  replace E_r0 := E_r0.wr W34
  replace ZZ : n0 ≤ h34.size := by rw [W34.size]; exact ZZ
  replace KK := KK.wr W34 (Or.inl (by simp))
  replace V_vb : Arf Z h34 vb .int 64 (updv fv 0 (.int p1)) := V34
  refine gs (fun t => XS.aloadN X34.here hx rfl (hb hby d5_56) rfl rfl) ?_
  show Go p e below s QQ 0 0 (T34.setTop (mkF m 57 #[.val (.ref r0), .val (.int p1)] [(.ref r0)]))
  refine gs (fun t => XS.dup X34.here hx rfl (hb hby d5_57) rfl rfl) ?_
  show Go p e below s QQ 0 0 (T34.setTop (mkF m 58 #[.val (.ref r0), .val (.int p1)] [(.ref r0), (.ref r0)]))
  obtain ⟨T35, X35, e35, st35⟩ := getF X34 hx hZ hown (host := "") (Or.inl (hw _ (List.mem_of_getElem? (i := 66) rfl))) Via.refl e34 F_slotCount_r0 (g := (mkF m 58 #[.val (.ref r0), .val (.int p1)] [(.ref r0), (.ref r0)])) rfl rfl (hb hby d5_58)
  refine gs st35 ?_
  show Go p e below s QQ 0 0 (T35.setTop (mkF m 61 #[.val (.ref r0), .val (.int p1)] [(.int (0 : Int32)), (.ref r0)]))
  refine gs (fun t => XS.dupX1 X35.here hx rfl (hb hby d5_61) rfl rfl rfl) ?_
  show Go p e below s QQ 0 0 (T35.setTop (mkF m 62 #[.val (.ref r0), .val (.int p1)] [(.int (0 : Int32)), (.ref r0), (.int (0 : Int32))]))
  refine gs (fun t => XS.iconst X35.here hx rfl (hb hby d5_62)) ?_
  show Go p e below s QQ 0 0 (T35.setTop (mkF m 63 #[.val (.ref r0), .val (.int p1)] [(.int (1 : Int32)), (.int (0 : Int32)), (.ref r0), (.int (0 : Int32))]))
  refine gs (fun t => XS.iadd X35.here hx rfl (hb hby d5_63) rfl) ?_
  show Go p e below s QQ 0 0 (T35.setTop (mkF m 64 #[.val (.ref r0), .val (.int p1)] [(.int (1 : Int32)), (.ref r0), (.int (0 : Int32))]))
  obtain ⟨T36, h36, X36, e36, W36, st36⟩ := putF X35 hx hZ hown (host := "") (Or.inl (hw _ (List.mem_of_getElem? (i := 66) rfl))) Via.refl e35 F_slotCount_r0 E_r0 (Or.inl (hw _ (List.mem_of_getElem? (i := 67) rfl))) (hw _ (List.mem_of_getElem? (i := 5) rfl)) (ty := .int) (by decide) rfl rfl (g := (mkF m 64 #[.val (.ref r0), .val (.int p1)] [(.int (1 : Int32)), (.ref r0), (.int (0 : Int32))])) rfl rfl (hb hby d5_64)
  replace N0 := Fr.snoc X36 N0 ge_r0
  refine gs st36 ?_
  show Go p e below s QQ 0 0 (T36.setTop (mkF m 67 #[.val (.ref r0), .val (.int p1)] [(.int (0 : Int32))]))
  replace F_values_r0 := F_values_r0.other W36 (Or.inr (slot_ne (Or.inl (hw _ (List.mem_of_getElem? (i := 15) rfl))) (Or.inl (hw _ (List.mem_of_getElem? (i := 67) rfl))) (by decide) (t := (.array .int)) (t' := .int) (by decide) (by decide)))
  replace F_slotCount_r0 := F_slotCount_r0.same W36
  replace E_r0 := E_r0.wr W36
  replace V_vb := V_vb.other W36 (Ne.symm ne_r0_vb)
  replace ZZ : n0 ≤ h36.size := by rw [W36.size]; exact ZZ
  replace KK := KK.wr W36 (Or.inl (by simp))
  exact goI X36 hx Bd.notSynchronized Bd.returns (hb hby d5_67) (by rw [← hQQ, e36]; exact ⟨rfl, N0, KK⟩) (by decide) (by decide)
theorem d3_0 : decode prog_17_method_2_code 0 = .ok (.aload_n 0, 1) := by decide +kernel
theorem d3_1 : decode prog_17_method_2_code 1 = .ok (.invokespecial 11, 3) := by decide +kernel
theorem d3_4 : decode prog_17_method_2_code 4 = .ok (.aload_n 0, 1) := by decide +kernel
theorem d3_5 : decode prog_17_method_2_code 5 = .ok (.ldc2_w 16, 3) := by decide +kernel
theorem d3_8 : decode prog_17_method_2_code 8 = .ok (.putfield 18, 3) := by decide +kernel
theorem d3_11 : decode prog_17_method_2_code 11 = .ok (.aload_n 0, 1) := by decide +kernel
theorem d3_12 : decode prog_17_method_2_code 12 = .ok (.aload_n 1, 1) := by decide +kernel
theorem d3_13 : decode prog_17_method_2_code 13 = .ok (.putfield 22, 3) := by decide +kernel
theorem d3_16 : decode prog_17_method_2_code 16 = .ok (.aload_n 0, 1) := by decide +kernel
theorem d3_17 : decode prog_17_method_2_code 17 = .ok (.aload_n 1, 1) := by decide +kernel
theorem d3_18 : decode prog_17_method_2_code 18 = .ok (.arraylength, 1) := by decide +kernel
theorem d3_19 : decode prog_17_method_2_code 19 = .ok (.newarray .int, 2) := by decide +kernel
theorem d3_21 : decode prog_17_method_2_code 21 = .ok (.putfield 26, 3) := by decide +kernel
theorem d3_24 : decode prog_17_method_2_code 24 = .ok (.iconst 0, 1) := by decide +kernel
theorem d3_25 : decode prog_17_method_2_code 25 = .ok (.istore_n 3, 1) := by decide +kernel
theorem d3_26 : decode prog_17_method_2_code 26 = .ok (.iconst 0, 1) := by decide +kernel
theorem d3_27 : decode prog_17_method_2_code 27 = .ok (.istore 4, 2) := by decide +kernel
theorem d3_29 : decode prog_17_method_2_code 29 = .ok (.iload 4, 2) := by decide +kernel
theorem d3_31 : decode prog_17_method_2_code 31 = .ok (.aload_n 1, 1) := by decide +kernel
theorem d3_32 : decode prog_17_method_2_code 32 = .ok (.arraylength, 1) := by decide +kernel
theorem d3_33 : decode prog_17_method_2_code 33 = .ok (.if_icmp .ge 29, 3) := by decide +kernel
theorem d3_36 : decode prog_17_method_2_code 36 = .ok (.aload_n 1, 1) := by decide +kernel
theorem d3_37 : decode prog_17_method_2_code 37 = .ok (.iload 4, 2) := by decide +kernel
theorem d3_39 : decode prog_17_method_2_code 39 = .ok (.laload, 1) := by decide +kernel
theorem d3_40 : decode prog_17_method_2_code 40 = .ok (.lconst 0, 1) := by decide +kernel
theorem d3_41 : decode prog_17_method_2_code 41 = .ok (.lcmp, 1) := by decide +kernel
theorem d3_42 : decode prog_17_method_2_code 42 = .ok (.ifCond .eq 14, 3) := by decide +kernel
theorem d3_45 : decode prog_17_method_2_code 45 = .ok (.aload_n 0, 1) := by decide +kernel
theorem d3_46 : decode prog_17_method_2_code 46 = .ok (.getfield 26, 3) := by decide +kernel
theorem d3_49 : decode prog_17_method_2_code 49 = .ok (.iload_n 3, 1) := by decide +kernel
theorem d3_50 : decode prog_17_method_2_code 50 = .ok (.iinc 3 1, 3) := by decide +kernel
theorem d3_53 : decode prog_17_method_2_code 53 = .ok (.iload 4, 2) := by decide +kernel
theorem d3_55 : decode prog_17_method_2_code 55 = .ok (.iastore, 1) := by decide +kernel
theorem d3_56 : decode prog_17_method_2_code 56 = .ok (.iinc 4 1, 3) := by decide +kernel
theorem d3_59 : decode prog_17_method_2_code 59 = .ok (.goto (-30), 3) := by decide +kernel
theorem d3_62 : decode prog_17_method_2_code 62 = .ok (.iload_n 3, 1) := by decide +kernel
theorem d3_63 : decode prog_17_method_2_code 63 = .ok (.istore 4, 2) := by decide +kernel
theorem d3_65 : decode prog_17_method_2_code 65 = .ok (.iconst 0, 1) := by decide +kernel
theorem d3_66 : decode prog_17_method_2_code 66 = .ok (.istore 5, 2) := by decide +kernel
theorem d3_68 : decode prog_17_method_2_code 68 = .ok (.iload 5, 2) := by decide +kernel
theorem d3_70 : decode prog_17_method_2_code 70 = .ok (.aload_n 1, 1) := by decide +kernel
theorem d3_71 : decode prog_17_method_2_code 71 = .ok (.arraylength, 1) := by decide +kernel
theorem d3_72 : decode prog_17_method_2_code 72 = .ok (.if_icmp .ge 30, 3) := by decide +kernel
theorem d3_75 : decode prog_17_method_2_code 75 = .ok (.aload_n 1, 1) := by decide +kernel
theorem d3_76 : decode prog_17_method_2_code 76 = .ok (.iload 5, 2) := by decide +kernel
theorem d3_78 : decode prog_17_method_2_code 78 = .ok (.laload, 1) := by decide +kernel
theorem d3_79 : decode prog_17_method_2_code 79 = .ok (.lconst 0, 1) := by decide +kernel
theorem d3_80 : decode prog_17_method_2_code 80 = .ok (.lcmp, 1) := by decide +kernel
theorem d3_81 : decode prog_17_method_2_code 81 = .ok (.ifCond .ne 15, 3) := by decide +kernel
theorem d3_84 : decode prog_17_method_2_code 84 = .ok (.aload_n 0, 1) := by decide +kernel
theorem d3_85 : decode prog_17_method_2_code 85 = .ok (.getfield 26, 3) := by decide +kernel
theorem d3_88 : decode prog_17_method_2_code 88 = .ok (.iload 4, 2) := by decide +kernel
theorem d3_90 : decode prog_17_method_2_code 90 = .ok (.iinc 4 1, 3) := by decide +kernel
theorem d3_93 : decode prog_17_method_2_code 93 = .ok (.iload 5, 2) := by decide +kernel
theorem d3_95 : decode prog_17_method_2_code 95 = .ok (.iastore, 1) := by decide +kernel
theorem d3_96 : decode prog_17_method_2_code 96 = .ok (.iinc 5 1, 3) := by decide +kernel
theorem d3_99 : decode prog_17_method_2_code 99 = .ok (.goto (-31), 3) := by decide +kernel
theorem d3_102 : decode prog_17_method_2_code 102 = .ok (.aload_n 0, 1) := by decide +kernel
theorem d3_103 : decode prog_17_method_2_code 103 = .ok (.aload_n 2, 1) := by decide +kernel
theorem d3_104 : decode prog_17_method_2_code 104 = .ok (.putfield 30, 3) := by decide +kernel
theorem d3_107 : decode prog_17_method_2_code 107 = .ok (.aload_n 0, 1) := by decide +kernel
theorem d3_108 : decode prog_17_method_2_code 108 = .ok (.aload_n 2, 1) := by decide +kernel
theorem d3_109 : decode prog_17_method_2_code 109 = .ok (.aload_n 1, 1) := by decide +kernel
theorem d3_110 : decode prog_17_method_2_code 110 = .ok (.invokevirtual 34, 3) := by decide +kernel
theorem d3_113 : decode prog_17_method_2_code 113 = .ok (.putfield 40, 3) := by decide +kernel
theorem d3_116 : decode prog_17_method_2_code 116 = .ok (.aload_n 0, 1) := by decide +kernel
theorem d3_117 : decode prog_17_method_2_code 117 = .ok (.aload_n 2, 1) := by decide +kernel
theorem d3_118 : decode prog_17_method_2_code 118 = .ok (.iload_n 3, 1) := by decide +kernel
theorem d3_119 : decode prog_17_method_2_code 119 = .ok (.invokevirtual 44, 3) := by decide +kernel
theorem d3_122 : decode prog_17_method_2_code 122 = .ok (.putfield 48, 3) := by decide +kernel
theorem d3_125 : decode prog_17_method_2_code 125 = .ok (.return_, 1) := by decide +kernel
theorem pn_3 : plainName "com/example/tuplewise/tuplewise/SparseBitSet" = true := by first | (simp [plainName, overriddenIn]; done) | decide +kernel
def Qrm3 (Z : State) (r0 : Addr) (r1 : Addr) (r2 : Addr) (vb : Addr) (lb : Addr) (fw : Nat → Value) (u0 : Int64) (u1 : Int64) (u2 : Int64) (h0 : Heap) (n0 : Nat) (v : Option Value) (h : Heap) (L : List Loc) : Prop := v = none ∧ Fr n0 L ∧ Keep h0 h [r0, r2, vb, lb] ∧ Fld Z h r0 "com/example/tuplewise/tuplewise/SparseBitSet" "words" "[J" (.ref r1)
set_option maxRecDepth 65536 in
set_option maxHeartbeats 40000000 in
theorem rm3 (l : Launch) (Z : State) (a0 : Array Value) (hw : ∀ d ∈ tables_1, d.before a0 Z = true) (ws : List Jvm.Cond) (r0 : Addr) (r1 : Addr) (r2 : Addr) (vb : Addr) (lb : Addr) (fw : Nat → Value) (u0 : Int64) (u1 : Int64) (u2 : Int64) (h0 : Heap) (n0 : Nat) (Z0 : n0 ≤ h0.size) (F_savedIn_r0 : Fld Z h0 r0 "com/example/tuplewise/tuplewise/SparseBitSet" "savedIn" "J" (.long (0 : Int64))) (F_words_r0 : Fld Z h0 r0 "com/example/tuplewise/tuplewise/SparseBitSet" "words" "[J" .null) (F_live_r0 : Fld Z h0 r0 "com/example/tuplewise/tuplewise/SparseBitSet" "live" "[I" .null) (F_trail_r0 : Fld Z h0 r0 "com/example/tuplewise/tuplewise/SparseBitSet" "trail" "Lcom/example/tuplewise/tuplewise/Trail;" .null) (F_wordsKept_r0 : Fld Z h0 r0 "com/example/tuplewise/tuplewise/SparseBitSet" "wordsKept" "I" (.int (0 : Int32))) (F_liveSlot_r0 : Fld Z h0 r0 "com/example/tuplewise/tuplewise/SparseBitSet" "liveSlot" "I" (.int (0 : Int32))) (F_values_r2 : Fld Z h0 r2 "com/example/tuplewise/tuplewise/Trail" "values" "[I" (.ref vb)) (F_longArrays_r2 : Fld Z h0 r2 "com/example/tuplewise/tuplewise/Trail" "longArrays" "[[J" (.ref lb)) (F_longArrayCount_r2 : Fld Z h0 r2 "com/example/tuplewise/tuplewise/Trail" "longArrayCount" "I" (.int (0 : Int32))) (F_slotCount_r2 : Fld Z h0 r2 "com/example/tuplewise/tuplewise/Trail" "slotCount" "I" (.int (0 : Int32))) (E_r0 : Exa Z h0 r0 "com/example/tuplewise/tuplewise/SparseBitSet") (E_r1 : Exa Z h0 r1 "[J") (E_r2 : Exa Z h0 r2 "com/example/tuplewise/tuplewise/Trail") (V_r1 : Arf Z h0 r1 .long 3 fw) (V_vb : Arf Z h0 vb .int 64 (fun _ => .int 0)) (V_lb : Arf Z h0 lb (.array .long) 8 (fun _ => .null)) (TK_lb : Tak Z h0 lb "[J") (ge_r0 : n0 ≤ r0) (ge_r2 : n0 ≤ r2) (ge_vb : n0 ≤ vb) (ge_lb : n0 ≤ lb) (ne_r0_r1 : r0 ≠ r1) (ne_r0_r2 : r0 ≠ r2) (ne_r0_vb : r0 ≠ vb) (ne_r0_lb : r0 ≠ lb) (ne_r1_r2 : r1 ≠ r2) (ne_r1_vb : r1 ≠ vb) (ne_r1_lb : r1 ≠ lb) (ne_r2_vb : r2 ≠ vb) (ne_r2_lb : r2 ≠ lb) (ne_vb_lb : vb ≠ lb) (hw0 : fw 0 = .long u0) (hw1 : fw 1 = .long u1) (hw2 : fw 2 = .long u2) :
    MetFree l (⟨"com/example/tuplewise/tuplewise/SparseBitSet", "<init>", "([JLcom/example/tuplewise/tuplewise/Trail;)V"⟩ : MethodName) (head1 (Jvm.Cond.code (⟨"com/example/tuplewise/tuplewise/SparseBitSet", "<init>", "([JLcom/example/tuplewise/tuplewise/Trail;)V"⟩ : MethodName) prog_17_method_2_code 6 none :: ws) ({ frames := 1, cells := 1, slots := 3, locals := 14 } : Room)) (fun a U => a = #[(.ref r0), (.ref r1), (.ref r2)] ∧ Z.Warmed39 U.vm ∧ U.heap = h0) (fun _ _ _ _ _ => True) (fun _ U o U' => ∃ v L, o = .returned v ∧ Qrm3 Z r0 r1 r2 vb lb fw u0 u1 u2 h0 n0 v U'.heap L ∧ FrameEnd U o U' L ({ frames := 1, cells := 1, slots := 3, locals := 14 } : Room).cells ({ frames := 1, cells := 1, slots := 3, locals := 14 } : Room).slots) := by
  refine MetFree.of_bodySF (plainFor_of_name pn_3) hisR ?_
  intro p e s m args below meth c s₁ Bd hml0 hP hK
  obtain ⟨rfl, hZ, hh⟩ := hP
  have hx := Bd.exec
  have hby := Bd.bytes
  have hml : c.maxLocals = 6 := hml0
  have hown : s.vm.findClass "com/example/tuplewise/tuplewise/SparseBitSet" = some m.cls := findClass_of_methodNamed Bd.named
  have hnm := (name_of_methodNamed Bd.named Bd.method).1
  have X0 : Stand p l e ({ frames := 1, cells := 1, slots := 3, locals := 14 } : Room) s m #[(.ref r0), (.ref r1), (.ref r2)] below meth c s₁ [] 0 0 := Stand.of_body Bd
  have e0 : s₁.heap = h0 := by rw [← hh, Bd.state]; rfl
  have N0 := Fr.nil n0
  have ZZ := Z0
  have KK : Keep h0 h0 [r0, r2, vb, lb] := Keep.refl h0 _
  show Go p e below s (Qrm3 Z r0 r1 r2 vb lb fw u0 u1 u2 h0 n0) 1 3 (s₁.setTop (entryFrame m #[(.ref r0), (.ref r1), (.ref r2)] 6))
  generalize hQQ : (Qrm3 Z r0 r1 r2 vb lb fw u0 u1 u2 h0 n0) = QQ
  refine gs (fun t k => castTop (g' := (mkF m 0 #[.val (.ref r0), .val (.ref r1), .val (.ref r2), .unset, .unset, .unset] [])) (by first | (simp [entryFrame, mkF, argsToLocals, Value.category, maxLocals]; done) | rfl) k) ?_
  show Go p e below s QQ 1 3 (s₁.setTop (mkF m 0 #[.val (.ref r0), .val (.ref r1), .val (.ref r2), .unset, .unset, .unset] []))
  refine gs (fun t => XS.aloadN X0.here hx rfl (hb hby d3_0) rfl rfl) ?_
  show Go p e below s QQ 1 3 (s₁.setTop (mkF m 1 #[.val (.ref r0), .val (.ref r1), .val (.ref r2), .unset, .unset, .unset] [(.ref r0)]))
  obtain ⟨T37, X37, e37, st37⟩ := initO X0 hx hZ hown (hw _ (List.mem_of_getElem? (i := 41) rfl)) (hw _ (List.mem_of_getElem? (i := 11) rfl)) (hw _ (List.mem_of_getElem? (i := 12) rfl)) e0 (g := (mkF m 1 #[.val (.ref r0), .val (.ref r1), .val (.ref r2), .unset, .unset, .unset] [(.ref r0)])) rfl (by rw [hml]; rfl) rfl (hb hby d3_1) (by decide) (W := 0) (by show 2 * 0 + _ ≤ _; exact Nat.le_of_eq rfl) (by decide)
  refine gs st37 ?_
  show Go p e below s QQ 1 3 (T37.setTop (mkF m 4 #[.val (.ref r0), .val (.ref r1), .val (.ref r2), .unset, .unset, .unset] []))
  refine gs (fun t => XS.aloadN X37.here hx rfl (hb hby d3_4) rfl rfl) ?_
  show Go p e below s QQ 1 3 (T37.setTop (mkF m 5 #[.val (.ref r0), .val (.ref r1), .val (.ref r2), .unset, .unset, .unset] [(.ref r0)]))
  refine gs (fun t => X37.ldc2Long hx hown (mvT hZ (hw _ (List.mem_of_getElem? (i := 42) rfl))) (g := (mkF m 5 #[.val (.ref r0), .val (.ref r1), .val (.ref r2), .unset, .unset, .unset] [(.ref r0)])) rfl (hb hby d3_5) t) ?_
  show Go p e below s QQ 1 3 (T37.setTop (mkF m 8 #[.val (.ref r0), .val (.ref r1), .val (.ref r2), .unset, .unset, .unset] [(.long (-1 : Int64)), (.ref r0)]))
  obtain ⟨T38, h38, X38, e38, W38, st38⟩ := putF X37 hx hZ hown (host := "") (Or.inl (hw _ (List.mem_of_getElem? (i := 43) rfl))) Via.refl e37 F_savedIn_r0 E_r0 (Or.inl (hw _ (List.mem_of_getElem? (i := 44) rfl))) (hw _ (List.mem_of_getElem? (i := 2) rfl)) (ty := .long) (by decide) rfl rfl (g := (mkF m 8 #[.val (.ref r0), .val (.ref r1), .val (.ref r2), .unset, .unset, .unset] [(.long (-1 : Int64)), (.ref r0)])) rfl rfl (hb hby d3_8)
  replace N0 := Fr.snoc X38 N0 ge_r0
  refine gs st38 ?_
  show Go p e below s QQ 1 3 (T38.setTop (mkF m 11 #[.val (.ref r0), .val (.ref r1), .val (.ref r2), .unset, .unset, .unset] []))
  replace F_savedIn_r0 := F_savedIn_r0.same W38
  replace F_words_r0 := F_words_r0.other W38 (Or.inr (slot_ne (Or.inr (hw _ (List.mem_of_getElem? (i := 46) rfl))) (Or.inl (hw _ (List.mem_of_getElem? (i := 44) rfl))) (by decide) (t := (.array .long)) (t' := .long) (by decide) (by decide)))
  replace F_live_r0 := F_live_r0.other W38 (Or.inr (slot_ne (Or.inr (hw _ (List.mem_of_getElem? (i := 48) rfl))) (Or.inl (hw _ (List.mem_of_getElem? (i := 44) rfl))) (by decide) (t := (.array .int)) (t' := .long) (by decide) (by decide)))
  replace F_trail_r0 := F_trail_r0.other W38 (Or.inr (slot_ne (Or.inr (hw _ (List.mem_of_getElem? (i := 50) rfl))) (Or.inl (hw _ (List.mem_of_getElem? (i := 44) rfl))) (by decide) (t := (.object "com/example/tuplewise/tuplewise/Trail")) (t' := .long) (by decide) (by decide)))
  replace F_wordsKept_r0 := F_wordsKept_r0.other W38 (Or.inr (slot_ne (Or.inr (hw _ (List.mem_of_getElem? (i := 60) rfl))) (Or.inl (hw _ (List.mem_of_getElem? (i := 44) rfl))) (by decide) (t := .int) (t' := .long) (by decide) (by decide)))
  replace F_liveSlot_r0 := F_liveSlot_r0.other W38 (Or.inr (slot_ne (Or.inr (hw _ (List.mem_of_getElem? (i := 69) rfl))) (Or.inl (hw _ (List.mem_of_getElem? (i := 44) rfl))) (by decide) (t := .int) (t' := .long) (by decide) (by decide)))
  replace F_values_r2 := F_values_r2.other W38 (Or.inl (Ne.symm ne_r0_r2))
  replace F_longArrays_r2 := F_longArrays_r2.other W38 (Or.inl (Ne.symm ne_r0_r2))
  replace F_longArrayCount_r2 := F_longArrayCount_r2.other W38 (Or.inl (Ne.symm ne_r0_r2))
  replace F_slotCount_r2 := F_slotCount_r2.other W38 (Or.inl (Ne.symm ne_r0_r2))
  replace E_r0 := E_r0.wr W38
  replace E_r1 := E_r1.wr W38
  replace E_r2 := E_r2.wr W38
  replace V_r1 := V_r1.other W38 (Ne.symm ne_r0_r1)
  replace V_vb := V_vb.other W38 (Ne.symm ne_r0_vb)
  replace V_lb := V_lb.other W38 (Ne.symm ne_r0_lb)
  replace TK_lb := TK_lb.wr W38
  replace ZZ : n0 ≤ h38.size := by rw [W38.size]; exact ZZ
  replace KK := KK.wr W38 (Or.inl (by simp))
  refine gs (fun t => XS.aloadN X38.here hx rfl (hb hby d3_11) rfl rfl) ?_
  show Go p e below s QQ 1 3 (T38.setTop (mkF m 12 #[.val (.ref r0), .val (.ref r1), .val (.ref r2), .unset, .unset, .unset] [(.ref r0)]))
  refine gs (fun t => XS.aloadN X38.here hx rfl (hb hby d3_12) rfl rfl) ?_
  show Go p e below s QQ 1 3 (T38.setTop (mkF m 13 #[.val (.ref r0), .val (.ref r1), .val (.ref r2), .unset, .unset, .unset] [(.ref r1), (.ref r0)]))
  obtain ⟨T39, h39, X39, e39, W39, st39⟩ := putF X38 hx hZ hown (host := "") (Or.inl (hw _ (List.mem_of_getElem? (i := 45) rfl))) Via.refl e38 F_words_r0 E_r0 (Or.inr ⟨(hw _ (List.mem_of_getElem? (i := 46) rfl)), rfl, hnm⟩) (hw _ (List.mem_of_getElem? (i := 2) rfl)) (ty := (.array .long)) (by decide) rfl rfl (g := (mkF m 13 #[.val (.ref r0), .val (.ref r1), .val (.ref r2), .unset, .unset, .unset] [(.ref r1), (.ref r0)])) rfl rfl (hb hby d3_13)
  replace N0 := Fr.snoc X39 N0 ge_r0
  refine gs st39 ?_
  show Go p e below s QQ 1 3 (T39.setTop (mkF m 16 #[.val (.ref r0), .val (.ref r1), .val (.ref r2), .unset, .unset, .unset] []))
  replace F_savedIn_r0 := F_savedIn_r0.other W39 (Or.inr (slot_ne (Or.inl (hw _ (List.mem_of_getElem? (i := 44) rfl))) (Or.inr (hw _ (List.mem_of_getElem? (i := 46) rfl))) (by decide) (t := .long) (t' := (.array .long)) (by decide) (by decide)))
  replace F_words_r0 := F_words_r0.same W39
  replace F_live_r0 := F_live_r0.other W39 (Or.inr (slot_ne (Or.inr (hw _ (List.mem_of_getElem? (i := 48) rfl))) (Or.inr (hw _ (List.mem_of_getElem? (i := 46) rfl))) (by decide) (t := (.array .int)) (t' := (.array .long)) (by decide) (by decide)))
  replace F_trail_r0 := F_trail_r0.other W39 (Or.inr (slot_ne (Or.inr (hw _ (List.mem_of_getElem? (i := 50) rfl))) (Or.inr (hw _ (List.mem_of_getElem? (i := 46) rfl))) (by decide) (t := (.object "com/example/tuplewise/tuplewise/Trail")) (t' := (.array .long)) (by decide) (by decide)))
  replace F_wordsKept_r0 := F_wordsKept_r0.other W39 (Or.inr (slot_ne (Or.inr (hw _ (List.mem_of_getElem? (i := 60) rfl))) (Or.inr (hw _ (List.mem_of_getElem? (i := 46) rfl))) (by decide) (t := .int) (t' := (.array .long)) (by decide) (by decide)))
  replace F_liveSlot_r0 := F_liveSlot_r0.other W39 (Or.inr (slot_ne (Or.inr (hw _ (List.mem_of_getElem? (i := 69) rfl))) (Or.inr (hw _ (List.mem_of_getElem? (i := 46) rfl))) (by decide) (t := .int) (t' := (.array .long)) (by decide) (by decide)))
  replace F_values_r2 := F_values_r2.other W39 (Or.inl (Ne.symm ne_r0_r2))
  replace F_longArrays_r2 := F_longArrays_r2.other W39 (Or.inl (Ne.symm ne_r0_r2))
  replace F_longArrayCount_r2 := F_longArrayCount_r2.other W39 (Or.inl (Ne.symm ne_r0_r2))
  replace F_slotCount_r2 := F_slotCount_r2.other W39 (Or.inl (Ne.symm ne_r0_r2))
  replace E_r0 := E_r0.wr W39
  replace E_r1 := E_r1.wr W39
  replace E_r2 := E_r2.wr W39
  replace V_r1 := V_r1.other W39 (Ne.symm ne_r0_r1)
  replace V_vb := V_vb.other W39 (Ne.symm ne_r0_vb)
  replace V_lb := V_lb.other W39 (Ne.symm ne_r0_lb)
  replace TK_lb := TK_lb.wr W39
  replace ZZ : n0 ≤ h39.size := by rw [W39.size]; exact ZZ
  replace KK := KK.wr W39 (Or.inl (by simp))
  refine gs (fun t => XS.aloadN X39.here hx rfl (hb hby d3_16) rfl rfl) ?_
  show Go p e below s QQ 1 3 (T39.setTop (mkF m 17 #[.val (.ref r0), .val (.ref r1), .val (.ref r2), .unset, .unset, .unset] [(.ref r0)]))
  refine gs (fun t => XS.aloadN X39.here hx rfl (hb hby d3_17) rfl rfl) ?_
  show Go p e below s QQ 1 3 (T39.setTop (mkF m 18 #[.val (.ref r0), .val (.ref r1), .val (.ref r2), .unset, .unset, .unset] [(.ref r1), (.ref r0)]))
  refine gs (fun t => lenf X39 hx hZ e39 V_r1 (z := (3 : Int32)) rfl (g := (mkF m 18 #[.val (.ref r0), .val (.ref r1), .val (.ref r2), .unset, .unset, .unset] [(.ref r1), (.ref r0)])) rfl rfl (hb hby d3_18) t) ?_
  show Go p e below s QQ 1 3 (T39.setTop (mkF m 19 #[.val (.ref r0), .val (.ref r1), .val (.ref r2), .unset, .unset, .unset] [(.int (3 : Int32)), (.ref r0)]))
  obtain ⟨T40, h40, k40, X40, e40, E40, A40, st40⟩ := newP X39 hx hZ (hw _ (List.mem_of_getElem? (i := 13) rfl)) e39 (g := (mkF m 19 #[.val (.ref r0), .val (.ref r1), .val (.ref r2), .unset, .unset, .unset] [(.int (3 : Int32)), (.ref r0)])) rfl (hb hby d3_19) rfl (by decide) (cap := 3) (by decide) (by decide) (by decide) (by decide)
  obtain ⟨b40, g40⟩ : ∃ z, z = h39.size := ⟨_, rfl⟩
  rw [← g40] at A40 st40
  have ge_b40 : n0 ≤ b40 := by rw [g40]; exact ZZ
  have sz_b40 : h0.size ≤ b40 := by rw [g40]; exact KK.1
  have ne_r0_b40 : r0 ≠ b40 := by rw [g40]; exact Nat.ne_of_lt F_savedIn_r0.lt
  have ne_r2_b40 : r2 ≠ b40 := by rw [g40]; exact Nat.ne_of_lt F_values_r2.lt
  have ne_r1_b40 : r1 ≠ b40 := by rw [g40]; exact Nat.ne_of_lt E_r1.lt
  have ne_vb_b40 : vb ≠ b40 := by rw [g40]; exact Nat.ne_of_lt V_vb.lt
  have ne_lb_b40 : lb ≠ b40 := by rw [g40]; exact Nat.ne_of_lt V_lb.lt
  refine gs st40 ?_
  show Go p e below s QQ 1 3 (T40.setTop (mkF m 21 #[.val (.ref r0), .val (.ref r1), .val (.ref r2), .unset, .unset, .unset] [(.ref b40), (.ref r0)]))
  replace F_savedIn_r0 := F_savedIn_r0.ext E40
  replace F_words_r0 := F_words_r0.ext E40
  replace F_live_r0 := F_live_r0.ext E40
  replace F_trail_r0 := F_trail_r0.ext E40
  replace F_wordsKept_r0 := F_wordsKept_r0.ext E40
  replace F_liveSlot_r0 := F_liveSlot_r0.ext E40
  replace F_values_r2 := F_values_r2.ext E40
  replace F_longArrays_r2 := F_longArrays_r2.ext E40
  replace F_longArrayCount_r2 := F_longArrayCount_r2.ext E40
  replace F_slotCount_r2 := F_slotCount_r2.ext E40
  replace E_r0 := E_r0.ext E40
  replace E_r1 := E_r1.ext E40
  replace E_r2 := E_r2.ext E40
  replace V_r1 := V_r1.ext E40
  replace V_vb := V_vb.ext E40
  replace V_lb := V_lb.ext E40
  replace TK_lb := TK_lb.ext E40
  replace ZZ := Nat.le_trans ZZ E40.1
  replace KK := KK.ext E40
  have V_b40 : Arf Z h40 b40 .int 3 (fun _ => .int 0) := Arf.new A40
  obtain ⟨d0, hd0, hd0', bd0, be0⟩ := own_d u0
  obtain ⟨d1, hd1, hd1', bd1, be1⟩ := own_d u1
  obtain ⟨d2, hd2, hd2', bd2, be2⟩ := own_d u2
  have hf : ∀ i, fw i = fw i := fun _ => rfl
  obtain ⟨T41, h41, X41, e41, W41, st41⟩ := putF X40 hx hZ hown (host := "") (Or.inl (hw _ (List.mem_of_getElem? (i := 47) rfl))) Via.refl e40 F_live_r0 E_r0 (Or.inr ⟨(hw _ (List.mem_of_getElem? (i := 48) rfl)), rfl, hnm⟩) (hw _ (List.mem_of_getElem? (i := 2) rfl)) (ty := (.array .int)) (by decide) rfl rfl (g := (mkF m 21 #[.val (.ref r0), .val (.ref r1), .val (.ref r2), .unset, .unset, .unset] [(.ref b40), (.ref r0)])) rfl rfl (hb hby d3_21)
  replace N0 := Fr.snoc X41 N0 ge_r0
  refine gs st41 ?_
  show Go p e below s QQ 1 3 (T41.setTop (mkF m 24 #[.val (.ref r0), .val (.ref r1), .val (.ref r2), .unset, .unset, .unset] []))
  replace F_savedIn_r0 := F_savedIn_r0.other W41 (Or.inr (slot_ne (Or.inl (hw _ (List.mem_of_getElem? (i := 44) rfl))) (Or.inr (hw _ (List.mem_of_getElem? (i := 48) rfl))) (by decide) (t := .long) (t' := (.array .int)) (by decide) (by decide)))
  replace F_words_r0 := F_words_r0.other W41 (Or.inr (slot_ne (Or.inr (hw _ (List.mem_of_getElem? (i := 46) rfl))) (Or.inr (hw _ (List.mem_of_getElem? (i := 48) rfl))) (by decide) (t := (.array .long)) (t' := (.array .int)) (by decide) (by decide)))
  replace F_live_r0 := F_live_r0.same W41
  replace F_trail_r0 := F_trail_r0.other W41 (Or.inr (slot_ne (Or.inr (hw _ (List.mem_of_getElem? (i := 50) rfl))) (Or.inr (hw _ (List.mem_of_getElem? (i := 48) rfl))) (by decide) (t := (.object "com/example/tuplewise/tuplewise/Trail")) (t' := (.array .int)) (by decide) (by decide)))
  replace F_wordsKept_r0 := F_wordsKept_r0.other W41 (Or.inr (slot_ne (Or.inr (hw _ (List.mem_of_getElem? (i := 60) rfl))) (Or.inr (hw _ (List.mem_of_getElem? (i := 48) rfl))) (by decide) (t := .int) (t' := (.array .int)) (by decide) (by decide)))
  replace F_liveSlot_r0 := F_liveSlot_r0.other W41 (Or.inr (slot_ne (Or.inr (hw _ (List.mem_of_getElem? (i := 69) rfl))) (Or.inr (hw _ (List.mem_of_getElem? (i := 48) rfl))) (by decide) (t := .int) (t' := (.array .int)) (by decide) (by decide)))
  replace F_values_r2 := F_values_r2.other W41 (Or.inl (Ne.symm ne_r0_r2))
  replace F_longArrays_r2 := F_longArrays_r2.other W41 (Or.inl (Ne.symm ne_r0_r2))
  replace F_longArrayCount_r2 := F_longArrayCount_r2.other W41 (Or.inl (Ne.symm ne_r0_r2))
  replace F_slotCount_r2 := F_slotCount_r2.other W41 (Or.inl (Ne.symm ne_r0_r2))
  replace E_r0 := E_r0.wr W41
  replace E_r1 := E_r1.wr W41
  replace E_r2 := E_r2.wr W41
  replace V_r1 := V_r1.other W41 (Ne.symm ne_r0_r1)
  replace V_vb := V_vb.other W41 (Ne.symm ne_r0_vb)
  replace V_lb := V_lb.other W41 (Ne.symm ne_r0_lb)
  replace TK_lb := TK_lb.wr W41
  replace V_b40 := V_b40.other W41 (Ne.symm ne_r0_b40)
  replace ZZ : n0 ≤ h41.size := by rw [W41.size]; exact ZZ
  replace KK := KK.wr W41 (Or.inl (by simp))
  refine gs (fun t => XS.iconst X41.here hx rfl (hb hby d3_24)) ?_
  show Go p e below s QQ 1 3 (T41.setTop (mkF m 25 #[.val (.ref r0), .val (.ref r1), .val (.ref r2), .unset, .unset, .unset] [(.int (0 : Int32))]))
  refine gs (fun t => XS.istoreN X41.here hx rfl (hb hby d3_25) rfl (l' := #[.val (.ref r0), .val (.ref r1), .val (.ref r2), .val (.int (0 : Int32)), .unset, .unset]) rfl) ?_
  show Go p e below s QQ 1 3 (T41.setTop (mkF m 26 #[.val (.ref r0), .val (.ref r1), .val (.ref r2), .val (.int (0 : Int32)), .unset, .unset] []))
  refine gs (fun t => XS.iconst X41.here hx rfl (hb hby d3_26)) ?_
  show Go p e below s QQ 1 3 (T41.setTop (mkF m 27 #[.val (.ref r0), .val (.ref r1), .val (.ref r2), .val (.int (0 : Int32)), .unset, .unset] [(.int (0 : Int32))]))
  refine gs (fun t => XS.istore X41.here hx rfl (hb hby d3_27) rfl (l' := #[.val (.ref r0), .val (.ref r1), .val (.ref r2), .val (.int (0 : Int32)), .val (.int (0 : Int32)), .unset]) rfl) ?_
  show Go p e below s QQ 1 3 (T41.setTop (mkF m 29 #[.val (.ref r0), .val (.ref r1), .val (.ref r2), .val (.int (0 : Int32)), .val (.int (0 : Int32)), .unset] []))
  refine gs (fun t => XS.iload X41.here hx rfl (hb hby d3_29) rfl) ?_
  show Go p e below s QQ 1 3 (T41.setTop (mkF m 31 #[.val (.ref r0), .val (.ref r1), .val (.ref r2), .val (.int (0 : Int32)), .val (.int (0 : Int32)), .unset] [(.int (0 : Int32))]))
  refine gs (fun t => XS.aloadN X41.here hx rfl (hb hby d3_31) rfl rfl) ?_
  show Go p e below s QQ 1 3 (T41.setTop (mkF m 32 #[.val (.ref r0), .val (.ref r1), .val (.ref r2), .val (.int (0 : Int32)), .val (.int (0 : Int32)), .unset] [(.ref r1), (.int (0 : Int32))]))
  refine gs (fun t => lenf X41 hx hZ e41 V_r1 (z := (3 : Int32)) rfl (g := (mkF m 32 #[.val (.ref r0), .val (.ref r1), .val (.ref r2), .val (.int (0 : Int32)), .val (.int (0 : Int32)), .unset] [(.ref r1), (.int (0 : Int32))])) rfl rfl (hb hby d3_32) t) ?_
  show Go p e below s QQ 1 3 (T41.setTop (mkF m 33 #[.val (.ref r0), .val (.ref r1), .val (.ref r2), .val (.int (0 : Int32)), .val (.int (0 : Int32)), .unset] [(.int (3 : Int32)), (.int (0 : Int32))]))
  refine gs (fun t => XS.icmpNo X41.here hx rfl (hb hby d3_33) rfl (tlt (by decide : (0 : Int32) < (3 : Int32))).2.1) ?_
  show Go p e below s QQ 1 3 (T41.setTop (mkF m 36 #[.val (.ref r0), .val (.ref r1), .val (.ref r2), .val (.int (0 : Int32)), .val (.int (0 : Int32)), .unset] []))
  refine gs (fun t => XS.aloadN X41.here hx rfl (hb hby d3_36) rfl rfl) ?_
  show Go p e below s QQ 1 3 (T41.setTop (mkF m 37 #[.val (.ref r0), .val (.ref r1), .val (.ref r2), .val (.int (0 : Int32)), .val (.int (0 : Int32)), .unset] [(.ref r1)]))
  refine gs (fun t => XS.iload X41.here hx rfl (hb hby d3_37) rfl) ?_
  show Go p e below s QQ 1 3 (T41.setTop (mkF m 39 #[.val (.ref r0), .val (.ref r1), .val (.ref r2), .val (.int (0 : Int32)), .val (.int (0 : Int32)), .unset] [(.int (0 : Int32)), (.ref r1)]))
  refine gs (fun t => ldJf X41 hx hZ e41 V_r1 (j := (0 : Int32)) (v := (.long u0)) (by decide) hw0 (g := (mkF m 39 #[.val (.ref r0), .val (.ref r1), .val (.ref r2), .val (.int (0 : Int32)), .val (.int (0 : Int32)), .unset] [(.int (0 : Int32)), (.ref r1)])) rfl rfl (hb hby d3_39) t) ?_
  show Go p e below s QQ 1 3 (T41.setTop (mkF m 40 #[.val (.ref r0), .val (.ref r1), .val (.ref r2), .val (.int (0 : Int32)), .val (.int (0 : Int32)), .unset] [(.long u0)]))
  refine gs (fun t => XS.lconst X41.here hx rfl (hb hby d3_40)) ?_
  show Go p e below s QQ 1 3 (T41.setTop (mkF m 41 #[.val (.ref r0), .val (.ref r1), .val (.ref r2), .val (.int (0 : Int32)), .val (.int (0 : Int32)), .unset] [(.long (0 : Int64)), (.long u0)]))
  refine gs (fun t => XS.lcmp X41.here hx rfl (hb hby d3_41) rfl) ?_
  show Go p e below s QQ 1 3 (T41.setTop (mkF m 42 #[.val (.ref r0), .val (.ref r1), .val (.ref r2), .val (.int (0 : Int32)), .val (.int (0 : Int32)), .unset] [(.int (lcmpW u0 (0 : Int64)))]))
  have ka1 : ∀ (cn : Int32) (fl : Nat → Value) (T42 : State) (h42 : Heap) (lc42 : List Loc) (X42 : Stand p l e ({ frames := 1, cells := 1, slots := 3, locals := 14 } : Room) s m #[(.ref r0), (.ref r1), (.ref r2)] below meth c T42 lc42 1 3) (N42 : Fr n0 lc42) (e42 : T42.heap = h42) (ZZ : n0 ≤ h42.size) (KK : Keep h0 h42 [r0, r2, vb, lb]) (F_savedIn_r0 : Fld Z h42 r0 "com/example/tuplewise/tuplewise/SparseBitSet" "savedIn" "J" (.long (-1 : Int64))) (F_words_r0 : Fld Z h42 r0 "com/example/tuplewise/tuplewise/SparseBitSet" "words" "[J" (.ref r1)) (F_live_r0 : Fld Z h42 r0 "com/example/tuplewise/tuplewise/SparseBitSet" "live" "[I" (.ref b40)) (F_trail_r0 : Fld Z h42 r0 "com/example/tuplewise/tuplewise/SparseBitSet" "trail" "Lcom/example/tuplewise/tuplewise/Trail;" .null) (F_wordsKept_r0 : Fld Z h42 r0 "com/example/tuplewise/tuplewise/SparseBitSet" "wordsKept" "I" (.int (0 : Int32))) (F_liveSlot_r0 : Fld Z h42 r0 "com/example/tuplewise/tuplewise/SparseBitSet" "liveSlot" "I" (.int (0 : Int32))) (F_values_r2 : Fld Z h42 r2 "com/example/tuplewise/tuplewise/Trail" "values" "[I" (.ref vb)) (F_longArrays_r2 : Fld Z h42 r2 "com/example/tuplewise/tuplewise/Trail" "longArrays" "[[J" (.ref lb)) (F_longArrayCount_r2 : Fld Z h42 r2 "com/example/tuplewise/tuplewise/Trail" "longArrayCount" "I" (.int (0 : Int32))) (F_slotCount_r2 : Fld Z h42 r2 "com/example/tuplewise/tuplewise/Trail" "slotCount" "I" (.int (0 : Int32))) (E_r0 : Exa Z h42 r0 "com/example/tuplewise/tuplewise/SparseBitSet") (E_r1 : Exa Z h42 r1 "[J") (E_r2 : Exa Z h42 r2 "com/example/tuplewise/tuplewise/Trail") (V_r1 : Arf Z h42 r1 .long 3 fw) (V_vb : Arf Z h42 vb .int 64 (fun _ => .int 0)) (V_lb : Arf Z h42 lb (.array .long) 8 (fun _ => .null)) (TK_lb : Tak Z h42 lb "[J") (V_b40 : Arf Z h42 b40 .int 3 fl) (hc : cn.toInt = d0), Go p e below s QQ 1 3 (T42.setTop (mkF m 29 #[.val (.ref r0), .val (.ref r1), .val (.ref r2), .val (.int cn), .val (.int (1 : Int32)), .unset] [])) := by
    intro cn fl T42 h42 lc42 X42 N42 e42 ZZ KK F_savedIn_r0 F_words_r0 F_live_r0 F_trail_r0 F_wordsKept_r0 F_liveSlot_r0 F_values_r2 F_longArrays_r2 F_longArrayCount_r2 F_slotCount_r2 E_r0 E_r1 E_r2 V_r1 V_vb V_lb TK_lb V_b40 hc
    refine gs (fun t => XS.iload X42.here hx rfl (hb hby d3_29) rfl) ?_
    show Go p e below s QQ 1 3 (T42.setTop (mkF m 31 #[.val (.ref r0), .val (.ref r1), .val (.ref r2), .val (.int cn), .val (.int (1 : Int32)), .unset] [(.int (1 : Int32))]))
    refine gs (fun t => XS.aloadN X42.here hx rfl (hb hby d3_31) rfl rfl) ?_
    show Go p e below s QQ 1 3 (T42.setTop (mkF m 32 #[.val (.ref r0), .val (.ref r1), .val (.ref r2), .val (.int cn), .val (.int (1 : Int32)), .unset] [(.ref r1), (.int (1 : Int32))]))
    refine gs (fun t => lenf X42 hx hZ e42 V_r1 (z := (3 : Int32)) rfl (g := (mkF m 32 #[.val (.ref r0), .val (.ref r1), .val (.ref r2), .val (.int cn), .val (.int (1 : Int32)), .unset] [(.ref r1), (.int (1 : Int32))])) rfl rfl (hb hby d3_32) t) ?_
    show Go p e below s QQ 1 3 (T42.setTop (mkF m 33 #[.val (.ref r0), .val (.ref r1), .val (.ref r2), .val (.int cn), .val (.int (1 : Int32)), .unset] [(.int (3 : Int32)), (.int (1 : Int32))]))
    refine gs (fun t => XS.icmpNo X42.here hx rfl (hb hby d3_33) rfl (tlt (by decide : (1 : Int32) < (3 : Int32))).2.1) ?_
    show Go p e below s QQ 1 3 (T42.setTop (mkF m 36 #[.val (.ref r0), .val (.ref r1), .val (.ref r2), .val (.int cn), .val (.int (1 : Int32)), .unset] []))
    refine gs (fun t => XS.aloadN X42.here hx rfl (hb hby d3_36) rfl rfl) ?_
    show Go p e below s QQ 1 3 (T42.setTop (mkF m 37 #[.val (.ref r0), .val (.ref r1), .val (.ref r2), .val (.int cn), .val (.int (1 : Int32)), .unset] [(.ref r1)]))
    refine gs (fun t => XS.iload X42.here hx rfl (hb hby d3_37) rfl) ?_
    show Go p e below s QQ 1 3 (T42.setTop (mkF m 39 #[.val (.ref r0), .val (.ref r1), .val (.ref r2), .val (.int cn), .val (.int (1 : Int32)), .unset] [(.int (1 : Int32)), (.ref r1)]))
    refine gs (fun t => ldJf X42 hx hZ e42 V_r1 (j := (1 : Int32)) (v := (.long u1)) (by decide) hw1 (g := (mkF m 39 #[.val (.ref r0), .val (.ref r1), .val (.ref r2), .val (.int cn), .val (.int (1 : Int32)), .unset] [(.int (1 : Int32)), (.ref r1)])) rfl rfl (hb hby d3_39) t) ?_
    show Go p e below s QQ 1 3 (T42.setTop (mkF m 40 #[.val (.ref r0), .val (.ref r1), .val (.ref r2), .val (.int cn), .val (.int (1 : Int32)), .unset] [(.long u1)]))
    refine gs (fun t => XS.lconst X42.here hx rfl (hb hby d3_40)) ?_
    show Go p e below s QQ 1 3 (T42.setTop (mkF m 41 #[.val (.ref r0), .val (.ref r1), .val (.ref r2), .val (.int cn), .val (.int (1 : Int32)), .unset] [(.long (0 : Int64)), (.long u1)]))
    refine gs (fun t => XS.lcmp X42.here hx rfl (hb hby d3_41) rfl) ?_
    show Go p e below s QQ 1 3 (T42.setTop (mkF m 42 #[.val (.ref r0), .val (.ref r1), .val (.ref r2), .val (.int cn), .val (.int (1 : Int32)), .unset] [(.int (lcmpW u1 (0 : Int64)))]))
    have ka2 : ∀ (cn : Int32) (fl : Nat → Value) (T43 : State) (h43 : Heap) (lc43 : List Loc) (X43 : Stand p l e ({ frames := 1, cells := 1, slots := 3, locals := 14 } : Room) s m #[(.ref r0), (.ref r1), (.ref r2)] below meth c T43 lc43 1 3) (N43 : Fr n0 lc43) (e43 : T43.heap = h43) (ZZ : n0 ≤ h43.size) (KK : Keep h0 h43 [r0, r2, vb, lb]) (F_savedIn_r0 : Fld Z h43 r0 "com/example/tuplewise/tuplewise/SparseBitSet" "savedIn" "J" (.long (-1 : Int64))) (F_words_r0 : Fld Z h43 r0 "com/example/tuplewise/tuplewise/SparseBitSet" "words" "[J" (.ref r1)) (F_live_r0 : Fld Z h43 r0 "com/example/tuplewise/tuplewise/SparseBitSet" "live" "[I" (.ref b40)) (F_trail_r0 : Fld Z h43 r0 "com/example/tuplewise/tuplewise/SparseBitSet" "trail" "Lcom/example/tuplewise/tuplewise/Trail;" .null) (F_wordsKept_r0 : Fld Z h43 r0 "com/example/tuplewise/tuplewise/SparseBitSet" "wordsKept" "I" (.int (0 : Int32))) (F_liveSlot_r0 : Fld Z h43 r0 "com/example/tuplewise/tuplewise/SparseBitSet" "liveSlot" "I" (.int (0 : Int32))) (F_values_r2 : Fld Z h43 r2 "com/example/tuplewise/tuplewise/Trail" "values" "[I" (.ref vb)) (F_longArrays_r2 : Fld Z h43 r2 "com/example/tuplewise/tuplewise/Trail" "longArrays" "[[J" (.ref lb)) (F_longArrayCount_r2 : Fld Z h43 r2 "com/example/tuplewise/tuplewise/Trail" "longArrayCount" "I" (.int (0 : Int32))) (F_slotCount_r2 : Fld Z h43 r2 "com/example/tuplewise/tuplewise/Trail" "slotCount" "I" (.int (0 : Int32))) (E_r0 : Exa Z h43 r0 "com/example/tuplewise/tuplewise/SparseBitSet") (E_r1 : Exa Z h43 r1 "[J") (E_r2 : Exa Z h43 r2 "com/example/tuplewise/tuplewise/Trail") (V_r1 : Arf Z h43 r1 .long 3 fw) (V_vb : Arf Z h43 vb .int 64 (fun _ => .int 0)) (V_lb : Arf Z h43 lb (.array .long) 8 (fun _ => .null)) (TK_lb : Tak Z h43 lb "[J") (V_b40 : Arf Z h43 b40 .int 3 fl) (hc : cn.toInt = d0 + d1), Go p e below s QQ 1 3 (T43.setTop (mkF m 29 #[.val (.ref r0), .val (.ref r1), .val (.ref r2), .val (.int cn), .val (.int (2 : Int32)), .unset] [])) := by
      intro cn fl T43 h43 lc43 X43 N43 e43 ZZ KK F_savedIn_r0 F_words_r0 F_live_r0 F_trail_r0 F_wordsKept_r0 F_liveSlot_r0 F_values_r2 F_longArrays_r2 F_longArrayCount_r2 F_slotCount_r2 E_r0 E_r1 E_r2 V_r1 V_vb V_lb TK_lb V_b40 hc
      refine gs (fun t => XS.iload X43.here hx rfl (hb hby d3_29) rfl) ?_
      show Go p e below s QQ 1 3 (T43.setTop (mkF m 31 #[.val (.ref r0), .val (.ref r1), .val (.ref r2), .val (.int cn), .val (.int (2 : Int32)), .unset] [(.int (2 : Int32))]))
      refine gs (fun t => XS.aloadN X43.here hx rfl (hb hby d3_31) rfl rfl) ?_
      show Go p e below s QQ 1 3 (T43.setTop (mkF m 32 #[.val (.ref r0), .val (.ref r1), .val (.ref r2), .val (.int cn), .val (.int (2 : Int32)), .unset] [(.ref r1), (.int (2 : Int32))]))
      refine gs (fun t => lenf X43 hx hZ e43 V_r1 (z := (3 : Int32)) rfl (g := (mkF m 32 #[.val (.ref r0), .val (.ref r1), .val (.ref r2), .val (.int cn), .val (.int (2 : Int32)), .unset] [(.ref r1), (.int (2 : Int32))])) rfl rfl (hb hby d3_32) t) ?_
      show Go p e below s QQ 1 3 (T43.setTop (mkF m 33 #[.val (.ref r0), .val (.ref r1), .val (.ref r2), .val (.int cn), .val (.int (2 : Int32)), .unset] [(.int (3 : Int32)), (.int (2 : Int32))]))
      refine gs (fun t => XS.icmpNo X43.here hx rfl (hb hby d3_33) rfl (tlt (by decide : (2 : Int32) < (3 : Int32))).2.1) ?_
      show Go p e below s QQ 1 3 (T43.setTop (mkF m 36 #[.val (.ref r0), .val (.ref r1), .val (.ref r2), .val (.int cn), .val (.int (2 : Int32)), .unset] []))
      refine gs (fun t => XS.aloadN X43.here hx rfl (hb hby d3_36) rfl rfl) ?_
      show Go p e below s QQ 1 3 (T43.setTop (mkF m 37 #[.val (.ref r0), .val (.ref r1), .val (.ref r2), .val (.int cn), .val (.int (2 : Int32)), .unset] [(.ref r1)]))
      refine gs (fun t => XS.iload X43.here hx rfl (hb hby d3_37) rfl) ?_
      show Go p e below s QQ 1 3 (T43.setTop (mkF m 39 #[.val (.ref r0), .val (.ref r1), .val (.ref r2), .val (.int cn), .val (.int (2 : Int32)), .unset] [(.int (2 : Int32)), (.ref r1)]))
      refine gs (fun t => ldJf X43 hx hZ e43 V_r1 (j := (2 : Int32)) (v := (.long u2)) (by decide) hw2 (g := (mkF m 39 #[.val (.ref r0), .val (.ref r1), .val (.ref r2), .val (.int cn), .val (.int (2 : Int32)), .unset] [(.int (2 : Int32)), (.ref r1)])) rfl rfl (hb hby d3_39) t) ?_
      show Go p e below s QQ 1 3 (T43.setTop (mkF m 40 #[.val (.ref r0), .val (.ref r1), .val (.ref r2), .val (.int cn), .val (.int (2 : Int32)), .unset] [(.long u2)]))
      refine gs (fun t => XS.lconst X43.here hx rfl (hb hby d3_40)) ?_
      show Go p e below s QQ 1 3 (T43.setTop (mkF m 41 #[.val (.ref r0), .val (.ref r1), .val (.ref r2), .val (.int cn), .val (.int (2 : Int32)), .unset] [(.long (0 : Int64)), (.long u2)]))
      refine gs (fun t => XS.lcmp X43.here hx rfl (hb hby d3_41) rfl) ?_
      show Go p e below s QQ 1 3 (T43.setTop (mkF m 42 #[.val (.ref r0), .val (.ref r1), .val (.ref r2), .val (.int cn), .val (.int (2 : Int32)), .unset] [(.int (lcmpW u2 (0 : Int64)))]))
      have ka3 : ∀ (cn : Int32) (fl : Nat → Value) (T44 : State) (h44 : Heap) (lc44 : List Loc) (X44 : Stand p l e ({ frames := 1, cells := 1, slots := 3, locals := 14 } : Room) s m #[(.ref r0), (.ref r1), (.ref r2)] below meth c T44 lc44 1 3) (N44 : Fr n0 lc44) (e44 : T44.heap = h44) (ZZ : n0 ≤ h44.size) (KK : Keep h0 h44 [r0, r2, vb, lb]) (F_savedIn_r0 : Fld Z h44 r0 "com/example/tuplewise/tuplewise/SparseBitSet" "savedIn" "J" (.long (-1 : Int64))) (F_words_r0 : Fld Z h44 r0 "com/example/tuplewise/tuplewise/SparseBitSet" "words" "[J" (.ref r1)) (F_live_r0 : Fld Z h44 r0 "com/example/tuplewise/tuplewise/SparseBitSet" "live" "[I" (.ref b40)) (F_trail_r0 : Fld Z h44 r0 "com/example/tuplewise/tuplewise/SparseBitSet" "trail" "Lcom/example/tuplewise/tuplewise/Trail;" .null) (F_wordsKept_r0 : Fld Z h44 r0 "com/example/tuplewise/tuplewise/SparseBitSet" "wordsKept" "I" (.int (0 : Int32))) (F_liveSlot_r0 : Fld Z h44 r0 "com/example/tuplewise/tuplewise/SparseBitSet" "liveSlot" "I" (.int (0 : Int32))) (F_values_r2 : Fld Z h44 r2 "com/example/tuplewise/tuplewise/Trail" "values" "[I" (.ref vb)) (F_longArrays_r2 : Fld Z h44 r2 "com/example/tuplewise/tuplewise/Trail" "longArrays" "[[J" (.ref lb)) (F_longArrayCount_r2 : Fld Z h44 r2 "com/example/tuplewise/tuplewise/Trail" "longArrayCount" "I" (.int (0 : Int32))) (F_slotCount_r2 : Fld Z h44 r2 "com/example/tuplewise/tuplewise/Trail" "slotCount" "I" (.int (0 : Int32))) (E_r0 : Exa Z h44 r0 "com/example/tuplewise/tuplewise/SparseBitSet") (E_r1 : Exa Z h44 r1 "[J") (E_r2 : Exa Z h44 r2 "com/example/tuplewise/tuplewise/Trail") (V_r1 : Arf Z h44 r1 .long 3 fw) (V_vb : Arf Z h44 vb .int 64 (fun _ => .int 0)) (V_lb : Arf Z h44 lb (.array .long) 8 (fun _ => .null)) (TK_lb : Tak Z h44 lb "[J") (V_b40 : Arf Z h44 b40 .int 3 fl) (hc : cn.toInt = d0 + d1 + d2), Go p e below s QQ 1 3 (T44.setTop (mkF m 29 #[.val (.ref r0), .val (.ref r1), .val (.ref r2), .val (.int cn), .val (.int (3 : Int32)), .unset] [])) := by
        intro cn fl T44 h44 lc44 X44 N44 e44 ZZ KK F_savedIn_r0 F_words_r0 F_live_r0 F_trail_r0 F_wordsKept_r0 F_liveSlot_r0 F_values_r2 F_longArrays_r2 F_longArrayCount_r2 F_slotCount_r2 E_r0 E_r1 E_r2 V_r1 V_vb V_lb TK_lb V_b40 hc
        refine gs (fun t => XS.iload X44.here hx rfl (hb hby d3_29) rfl) ?_
        show Go p e below s QQ 1 3 (T44.setTop (mkF m 31 #[.val (.ref r0), .val (.ref r1), .val (.ref r2), .val (.int cn), .val (.int (3 : Int32)), .unset] [(.int (3 : Int32))]))
        refine gs (fun t => XS.aloadN X44.here hx rfl (hb hby d3_31) rfl rfl) ?_
        show Go p e below s QQ 1 3 (T44.setTop (mkF m 32 #[.val (.ref r0), .val (.ref r1), .val (.ref r2), .val (.int cn), .val (.int (3 : Int32)), .unset] [(.ref r1), (.int (3 : Int32))]))
        refine gs (fun t => lenf X44 hx hZ e44 V_r1 (z := (3 : Int32)) rfl (g := (mkF m 32 #[.val (.ref r0), .val (.ref r1), .val (.ref r2), .val (.int cn), .val (.int (3 : Int32)), .unset] [(.ref r1), (.int (3 : Int32))])) rfl rfl (hb hby d3_32) t) ?_
        show Go p e below s QQ 1 3 (T44.setTop (mkF m 33 #[.val (.ref r0), .val (.ref r1), .val (.ref r2), .val (.int cn), .val (.int (3 : Int32)), .unset] [(.int (3 : Int32)), (.int (3 : Int32))]))
        refine gs (fun t => XS.icmpYes X44.here hx rfl (pc0 := 33) (pc' := 62) rfl (hb hby d3_33) rfl (flt (by decide : ¬ ((3 : Int32) < (3 : Int32)))).2.1 (by decide) (by decide)) ?_
        show Go p e below s QQ 1 3 (T44.setTop (mkF m 62 #[.val (.ref r0), .val (.ref r1), .val (.ref r2), .val (.int cn), .val (.int (3 : Int32)), .unset] []))
        refine gs (fun t => XS.iloadN X44.here hx rfl (hb hby d3_62) rfl) ?_
        show Go p e below s QQ 1 3 (T44.setTop (mkF m 63 #[.val (.ref r0), .val (.ref r1), .val (.ref r2), .val (.int cn), .val (.int (3 : Int32)), .unset] [(.int cn)]))
        refine gs (fun t => XS.istore X44.here hx rfl (hb hby d3_63) rfl (l' := #[.val (.ref r0), .val (.ref r1), .val (.ref r2), .val (.int cn), .val (.int cn), .unset]) rfl) ?_
        show Go p e below s QQ 1 3 (T44.setTop (mkF m 65 #[.val (.ref r0), .val (.ref r1), .val (.ref r2), .val (.int cn), .val (.int cn), .unset] []))
        refine gs (fun t => XS.iconst X44.here hx rfl (hb hby d3_65)) ?_
        show Go p e below s QQ 1 3 (T44.setTop (mkF m 66 #[.val (.ref r0), .val (.ref r1), .val (.ref r2), .val (.int cn), .val (.int cn), .unset] [(.int (0 : Int32))]))
        refine gs (fun t => XS.istore X44.here hx rfl (hb hby d3_66) rfl (l' := #[.val (.ref r0), .val (.ref r1), .val (.ref r2), .val (.int cn), .val (.int cn), .val (.int (0 : Int32))]) rfl) ?_
        show Go p e below s QQ 1 3 (T44.setTop (mkF m 68 #[.val (.ref r0), .val (.ref r1), .val (.ref r2), .val (.int cn), .val (.int cn), .val (.int (0 : Int32))] []))
        have hn : cn.toInt = d0 + d1 + d2 := by omega
        refine gs (fun t => XS.iload X44.here hx rfl (hb hby d3_68) rfl) ?_
        show Go p e below s QQ 1 3 (T44.setTop (mkF m 70 #[.val (.ref r0), .val (.ref r1), .val (.ref r2), .val (.int cn), .val (.int cn), .val (.int (0 : Int32))] [(.int (0 : Int32))]))
        refine gs (fun t => XS.aloadN X44.here hx rfl (hb hby d3_70) rfl rfl) ?_
        show Go p e below s QQ 1 3 (T44.setTop (mkF m 71 #[.val (.ref r0), .val (.ref r1), .val (.ref r2), .val (.int cn), .val (.int cn), .val (.int (0 : Int32))] [(.ref r1), (.int (0 : Int32))]))
        refine gs (fun t => lenf X44 hx hZ e44 V_r1 (z := (3 : Int32)) rfl (g := (mkF m 71 #[.val (.ref r0), .val (.ref r1), .val (.ref r2), .val (.int cn), .val (.int cn), .val (.int (0 : Int32))] [(.ref r1), (.int (0 : Int32))])) rfl rfl (hb hby d3_71) t) ?_
        show Go p e below s QQ 1 3 (T44.setTop (mkF m 72 #[.val (.ref r0), .val (.ref r1), .val (.ref r2), .val (.int cn), .val (.int cn), .val (.int (0 : Int32))] [(.int (3 : Int32)), (.int (0 : Int32))]))
        refine gs (fun t => XS.icmpNo X44.here hx rfl (hb hby d3_72) rfl (tlt (by decide : (0 : Int32) < (3 : Int32))).2.1) ?_
        show Go p e below s QQ 1 3 (T44.setTop (mkF m 75 #[.val (.ref r0), .val (.ref r1), .val (.ref r2), .val (.int cn), .val (.int cn), .val (.int (0 : Int32))] []))
        refine gs (fun t => XS.aloadN X44.here hx rfl (hb hby d3_75) rfl rfl) ?_
        show Go p e below s QQ 1 3 (T44.setTop (mkF m 76 #[.val (.ref r0), .val (.ref r1), .val (.ref r2), .val (.int cn), .val (.int cn), .val (.int (0 : Int32))] [(.ref r1)]))
        refine gs (fun t => XS.iload X44.here hx rfl (hb hby d3_76) rfl) ?_
        show Go p e below s QQ 1 3 (T44.setTop (mkF m 78 #[.val (.ref r0), .val (.ref r1), .val (.ref r2), .val (.int cn), .val (.int cn), .val (.int (0 : Int32))] [(.int (0 : Int32)), (.ref r1)]))
        refine gs (fun t => ldJf X44 hx hZ e44 V_r1 (j := (0 : Int32)) (v := (.long u0)) (by decide) hw0 (g := (mkF m 78 #[.val (.ref r0), .val (.ref r1), .val (.ref r2), .val (.int cn), .val (.int cn), .val (.int (0 : Int32))] [(.int (0 : Int32)), (.ref r1)])) rfl rfl (hb hby d3_78) t) ?_
        show Go p e below s QQ 1 3 (T44.setTop (mkF m 79 #[.val (.ref r0), .val (.ref r1), .val (.ref r2), .val (.int cn), .val (.int cn), .val (.int (0 : Int32))] [(.long u0)]))
        refine gs (fun t => XS.lconst X44.here hx rfl (hb hby d3_79)) ?_
        show Go p e below s QQ 1 3 (T44.setTop (mkF m 80 #[.val (.ref r0), .val (.ref r1), .val (.ref r2), .val (.int cn), .val (.int cn), .val (.int (0 : Int32))] [(.long (0 : Int64)), (.long u0)]))
        refine gs (fun t => XS.lcmp X44.here hx rfl (hb hby d3_80) rfl) ?_
        show Go p e below s QQ 1 3 (T44.setTop (mkF m 81 #[.val (.ref r0), .val (.ref r1), .val (.ref r2), .val (.int cn), .val (.int cn), .val (.int (0 : Int32))] [(.int (lcmpW u0 (0 : Int64)))]))
        have kb1 : ∀ (nx : Int32) (fl : Nat → Value) (T45 : State) (h45 : Heap) (lc45 : List Loc) (X45 : Stand p l e ({ frames := 1, cells := 1, slots := 3, locals := 14 } : Room) s m #[(.ref r0), (.ref r1), (.ref r2)] below meth c T45 lc45 1 3) (N45 : Fr n0 lc45) (e45 : T45.heap = h45) (ZZ : n0 ≤ h45.size) (KK : Keep h0 h45 [r0, r2, vb, lb]) (F_savedIn_r0 : Fld Z h45 r0 "com/example/tuplewise/tuplewise/SparseBitSet" "savedIn" "J" (.long (-1 : Int64))) (F_words_r0 : Fld Z h45 r0 "com/example/tuplewise/tuplewise/SparseBitSet" "words" "[J" (.ref r1)) (F_live_r0 : Fld Z h45 r0 "com/example/tuplewise/tuplewise/SparseBitSet" "live" "[I" (.ref b40)) (F_trail_r0 : Fld Z h45 r0 "com/example/tuplewise/tuplewise/SparseBitSet" "trail" "Lcom/example/tuplewise/tuplewise/Trail;" .null) (F_wordsKept_r0 : Fld Z h45 r0 "com/example/tuplewise/tuplewise/SparseBitSet" "wordsKept" "I" (.int (0 : Int32))) (F_liveSlot_r0 : Fld Z h45 r0 "com/example/tuplewise/tuplewise/SparseBitSet" "liveSlot" "I" (.int (0 : Int32))) (F_values_r2 : Fld Z h45 r2 "com/example/tuplewise/tuplewise/Trail" "values" "[I" (.ref vb)) (F_longArrays_r2 : Fld Z h45 r2 "com/example/tuplewise/tuplewise/Trail" "longArrays" "[[J" (.ref lb)) (F_longArrayCount_r2 : Fld Z h45 r2 "com/example/tuplewise/tuplewise/Trail" "longArrayCount" "I" (.int (0 : Int32))) (F_slotCount_r2 : Fld Z h45 r2 "com/example/tuplewise/tuplewise/Trail" "slotCount" "I" (.int (0 : Int32))) (E_r0 : Exa Z h45 r0 "com/example/tuplewise/tuplewise/SparseBitSet") (E_r1 : Exa Z h45 r1 "[J") (E_r2 : Exa Z h45 r2 "com/example/tuplewise/tuplewise/Trail") (V_r1 : Arf Z h45 r1 .long 3 fw) (V_vb : Arf Z h45 vb .int 64 (fun _ => .int 0)) (V_lb : Arf Z h45 lb (.array .long) 8 (fun _ => .null)) (TK_lb : Tak Z h45 lb "[J") (V_b40 : Arf Z h45 b40 .int 3 fl) (hn : nx.toInt = d0 + d1 + d2 + (1 - d0)), Go p e below s QQ 1 3 (T45.setTop (mkF m 68 #[.val (.ref r0), .val (.ref r1), .val (.ref r2), .val (.int cn), .val (.int nx), .val (.int (1 : Int32))] [])) := by
          intro nx fl T45 h45 lc45 X45 N45 e45 ZZ KK F_savedIn_r0 F_words_r0 F_live_r0 F_trail_r0 F_wordsKept_r0 F_liveSlot_r0 F_values_r2 F_longArrays_r2 F_longArrayCount_r2 F_slotCount_r2 E_r0 E_r1 E_r2 V_r1 V_vb V_lb TK_lb V_b40 hn
          refine gs (fun t => XS.iload X45.here hx rfl (hb hby d3_68) rfl) ?_
          show Go p e below s QQ 1 3 (T45.setTop (mkF m 70 #[.val (.ref r0), .val (.ref r1), .val (.ref r2), .val (.int cn), .val (.int nx), .val (.int (1 : Int32))] [(.int (1 : Int32))]))
          refine gs (fun t => XS.aloadN X45.here hx rfl (hb hby d3_70) rfl rfl) ?_
          show Go p e below s QQ 1 3 (T45.setTop (mkF m 71 #[.val (.ref r0), .val (.ref r1), .val (.ref r2), .val (.int cn), .val (.int nx), .val (.int (1 : Int32))] [(.ref r1), (.int (1 : Int32))]))
          refine gs (fun t => lenf X45 hx hZ e45 V_r1 (z := (3 : Int32)) rfl (g := (mkF m 71 #[.val (.ref r0), .val (.ref r1), .val (.ref r2), .val (.int cn), .val (.int nx), .val (.int (1 : Int32))] [(.ref r1), (.int (1 : Int32))])) rfl rfl (hb hby d3_71) t) ?_
          show Go p e below s QQ 1 3 (T45.setTop (mkF m 72 #[.val (.ref r0), .val (.ref r1), .val (.ref r2), .val (.int cn), .val (.int nx), .val (.int (1 : Int32))] [(.int (3 : Int32)), (.int (1 : Int32))]))
          refine gs (fun t => XS.icmpNo X45.here hx rfl (hb hby d3_72) rfl (tlt (by decide : (1 : Int32) < (3 : Int32))).2.1) ?_
          show Go p e below s QQ 1 3 (T45.setTop (mkF m 75 #[.val (.ref r0), .val (.ref r1), .val (.ref r2), .val (.int cn), .val (.int nx), .val (.int (1 : Int32))] []))
          refine gs (fun t => XS.aloadN X45.here hx rfl (hb hby d3_75) rfl rfl) ?_
          show Go p e below s QQ 1 3 (T45.setTop (mkF m 76 #[.val (.ref r0), .val (.ref r1), .val (.ref r2), .val (.int cn), .val (.int nx), .val (.int (1 : Int32))] [(.ref r1)]))
          refine gs (fun t => XS.iload X45.here hx rfl (hb hby d3_76) rfl) ?_
          show Go p e below s QQ 1 3 (T45.setTop (mkF m 78 #[.val (.ref r0), .val (.ref r1), .val (.ref r2), .val (.int cn), .val (.int nx), .val (.int (1 : Int32))] [(.int (1 : Int32)), (.ref r1)]))
          refine gs (fun t => ldJf X45 hx hZ e45 V_r1 (j := (1 : Int32)) (v := (.long u1)) (by decide) hw1 (g := (mkF m 78 #[.val (.ref r0), .val (.ref r1), .val (.ref r2), .val (.int cn), .val (.int nx), .val (.int (1 : Int32))] [(.int (1 : Int32)), (.ref r1)])) rfl rfl (hb hby d3_78) t) ?_
          show Go p e below s QQ 1 3 (T45.setTop (mkF m 79 #[.val (.ref r0), .val (.ref r1), .val (.ref r2), .val (.int cn), .val (.int nx), .val (.int (1 : Int32))] [(.long u1)]))
          refine gs (fun t => XS.lconst X45.here hx rfl (hb hby d3_79)) ?_
          show Go p e below s QQ 1 3 (T45.setTop (mkF m 80 #[.val (.ref r0), .val (.ref r1), .val (.ref r2), .val (.int cn), .val (.int nx), .val (.int (1 : Int32))] [(.long (0 : Int64)), (.long u1)]))
          refine gs (fun t => XS.lcmp X45.here hx rfl (hb hby d3_80) rfl) ?_
          show Go p e below s QQ 1 3 (T45.setTop (mkF m 81 #[.val (.ref r0), .val (.ref r1), .val (.ref r2), .val (.int cn), .val (.int nx), .val (.int (1 : Int32))] [(.int (lcmpW u1 (0 : Int64)))]))
          have kb2 : ∀ (nx : Int32) (fl : Nat → Value) (T46 : State) (h46 : Heap) (lc46 : List Loc) (X46 : Stand p l e ({ frames := 1, cells := 1, slots := 3, locals := 14 } : Room) s m #[(.ref r0), (.ref r1), (.ref r2)] below meth c T46 lc46 1 3) (N46 : Fr n0 lc46) (e46 : T46.heap = h46) (ZZ : n0 ≤ h46.size) (KK : Keep h0 h46 [r0, r2, vb, lb]) (F_savedIn_r0 : Fld Z h46 r0 "com/example/tuplewise/tuplewise/SparseBitSet" "savedIn" "J" (.long (-1 : Int64))) (F_words_r0 : Fld Z h46 r0 "com/example/tuplewise/tuplewise/SparseBitSet" "words" "[J" (.ref r1)) (F_live_r0 : Fld Z h46 r0 "com/example/tuplewise/tuplewise/SparseBitSet" "live" "[I" (.ref b40)) (F_trail_r0 : Fld Z h46 r0 "com/example/tuplewise/tuplewise/SparseBitSet" "trail" "Lcom/example/tuplewise/tuplewise/Trail;" .null) (F_wordsKept_r0 : Fld Z h46 r0 "com/example/tuplewise/tuplewise/SparseBitSet" "wordsKept" "I" (.int (0 : Int32))) (F_liveSlot_r0 : Fld Z h46 r0 "com/example/tuplewise/tuplewise/SparseBitSet" "liveSlot" "I" (.int (0 : Int32))) (F_values_r2 : Fld Z h46 r2 "com/example/tuplewise/tuplewise/Trail" "values" "[I" (.ref vb)) (F_longArrays_r2 : Fld Z h46 r2 "com/example/tuplewise/tuplewise/Trail" "longArrays" "[[J" (.ref lb)) (F_longArrayCount_r2 : Fld Z h46 r2 "com/example/tuplewise/tuplewise/Trail" "longArrayCount" "I" (.int (0 : Int32))) (F_slotCount_r2 : Fld Z h46 r2 "com/example/tuplewise/tuplewise/Trail" "slotCount" "I" (.int (0 : Int32))) (E_r0 : Exa Z h46 r0 "com/example/tuplewise/tuplewise/SparseBitSet") (E_r1 : Exa Z h46 r1 "[J") (E_r2 : Exa Z h46 r2 "com/example/tuplewise/tuplewise/Trail") (V_r1 : Arf Z h46 r1 .long 3 fw) (V_vb : Arf Z h46 vb .int 64 (fun _ => .int 0)) (V_lb : Arf Z h46 lb (.array .long) 8 (fun _ => .null)) (TK_lb : Tak Z h46 lb "[J") (V_b40 : Arf Z h46 b40 .int 3 fl) (hn : nx.toInt = d0 + d1 + d2 + (1 - d0) + (1 - d1)), Go p e below s QQ 1 3 (T46.setTop (mkF m 68 #[.val (.ref r0), .val (.ref r1), .val (.ref r2), .val (.int cn), .val (.int nx), .val (.int (2 : Int32))] [])) := by
            intro nx fl T46 h46 lc46 X46 N46 e46 ZZ KK F_savedIn_r0 F_words_r0 F_live_r0 F_trail_r0 F_wordsKept_r0 F_liveSlot_r0 F_values_r2 F_longArrays_r2 F_longArrayCount_r2 F_slotCount_r2 E_r0 E_r1 E_r2 V_r1 V_vb V_lb TK_lb V_b40 hn
            refine gs (fun t => XS.iload X46.here hx rfl (hb hby d3_68) rfl) ?_
            show Go p e below s QQ 1 3 (T46.setTop (mkF m 70 #[.val (.ref r0), .val (.ref r1), .val (.ref r2), .val (.int cn), .val (.int nx), .val (.int (2 : Int32))] [(.int (2 : Int32))]))
            refine gs (fun t => XS.aloadN X46.here hx rfl (hb hby d3_70) rfl rfl) ?_
            show Go p e below s QQ 1 3 (T46.setTop (mkF m 71 #[.val (.ref r0), .val (.ref r1), .val (.ref r2), .val (.int cn), .val (.int nx), .val (.int (2 : Int32))] [(.ref r1), (.int (2 : Int32))]))
            refine gs (fun t => lenf X46 hx hZ e46 V_r1 (z := (3 : Int32)) rfl (g := (mkF m 71 #[.val (.ref r0), .val (.ref r1), .val (.ref r2), .val (.int cn), .val (.int nx), .val (.int (2 : Int32))] [(.ref r1), (.int (2 : Int32))])) rfl rfl (hb hby d3_71) t) ?_
            show Go p e below s QQ 1 3 (T46.setTop (mkF m 72 #[.val (.ref r0), .val (.ref r1), .val (.ref r2), .val (.int cn), .val (.int nx), .val (.int (2 : Int32))] [(.int (3 : Int32)), (.int (2 : Int32))]))
            refine gs (fun t => XS.icmpNo X46.here hx rfl (hb hby d3_72) rfl (tlt (by decide : (2 : Int32) < (3 : Int32))).2.1) ?_
            show Go p e below s QQ 1 3 (T46.setTop (mkF m 75 #[.val (.ref r0), .val (.ref r1), .val (.ref r2), .val (.int cn), .val (.int nx), .val (.int (2 : Int32))] []))
            refine gs (fun t => XS.aloadN X46.here hx rfl (hb hby d3_75) rfl rfl) ?_
            show Go p e below s QQ 1 3 (T46.setTop (mkF m 76 #[.val (.ref r0), .val (.ref r1), .val (.ref r2), .val (.int cn), .val (.int nx), .val (.int (2 : Int32))] [(.ref r1)]))
            refine gs (fun t => XS.iload X46.here hx rfl (hb hby d3_76) rfl) ?_
            show Go p e below s QQ 1 3 (T46.setTop (mkF m 78 #[.val (.ref r0), .val (.ref r1), .val (.ref r2), .val (.int cn), .val (.int nx), .val (.int (2 : Int32))] [(.int (2 : Int32)), (.ref r1)]))
            refine gs (fun t => ldJf X46 hx hZ e46 V_r1 (j := (2 : Int32)) (v := (.long u2)) (by decide) hw2 (g := (mkF m 78 #[.val (.ref r0), .val (.ref r1), .val (.ref r2), .val (.int cn), .val (.int nx), .val (.int (2 : Int32))] [(.int (2 : Int32)), (.ref r1)])) rfl rfl (hb hby d3_78) t) ?_
            show Go p e below s QQ 1 3 (T46.setTop (mkF m 79 #[.val (.ref r0), .val (.ref r1), .val (.ref r2), .val (.int cn), .val (.int nx), .val (.int (2 : Int32))] [(.long u2)]))
            refine gs (fun t => XS.lconst X46.here hx rfl (hb hby d3_79)) ?_
            show Go p e below s QQ 1 3 (T46.setTop (mkF m 80 #[.val (.ref r0), .val (.ref r1), .val (.ref r2), .val (.int cn), .val (.int nx), .val (.int (2 : Int32))] [(.long (0 : Int64)), (.long u2)]))
            refine gs (fun t => XS.lcmp X46.here hx rfl (hb hby d3_80) rfl) ?_
            show Go p e below s QQ 1 3 (T46.setTop (mkF m 81 #[.val (.ref r0), .val (.ref r1), .val (.ref r2), .val (.int cn), .val (.int nx), .val (.int (2 : Int32))] [(.int (lcmpW u2 (0 : Int64)))]))
            have kb3 : ∀ (nx : Int32) (fl : Nat → Value) (T47 : State) (h47 : Heap) (lc47 : List Loc) (X47 : Stand p l e ({ frames := 1, cells := 1, slots := 3, locals := 14 } : Room) s m #[(.ref r0), (.ref r1), (.ref r2)] below meth c T47 lc47 1 3) (N47 : Fr n0 lc47) (e47 : T47.heap = h47) (ZZ : n0 ≤ h47.size) (KK : Keep h0 h47 [r0, r2, vb, lb]) (F_savedIn_r0 : Fld Z h47 r0 "com/example/tuplewise/tuplewise/SparseBitSet" "savedIn" "J" (.long (-1 : Int64))) (F_words_r0 : Fld Z h47 r0 "com/example/tuplewise/tuplewise/SparseBitSet" "words" "[J" (.ref r1)) (F_live_r0 : Fld Z h47 r0 "com/example/tuplewise/tuplewise/SparseBitSet" "live" "[I" (.ref b40)) (F_trail_r0 : Fld Z h47 r0 "com/example/tuplewise/tuplewise/SparseBitSet" "trail" "Lcom/example/tuplewise/tuplewise/Trail;" .null) (F_wordsKept_r0 : Fld Z h47 r0 "com/example/tuplewise/tuplewise/SparseBitSet" "wordsKept" "I" (.int (0 : Int32))) (F_liveSlot_r0 : Fld Z h47 r0 "com/example/tuplewise/tuplewise/SparseBitSet" "liveSlot" "I" (.int (0 : Int32))) (F_values_r2 : Fld Z h47 r2 "com/example/tuplewise/tuplewise/Trail" "values" "[I" (.ref vb)) (F_longArrays_r2 : Fld Z h47 r2 "com/example/tuplewise/tuplewise/Trail" "longArrays" "[[J" (.ref lb)) (F_longArrayCount_r2 : Fld Z h47 r2 "com/example/tuplewise/tuplewise/Trail" "longArrayCount" "I" (.int (0 : Int32))) (F_slotCount_r2 : Fld Z h47 r2 "com/example/tuplewise/tuplewise/Trail" "slotCount" "I" (.int (0 : Int32))) (E_r0 : Exa Z h47 r0 "com/example/tuplewise/tuplewise/SparseBitSet") (E_r1 : Exa Z h47 r1 "[J") (E_r2 : Exa Z h47 r2 "com/example/tuplewise/tuplewise/Trail") (V_r1 : Arf Z h47 r1 .long 3 fw) (V_vb : Arf Z h47 vb .int 64 (fun _ => .int 0)) (V_lb : Arf Z h47 lb (.array .long) 8 (fun _ => .null)) (TK_lb : Tak Z h47 lb "[J") (V_b40 : Arf Z h47 b40 .int 3 fl) (hn : nx.toInt = d0 + d1 + d2 + (1 - d0) + (1 - d1) + (1 - d2)), Go p e below s QQ 1 3 (T47.setTop (mkF m 68 #[.val (.ref r0), .val (.ref r1), .val (.ref r2), .val (.int cn), .val (.int nx), .val (.int (3 : Int32))] [])) := by
              intro nx fl T47 h47 lc47 X47 N47 e47 ZZ KK F_savedIn_r0 F_words_r0 F_live_r0 F_trail_r0 F_wordsKept_r0 F_liveSlot_r0 F_values_r2 F_longArrays_r2 F_longArrayCount_r2 F_slotCount_r2 E_r0 E_r1 E_r2 V_r1 V_vb V_lb TK_lb V_b40 hn
              refine gs (fun t => XS.iload X47.here hx rfl (hb hby d3_68) rfl) ?_
              show Go p e below s QQ 1 3 (T47.setTop (mkF m 70 #[.val (.ref r0), .val (.ref r1), .val (.ref r2), .val (.int cn), .val (.int nx), .val (.int (3 : Int32))] [(.int (3 : Int32))]))
              refine gs (fun t => XS.aloadN X47.here hx rfl (hb hby d3_70) rfl rfl) ?_
              show Go p e below s QQ 1 3 (T47.setTop (mkF m 71 #[.val (.ref r0), .val (.ref r1), .val (.ref r2), .val (.int cn), .val (.int nx), .val (.int (3 : Int32))] [(.ref r1), (.int (3 : Int32))]))
              refine gs (fun t => lenf X47 hx hZ e47 V_r1 (z := (3 : Int32)) rfl (g := (mkF m 71 #[.val (.ref r0), .val (.ref r1), .val (.ref r2), .val (.int cn), .val (.int nx), .val (.int (3 : Int32))] [(.ref r1), (.int (3 : Int32))])) rfl rfl (hb hby d3_71) t) ?_
              show Go p e below s QQ 1 3 (T47.setTop (mkF m 72 #[.val (.ref r0), .val (.ref r1), .val (.ref r2), .val (.int cn), .val (.int nx), .val (.int (3 : Int32))] [(.int (3 : Int32)), (.int (3 : Int32))]))
              refine gs (fun t => XS.icmpYes X47.here hx rfl (pc0 := 72) (pc' := 102) rfl (hb hby d3_72) rfl (flt (by decide : ¬ ((3 : Int32) < (3 : Int32)))).2.1 (by decide) (by decide)) ?_
              show Go p e below s QQ 1 3 (T47.setTop (mkF m 102 #[.val (.ref r0), .val (.ref r1), .val (.ref r2), .val (.int cn), .val (.int nx), .val (.int (3 : Int32))] []))
              refine gs (fun t => XS.aloadN X47.here hx rfl (hb hby d3_102) rfl rfl) ?_
              show Go p e below s QQ 1 3 (T47.setTop (mkF m 103 #[.val (.ref r0), .val (.ref r1), .val (.ref r2), .val (.int cn), .val (.int nx), .val (.int (3 : Int32))] [(.ref r0)]))
              refine gs (fun t => XS.aloadN X47.here hx rfl (hb hby d3_103) rfl rfl) ?_
              show Go p e below s QQ 1 3 (T47.setTop (mkF m 104 #[.val (.ref r0), .val (.ref r1), .val (.ref r2), .val (.int cn), .val (.int nx), .val (.int (3 : Int32))] [(.ref r2), (.ref r0)]))
              obtain ⟨T48, h48, X48, e48, W48, st48⟩ := putF X47 hx hZ hown (host := "") (Or.inl (hw _ (List.mem_of_getElem? (i := 49) rfl))) Via.refl e47 F_trail_r0 E_r0 (Or.inr ⟨(hw _ (List.mem_of_getElem? (i := 50) rfl)), rfl, hnm⟩) (hw _ (List.mem_of_getElem? (i := 2) rfl)) (ty := (.object "com/example/tuplewise/tuplewise/Trail")) (by decide) rfl rfl (g := (mkF m 104 #[.val (.ref r0), .val (.ref r1), .val (.ref r2), .val (.int cn), .val (.int nx), .val (.int (3 : Int32))] [(.ref r2), (.ref r0)])) rfl rfl (hb hby d3_104)
              replace N47 := Fr.snoc X48 N47 ge_r0
              refine gs st48 ?_
              show Go p e below s QQ 1 3 (T48.setTop (mkF m 107 #[.val (.ref r0), .val (.ref r1), .val (.ref r2), .val (.int cn), .val (.int nx), .val (.int (3 : Int32))] []))
              replace F_savedIn_r0 := F_savedIn_r0.other W48 (Or.inr (slot_ne (Or.inl (hw _ (List.mem_of_getElem? (i := 44) rfl))) (Or.inr (hw _ (List.mem_of_getElem? (i := 50) rfl))) (by decide) (t := .long) (t' := (.object "com/example/tuplewise/tuplewise/Trail")) (by decide) (by decide)))
              replace F_words_r0 := F_words_r0.other W48 (Or.inr (slot_ne (Or.inr (hw _ (List.mem_of_getElem? (i := 46) rfl))) (Or.inr (hw _ (List.mem_of_getElem? (i := 50) rfl))) (by decide) (t := (.array .long)) (t' := (.object "com/example/tuplewise/tuplewise/Trail")) (by decide) (by decide)))
              replace F_live_r0 := F_live_r0.other W48 (Or.inr (slot_ne (Or.inr (hw _ (List.mem_of_getElem? (i := 48) rfl))) (Or.inr (hw _ (List.mem_of_getElem? (i := 50) rfl))) (by decide) (t := (.array .int)) (t' := (.object "com/example/tuplewise/tuplewise/Trail")) (by decide) (by decide)))
              replace F_trail_r0 := F_trail_r0.same W48
              replace F_wordsKept_r0 := F_wordsKept_r0.other W48 (Or.inr (slot_ne (Or.inr (hw _ (List.mem_of_getElem? (i := 60) rfl))) (Or.inr (hw _ (List.mem_of_getElem? (i := 50) rfl))) (by decide) (t := .int) (t' := (.object "com/example/tuplewise/tuplewise/Trail")) (by decide) (by decide)))
              replace F_liveSlot_r0 := F_liveSlot_r0.other W48 (Or.inr (slot_ne (Or.inr (hw _ (List.mem_of_getElem? (i := 69) rfl))) (Or.inr (hw _ (List.mem_of_getElem? (i := 50) rfl))) (by decide) (t := .int) (t' := (.object "com/example/tuplewise/tuplewise/Trail")) (by decide) (by decide)))
              replace F_values_r2 := F_values_r2.other W48 (Or.inl (Ne.symm ne_r0_r2))
              replace F_longArrays_r2 := F_longArrays_r2.other W48 (Or.inl (Ne.symm ne_r0_r2))
              replace F_longArrayCount_r2 := F_longArrayCount_r2.other W48 (Or.inl (Ne.symm ne_r0_r2))
              replace F_slotCount_r2 := F_slotCount_r2.other W48 (Or.inl (Ne.symm ne_r0_r2))
              replace E_r0 := E_r0.wr W48
              replace E_r1 := E_r1.wr W48
              replace E_r2 := E_r2.wr W48
              replace V_r1 := V_r1.other W48 (Ne.symm ne_r0_r1)
              replace V_vb := V_vb.other W48 (Ne.symm ne_r0_vb)
              replace V_lb := V_lb.other W48 (Ne.symm ne_r0_lb)
              replace TK_lb := TK_lb.wr W48
              replace V_b40 := V_b40.other W48 (Ne.symm ne_r0_b40)
              replace ZZ : n0 ≤ h48.size := by rw [W48.size]; exact ZZ
              replace KK := KK.wr W48 (Or.inl (by simp))
              refine gs (fun t => XS.aloadN X48.here hx rfl (hb hby d3_107) rfl rfl) ?_
              show Go p e below s QQ 1 3 (T48.setTop (mkF m 108 #[.val (.ref r0), .val (.ref r1), .val (.ref r2), .val (.int cn), .val (.int nx), .val (.int (3 : Int32))] [(.ref r0)]))
              refine gs (fun t => XS.aloadN X48.here hx rfl (hb hby d3_108) rfl rfl) ?_
              show Go p e below s QQ 1 3 (T48.setTop (mkF m 109 #[.val (.ref r0), .val (.ref r1), .val (.ref r2), .val (.int cn), .val (.int nx), .val (.int (3 : Int32))] [(.ref r2), (.ref r0)]))
              refine gs (fun t => XS.aloadN X48.here hx rfl (hb hby d3_109) rfl rfl) ?_
              show Go p e below s QQ 1 3 (T48.setTop (mkF m 110 #[.val (.ref r0), .val (.ref r1), .val (.ref r2), .val (.int cn), .val (.int nx), .val (.int (3 : Int32))] [(.ref r1), (.ref r2), (.ref r0)]))
              obtain ⟨cq49, kq49, q49a, q49b, q49c⟩ := isOf hZ e48 E_r2
              obtain ⟨_, _, ⟨T49, L49, k49, n49⟩, -, X49, ⟨Lc49, hQ49, l49, y49, z49⟩, st49⟩ := X48.virtualBack hx (y := (⟨"com/example/tuplewise/tuplewise/Trail", "keepLongs", "([J)I"⟩ : MethodName)) (z := (⟨"com/example/tuplewise/tuplewise/Trail", "keepLongs", "([J)I"⟩ : MethodName)) hown (mvT hZ (hw _ (List.mem_of_getElem? (i := 51) rfl))) (mvT hZ (hw _ (List.mem_of_getElem? (i := 52) rfl))) (notFace_of_selects (args := #[]) (mvT hZ (hw _ (List.mem_of_getElem? (i := 54) rfl)))) (mvT hZ (hw _ (List.mem_of_getElem? (i := 54) rfl))) (mvT hZ (hw _ (List.mem_of_getElem? (i := 53) rfl))) (by decide) (backOf (W := 1) (rm4 l Z a0 hw [] r2 r1 lb (fun _ => .null) vb h48 n0 ZZ F_longArrays_r2 F_longArrayCount_r2 F_values_r2 F_slotCount_r2 E_r2 V_lb TK_lb E_r1 ge_r2 ge_lb ne_r2_lb) hZ (hw _ (List.mem_of_getElem? (i := 55) rfl)) (hw _ (List.mem_of_getElem? (i := 6) rfl)) (by decide) (by decide)) q49a q49c (g := (mkF m 110 #[.val (.ref r0), .val (.ref r1), .val (.ref r2), .val (.int cn), .val (.int nx), .val (.int (3 : Int32))] [(.ref r1), (.ref r2), (.ref r0)])) rfl (by rw [hml]; rfl) (Steps.refl _) (argsL := [(.ref r1)]) (rest := [(.ref r0)]) (lenOf pd_0 rfl) rfl (by show 2 * 0 + _ ≤ _; exact Nat.le_of_eq rfl) (hb hby d3_110) (fun _ _ => ⟨rfl, e48, (by decide : 1 + 0 ≤ _), (by decide : 3 + 0 ≤ _)⟩)
              dsimp only [Pt.U, Pt.locs, Pt.cells, Pt.slots] at X49 l49 y49 z49 st49 hQ49
              subst l49 y49 z49
              obtain ⟨rfl, N49q, K49, Fv49, Fs49⟩ := hQ49
              replace N47 := Fr.app N47 N49q
              refine gt st49 ?_
              show Go p e below s QQ 1 3 (T49.setTop (mkF m 113 #[.val (.ref r0), .val (.ref r1), .val (.ref r2), .val (.int cn), .val (.int nx), .val (.int (3 : Int32))] [(.int (0 : Int32)), (.ref r0)]))
              replace F_savedIn_r0 := F_savedIn_r0.keep K49 (ninS ne_r0_r2 (ninS ne_r0_lb nin0))
              replace F_words_r0 := F_words_r0.keep K49 (ninS ne_r0_r2 (ninS ne_r0_lb nin0))
              replace F_live_r0 := F_live_r0.keep K49 (ninS ne_r0_r2 (ninS ne_r0_lb nin0))
              replace F_trail_r0 := F_trail_r0.keep K49 (ninS ne_r0_r2 (ninS ne_r0_lb nin0))
              replace F_wordsKept_r0 := F_wordsKept_r0.keep K49 (ninS ne_r0_r2 (ninS ne_r0_lb nin0))
              replace F_liveSlot_r0 := F_liveSlot_r0.keep K49 (ninS ne_r0_r2 (ninS ne_r0_lb nin0))
              replace E_r0 := E_r0.keep K49
              replace E_r1 := E_r1.keep K49
              replace E_r2 := E_r2.keep K49
              replace V_r1 := V_r1.keep K49 (ninS ne_r1_r2 (ninS ne_r1_lb nin0))
              replace V_vb := V_vb.keep K49 (ninS (Ne.symm ne_r2_vb) (ninS ne_vb_lb nin0))
              replace TK_lb := TK_lb.keep K49
              replace V_b40 := V_b40.keep K49 (ninS (Ne.symm ne_r2_b40) (ninS (Ne.symm ne_lb_b40) nin0))
              replace ZZ := Nat.le_trans ZZ K49.1
              replace KK := KK.trans K49 (allS (Or.inl (by simp)) (allS (Or.inl (by simp)) all0))
              obtain ⟨T50, h50, X50, e50, W50, st50⟩ := putF X49 hx hZ hown (host := "") (Or.inl (hw _ (List.mem_of_getElem? (i := 59) rfl))) Via.refl rfl F_wordsKept_r0 E_r0 (Or.inr ⟨(hw _ (List.mem_of_getElem? (i := 60) rfl)), rfl, hnm⟩) (hw _ (List.mem_of_getElem? (i := 2) rfl)) (ty := .int) (by decide) rfl rfl (g := (mkF m 113 #[.val (.ref r0), .val (.ref r1), .val (.ref r2), .val (.int cn), .val (.int nx), .val (.int (3 : Int32))] [(.int (0 : Int32)), (.ref r0)])) rfl rfl (hb hby d3_113)
              replace N47 := Fr.snoc X50 N47 ge_r0
              refine gs st50 ?_
              show Go p e below s QQ 1 3 (T50.setTop (mkF m 116 #[.val (.ref r0), .val (.ref r1), .val (.ref r2), .val (.int cn), .val (.int nx), .val (.int (3 : Int32))] []))
              replace F_savedIn_r0 := F_savedIn_r0.other W50 (Or.inr (slot_ne (Or.inl (hw _ (List.mem_of_getElem? (i := 44) rfl))) (Or.inr (hw _ (List.mem_of_getElem? (i := 60) rfl))) (by decide) (t := .long) (t' := .int) (by decide) (by decide)))
              replace F_words_r0 := F_words_r0.other W50 (Or.inr (slot_ne (Or.inr (hw _ (List.mem_of_getElem? (i := 46) rfl))) (Or.inr (hw _ (List.mem_of_getElem? (i := 60) rfl))) (by decide) (t := (.array .long)) (t' := .int) (by decide) (by decide)))
              replace F_live_r0 := F_live_r0.other W50 (Or.inr (slot_ne (Or.inr (hw _ (List.mem_of_getElem? (i := 48) rfl))) (Or.inr (hw _ (List.mem_of_getElem? (i := 60) rfl))) (by decide) (t := (.array .int)) (t' := .int) (by decide) (by decide)))
              replace F_trail_r0 := F_trail_r0.other W50 (Or.inr (slot_ne (Or.inr (hw _ (List.mem_of_getElem? (i := 50) rfl))) (Or.inr (hw _ (List.mem_of_getElem? (i := 60) rfl))) (by decide) (t := (.object "com/example/tuplewise/tuplewise/Trail")) (t' := .int) (by decide) (by decide)))
              replace F_wordsKept_r0 := F_wordsKept_r0.same W50
              replace F_liveSlot_r0 := F_liveSlot_r0.other W50 (Or.inr (slot_ne (Or.inr (hw _ (List.mem_of_getElem? (i := 69) rfl))) (Or.inr (hw _ (List.mem_of_getElem? (i := 60) rfl))) (by decide) (t := .int) (t' := .int) (by decide) (by decide)))
              replace E_r0 := E_r0.wr W50
              replace E_r1 := E_r1.wr W50
              replace E_r2 := E_r2.wr W50
              replace V_r1 := V_r1.other W50 (Ne.symm ne_r0_r1)
              replace V_vb := V_vb.other W50 (Ne.symm ne_r0_vb)
              replace TK_lb := TK_lb.wr W50
              replace V_b40 := V_b40.other W50 (Ne.symm ne_r0_b40)
              replace Fv49 := Fv49.other W50 (Or.inl (Ne.symm ne_r0_r2))
              replace Fs49 := Fs49.other W50 (Or.inl (Ne.symm ne_r0_r2))
              replace ZZ : n0 ≤ h50.size := by rw [W50.size]; exact ZZ
              replace KK := KK.wr W50 (Or.inl (by simp))
              refine gs (fun t => XS.aloadN X50.here hx rfl (hb hby d3_116) rfl rfl) ?_
              show Go p e below s QQ 1 3 (T50.setTop (mkF m 117 #[.val (.ref r0), .val (.ref r1), .val (.ref r2), .val (.int cn), .val (.int nx), .val (.int (3 : Int32))] [(.ref r0)]))
              refine gs (fun t => XS.aloadN X50.here hx rfl (hb hby d3_117) rfl rfl) ?_
              show Go p e below s QQ 1 3 (T50.setTop (mkF m 118 #[.val (.ref r0), .val (.ref r1), .val (.ref r2), .val (.int cn), .val (.int nx), .val (.int (3 : Int32))] [(.ref r2), (.ref r0)]))
              refine gs (fun t => XS.iloadN X50.here hx rfl (hb hby d3_118) rfl) ?_
              show Go p e below s QQ 1 3 (T50.setTop (mkF m 119 #[.val (.ref r0), .val (.ref r1), .val (.ref r2), .val (.int cn), .val (.int nx), .val (.int (3 : Int32))] [(.int cn), (.ref r2), (.ref r0)]))
              obtain ⟨cq51, kq51, q51a, q51b, q51c⟩ := isOf hZ e50 E_r2
              obtain ⟨_, _, ⟨T51, L51, k51, n51⟩, -, X51, ⟨Lc51, hQ51, l51, y51, z51⟩, st51⟩ := X50.virtualBack hx (y := (⟨"com/example/tuplewise/tuplewise/Trail", "newSlot", "(I)I"⟩ : MethodName)) (z := (⟨"com/example/tuplewise/tuplewise/Trail", "newSlot", "(I)I"⟩ : MethodName)) hown (mvT hZ (hw _ (List.mem_of_getElem? (i := 61) rfl))) (mvT hZ (hw _ (List.mem_of_getElem? (i := 62) rfl))) (notFace_of_selects (args := #[]) (mvT hZ (hw _ (List.mem_of_getElem? (i := 64) rfl)))) (mvT hZ (hw _ (List.mem_of_getElem? (i := 64) rfl))) (mvT hZ (hw _ (List.mem_of_getElem? (i := 63) rfl))) (by decide) (backOf (W := 1) (rm5 l Z a0 hw [] r2 cn vb (fun _ => .int 0) h50 n0 ZZ Fv49 Fs49 E_r2 V_vb ge_r2 ge_vb ne_r2_vb) hZ (hw _ (List.mem_of_getElem? (i := 65) rfl)) (hw _ (List.mem_of_getElem? (i := 6) rfl)) (by decide) (by decide)) q51a q51c (g := (mkF m 119 #[.val (.ref r0), .val (.ref r1), .val (.ref r2), .val (.int cn), .val (.int nx), .val (.int (3 : Int32))] [(.int cn), (.ref r2), (.ref r0)])) rfl (by rw [hml]; rfl) (Steps.refl _) (argsL := [(.int cn)]) (rest := [(.ref r0)]) (lenOf pd_1 rfl) rfl (by show 2 * 0 + _ ≤ _; exact Nat.le_of_eq rfl) (hb hby d3_119) (fun _ _ => ⟨rfl, e50, (by decide : 1 + 0 ≤ _), (by decide : 3 + 0 ≤ _)⟩)
              dsimp only [Pt.U, Pt.locs, Pt.cells, Pt.slots] at X51 l51 y51 z51 st51 hQ51
              subst l51 y51 z51
              obtain ⟨rfl, N51q, K51⟩ := hQ51
              replace N47 := Fr.app N47 N51q
              refine gt st51 ?_
              show Go p e below s QQ 1 3 (T51.setTop (mkF m 122 #[.val (.ref r0), .val (.ref r1), .val (.ref r2), .val (.int cn), .val (.int nx), .val (.int (3 : Int32))] [(.int (0 : Int32)), (.ref r0)]))
              replace F_savedIn_r0 := F_savedIn_r0.keep K51 (ninS ne_r0_r2 (ninS ne_r0_vb nin0))
              replace F_words_r0 := F_words_r0.keep K51 (ninS ne_r0_r2 (ninS ne_r0_vb nin0))
              replace F_live_r0 := F_live_r0.keep K51 (ninS ne_r0_r2 (ninS ne_r0_vb nin0))
              replace F_trail_r0 := F_trail_r0.keep K51 (ninS ne_r0_r2 (ninS ne_r0_vb nin0))
              replace F_wordsKept_r0 := F_wordsKept_r0.keep K51 (ninS ne_r0_r2 (ninS ne_r0_vb nin0))
              replace F_liveSlot_r0 := F_liveSlot_r0.keep K51 (ninS ne_r0_r2 (ninS ne_r0_vb nin0))
              replace E_r0 := E_r0.keep K51
              replace E_r1 := E_r1.keep K51
              replace E_r2 := E_r2.keep K51
              replace V_r1 := V_r1.keep K51 (ninS ne_r1_r2 (ninS ne_r1_vb nin0))
              replace TK_lb := TK_lb.keep K51
              replace V_b40 := V_b40.keep K51 (ninS (Ne.symm ne_r2_b40) (ninS (Ne.symm ne_vb_b40) nin0))
              replace ZZ := Nat.le_trans ZZ K51.1
              replace KK := KK.trans K51 (allS (Or.inl (by simp)) (allS (Or.inl (by simp)) all0))
              obtain ⟨T52, h52, X52, e52, W52, st52⟩ := putF X51 hx hZ hown (host := "") (Or.inl (hw _ (List.mem_of_getElem? (i := 68) rfl))) Via.refl rfl F_liveSlot_r0 E_r0 (Or.inr ⟨(hw _ (List.mem_of_getElem? (i := 69) rfl)), rfl, hnm⟩) (hw _ (List.mem_of_getElem? (i := 2) rfl)) (ty := .int) (by decide) rfl rfl (g := (mkF m 122 #[.val (.ref r0), .val (.ref r1), .val (.ref r2), .val (.int cn), .val (.int nx), .val (.int (3 : Int32))] [(.int (0 : Int32)), (.ref r0)])) rfl rfl (hb hby d3_122)
              replace N47 := Fr.snoc X52 N47 ge_r0
              refine gs st52 ?_
              show Go p e below s QQ 1 3 (T52.setTop (mkF m 125 #[.val (.ref r0), .val (.ref r1), .val (.ref r2), .val (.int cn), .val (.int nx), .val (.int (3 : Int32))] []))
              replace F_savedIn_r0 := F_savedIn_r0.other W52 (Or.inr (slot_ne (Or.inl (hw _ (List.mem_of_getElem? (i := 44) rfl))) (Or.inr (hw _ (List.mem_of_getElem? (i := 69) rfl))) (by decide) (t := .long) (t' := .int) (by decide) (by decide)))
              replace F_words_r0 := F_words_r0.other W52 (Or.inr (slot_ne (Or.inr (hw _ (List.mem_of_getElem? (i := 46) rfl))) (Or.inr (hw _ (List.mem_of_getElem? (i := 69) rfl))) (by decide) (t := (.array .long)) (t' := .int) (by decide) (by decide)))
              replace F_live_r0 := F_live_r0.other W52 (Or.inr (slot_ne (Or.inr (hw _ (List.mem_of_getElem? (i := 48) rfl))) (Or.inr (hw _ (List.mem_of_getElem? (i := 69) rfl))) (by decide) (t := (.array .int)) (t' := .int) (by decide) (by decide)))
              replace F_trail_r0 := F_trail_r0.other W52 (Or.inr (slot_ne (Or.inr (hw _ (List.mem_of_getElem? (i := 50) rfl))) (Or.inr (hw _ (List.mem_of_getElem? (i := 69) rfl))) (by decide) (t := (.object "com/example/tuplewise/tuplewise/Trail")) (t' := .int) (by decide) (by decide)))
              replace F_wordsKept_r0 := F_wordsKept_r0.other W52 (Or.inr (slot_ne (Or.inr (hw _ (List.mem_of_getElem? (i := 60) rfl))) (Or.inr (hw _ (List.mem_of_getElem? (i := 69) rfl))) (by decide) (t := .int) (t' := .int) (by decide) (by decide)))
              replace F_liveSlot_r0 := F_liveSlot_r0.same W52
              replace E_r0 := E_r0.wr W52
              replace E_r1 := E_r1.wr W52
              replace E_r2 := E_r2.wr W52
              replace V_r1 := V_r1.other W52 (Ne.symm ne_r0_r1)
              replace TK_lb := TK_lb.wr W52
              replace V_b40 := V_b40.other W52 (Ne.symm ne_r0_b40)
              replace ZZ : n0 ≤ h52.size := by rw [W52.size]; exact ZZ
              replace KK := KK.wr W52 (Or.inl (by simp))
              exact goV X52 hx Bd.notSynchronized Bd.returns (hb hby d3_125) (by rw [← hQQ, e52]; exact ⟨rfl, N47, KK, F_words_r0⟩) (by decide) (by decide)
            by_cases hz : (lcmpW u2 (0 : Int64)) = (0 : Int32)
            · skip
              refine gs (fun t => XS.ifNo X46.here hx rfl (hb hby d3_81) rfl ((if0 _ _).trans (teq hz).2)) ?_
              show Go p e below s QQ 1 3 (T46.setTop (mkF m 84 #[.val (.ref r0), .val (.ref r1), .val (.ref r2), .val (.int cn), .val (.int nx), .val (.int (2 : Int32))] []))
              have q2 := hd2 ((lw_eq _ _).mp hz)
              refine gs (fun t => XS.aloadN X46.here hx rfl (hb hby d3_84) rfl rfl) ?_
              show Go p e below s QQ 1 3 (T46.setTop (mkF m 85 #[.val (.ref r0), .val (.ref r1), .val (.ref r2), .val (.int cn), .val (.int nx), .val (.int (2 : Int32))] [(.ref r0)]))
              obtain ⟨T53, X53, e53, st53⟩ := getF X46 hx hZ hown (host := "") (Or.inl (hw _ (List.mem_of_getElem? (i := 47) rfl))) Via.refl e46 F_live_r0 (g := (mkF m 85 #[.val (.ref r0), .val (.ref r1), .val (.ref r2), .val (.int cn), .val (.int nx), .val (.int (2 : Int32))] [(.ref r0)])) rfl rfl (hb hby d3_85)
              refine gs st53 ?_
              show Go p e below s QQ 1 3 (T53.setTop (mkF m 88 #[.val (.ref r0), .val (.ref r1), .val (.ref r2), .val (.int cn), .val (.int nx), .val (.int (2 : Int32))] [(.ref b40)]))
              refine gs (fun t => XS.iload X53.here hx rfl (hb hby d3_88) rfl) ?_
              show Go p e below s QQ 1 3 (T53.setTop (mkF m 90 #[.val (.ref r0), .val (.ref r1), .val (.ref r2), .val (.int cn), .val (.int nx), .val (.int (2 : Int32))] [(.int nx), (.ref b40)]))
              refine gs (fun t => XS.iinc X53.here hx rfl (hb hby d3_90) rfl (l' := #[.val (.ref r0), .val (.ref r1), .val (.ref r2), .val (.int cn), .val (.int (nx + (1 : Int32))), .val (.int (2 : Int32))]) rfl) ?_
              show Go p e below s QQ 1 3 (T53.setTop (mkF m 93 #[.val (.ref r0), .val (.ref r1), .val (.ref r2), .val (.int cn), .val (.int (nx + (1 : Int32))), .val (.int (2 : Int32))] [(.int nx), (.ref b40)]))
              refine gs (fun t => XS.iload X53.here hx rfl (hb hby d3_93) rfl) ?_
              show Go p e below s QQ 1 3 (T53.setTop (mkF m 95 #[.val (.ref r0), .val (.ref r1), .val (.ref r2), .val (.int cn), .val (.int (nx + (1 : Int32))), .val (.int (2 : Int32))] [(.int (2 : Int32)), (.int nx), (.ref b40)]))
              obtain ⟨T54, h54, X54, e54, W54, V54, st54⟩ := stIf X53 hx hZ e53 V_b40 (j := nx) ⟨by omega, by omega⟩ (g := (mkF m 95 #[.val (.ref r0), .val (.ref r1), .val (.ref r2), .val (.int cn), .val (.int (nx + (1 : Int32))), .val (.int (2 : Int32))] [(.int (2 : Int32)), (.int nx), (.ref b40)])) rfl rfl (hb hby d3_95)
              replace N46 := Fr.snoc X54 N46 ge_b40
              refine gs st54 ?_
              show Go p e below s QQ 1 3 (T54.setTop (mkF m 96 #[.val (.ref r0), .val (.ref r1), .val (.ref r2), .val (.int cn), .val (.int (nx + (1 : Int32))), .val (.int (2 : Int32))] []))
              replace F_savedIn_r0 := F_savedIn_r0.other W54 (Or.inl ne_r0_b40)
              replace F_words_r0 := F_words_r0.other W54 (Or.inl ne_r0_b40)
              replace F_live_r0 := F_live_r0.other W54 (Or.inl ne_r0_b40)
              replace F_trail_r0 := F_trail_r0.other W54 (Or.inl ne_r0_b40)
              replace F_wordsKept_r0 := F_wordsKept_r0.other W54 (Or.inl ne_r0_b40)
              replace F_liveSlot_r0 := F_liveSlot_r0.other W54 (Or.inl ne_r0_b40)
              replace F_values_r2 := F_values_r2.other W54 (Or.inl ne_r2_b40)
              replace F_longArrays_r2 := F_longArrays_r2.other W54 (Or.inl ne_r2_b40)
              replace F_longArrayCount_r2 := F_longArrayCount_r2.other W54 (Or.inl ne_r2_b40)
              replace F_slotCount_r2 := F_slotCount_r2.other W54 (Or.inl ne_r2_b40)
              replace E_r0 := E_r0.wr W54
              replace E_r1 := E_r1.wr W54
              replace E_r2 := E_r2.wr W54
              replace V_r1 := V_r1.other W54 ne_r1_b40
              replace V_vb := V_vb.other W54 ne_vb_b40
              replace V_lb := V_lb.other W54 ne_lb_b40
              replace TK_lb := TK_lb.wr W54
              replace ZZ : n0 ≤ h54.size := by rw [W54.size]; exact ZZ
              replace KK := KK.wr W54 (Or.inr sz_b40)
              replace V_b40 : Arf Z h54 b40 .int 3 (updv fl nx.toNatClampNeg (.int (2 : Int32))) := V54
              refine gs (fun t => XS.iinc X54.here hx rfl (hb hby d3_96) rfl (l' := #[.val (.ref r0), .val (.ref r1), .val (.ref r2), .val (.int cn), .val (.int (nx + (1 : Int32))), .val (.int (3 : Int32))]) rfl) ?_
              show Go p e below s QQ 1 3 (T54.setTop (mkF m 99 #[.val (.ref r0), .val (.ref r1), .val (.ref r2), .val (.int cn), .val (.int (nx + (1 : Int32))), .val (.int (3 : Int32))] []))
              refine gs (fun t => XS.goto X54.here hx rfl (pc0 := 99) (pc' := 68) rfl (hb hby d3_99) (by decide) (by decide)) ?_
              show Go p e below s QQ 1 3 (T54.setTop (mkF m 68 #[.val (.ref r0), .val (.ref r1), .val (.ref r2), .val (.int cn), .val (.int (nx + (1 : Int32))), .val (.int (3 : Int32))] []))
              exact kb3 _ _ _ _ _ (X54) N46 e54 ZZ KK F_savedIn_r0 F_words_r0 F_live_r0 F_trail_r0 F_wordsKept_r0 F_liveSlot_r0 F_values_r2 F_longArrays_r2 F_longArrayCount_r2 F_slotCount_r2 E_r0 E_r1 E_r2 V_r1 V_vb V_lb TK_lb V_b40 (by rw [own_inc (by omega) (by omega)]; omega)
            · skip
              refine gs (fun t => XS.ifYes X46.here hx rfl (pc0 := 81) (pc' := 96) rfl (hb hby d3_81) rfl ((if0 _ _).trans (feq hz).2) (by decide) (by decide)) ?_
              show Go p e below s QQ 1 3 (T46.setTop (mkF m 96 #[.val (.ref r0), .val (.ref r1), .val (.ref r2), .val (.int cn), .val (.int nx), .val (.int (2 : Int32))] []))
              have q2 := hd2' (fun q => hz ((lw_eq _ _).mpr q))
              refine gs (fun t => XS.iinc X46.here hx rfl (hb hby d3_96) rfl (l' := #[.val (.ref r0), .val (.ref r1), .val (.ref r2), .val (.int cn), .val (.int nx), .val (.int (3 : Int32))]) rfl) ?_
              show Go p e below s QQ 1 3 (T46.setTop (mkF m 99 #[.val (.ref r0), .val (.ref r1), .val (.ref r2), .val (.int cn), .val (.int nx), .val (.int (3 : Int32))] []))
              refine gs (fun t => XS.goto X46.here hx rfl (pc0 := 99) (pc' := 68) rfl (hb hby d3_99) (by decide) (by decide)) ?_
              show Go p e below s QQ 1 3 (T46.setTop (mkF m 68 #[.val (.ref r0), .val (.ref r1), .val (.ref r2), .val (.int cn), .val (.int nx), .val (.int (3 : Int32))] []))
              exact kb3 _ _ _ _ _ (X46) N46 e46 ZZ KK F_savedIn_r0 F_words_r0 F_live_r0 F_trail_r0 F_wordsKept_r0 F_liveSlot_r0 F_values_r2 F_longArrays_r2 F_longArrayCount_r2 F_slotCount_r2 E_r0 E_r1 E_r2 V_r1 V_vb V_lb TK_lb V_b40 (by omega)
          by_cases hz : (lcmpW u1 (0 : Int64)) = (0 : Int32)
          · skip
            refine gs (fun t => XS.ifNo X45.here hx rfl (hb hby d3_81) rfl ((if0 _ _).trans (teq hz).2)) ?_
            show Go p e below s QQ 1 3 (T45.setTop (mkF m 84 #[.val (.ref r0), .val (.ref r1), .val (.ref r2), .val (.int cn), .val (.int nx), .val (.int (1 : Int32))] []))
            have q1 := hd1 ((lw_eq _ _).mp hz)
            refine gs (fun t => XS.aloadN X45.here hx rfl (hb hby d3_84) rfl rfl) ?_
            show Go p e below s QQ 1 3 (T45.setTop (mkF m 85 #[.val (.ref r0), .val (.ref r1), .val (.ref r2), .val (.int cn), .val (.int nx), .val (.int (1 : Int32))] [(.ref r0)]))
            obtain ⟨T55, X55, e55, st55⟩ := getF X45 hx hZ hown (host := "") (Or.inl (hw _ (List.mem_of_getElem? (i := 47) rfl))) Via.refl e45 F_live_r0 (g := (mkF m 85 #[.val (.ref r0), .val (.ref r1), .val (.ref r2), .val (.int cn), .val (.int nx), .val (.int (1 : Int32))] [(.ref r0)])) rfl rfl (hb hby d3_85)
            refine gs st55 ?_
            show Go p e below s QQ 1 3 (T55.setTop (mkF m 88 #[.val (.ref r0), .val (.ref r1), .val (.ref r2), .val (.int cn), .val (.int nx), .val (.int (1 : Int32))] [(.ref b40)]))
            refine gs (fun t => XS.iload X55.here hx rfl (hb hby d3_88) rfl) ?_
            show Go p e below s QQ 1 3 (T55.setTop (mkF m 90 #[.val (.ref r0), .val (.ref r1), .val (.ref r2), .val (.int cn), .val (.int nx), .val (.int (1 : Int32))] [(.int nx), (.ref b40)]))
            refine gs (fun t => XS.iinc X55.here hx rfl (hb hby d3_90) rfl (l' := #[.val (.ref r0), .val (.ref r1), .val (.ref r2), .val (.int cn), .val (.int (nx + (1 : Int32))), .val (.int (1 : Int32))]) rfl) ?_
            show Go p e below s QQ 1 3 (T55.setTop (mkF m 93 #[.val (.ref r0), .val (.ref r1), .val (.ref r2), .val (.int cn), .val (.int (nx + (1 : Int32))), .val (.int (1 : Int32))] [(.int nx), (.ref b40)]))
            refine gs (fun t => XS.iload X55.here hx rfl (hb hby d3_93) rfl) ?_
            show Go p e below s QQ 1 3 (T55.setTop (mkF m 95 #[.val (.ref r0), .val (.ref r1), .val (.ref r2), .val (.int cn), .val (.int (nx + (1 : Int32))), .val (.int (1 : Int32))] [(.int (1 : Int32)), (.int nx), (.ref b40)]))
            obtain ⟨T56, h56, X56, e56, W56, V56, st56⟩ := stIf X55 hx hZ e55 V_b40 (j := nx) ⟨by omega, by omega⟩ (g := (mkF m 95 #[.val (.ref r0), .val (.ref r1), .val (.ref r2), .val (.int cn), .val (.int (nx + (1 : Int32))), .val (.int (1 : Int32))] [(.int (1 : Int32)), (.int nx), (.ref b40)])) rfl rfl (hb hby d3_95)
            replace N45 := Fr.snoc X56 N45 ge_b40
            refine gs st56 ?_
            show Go p e below s QQ 1 3 (T56.setTop (mkF m 96 #[.val (.ref r0), .val (.ref r1), .val (.ref r2), .val (.int cn), .val (.int (nx + (1 : Int32))), .val (.int (1 : Int32))] []))
            replace F_savedIn_r0 := F_savedIn_r0.other W56 (Or.inl ne_r0_b40)
            replace F_words_r0 := F_words_r0.other W56 (Or.inl ne_r0_b40)
            replace F_live_r0 := F_live_r0.other W56 (Or.inl ne_r0_b40)
            replace F_trail_r0 := F_trail_r0.other W56 (Or.inl ne_r0_b40)
            replace F_wordsKept_r0 := F_wordsKept_r0.other W56 (Or.inl ne_r0_b40)
            replace F_liveSlot_r0 := F_liveSlot_r0.other W56 (Or.inl ne_r0_b40)
            replace F_values_r2 := F_values_r2.other W56 (Or.inl ne_r2_b40)
            replace F_longArrays_r2 := F_longArrays_r2.other W56 (Or.inl ne_r2_b40)
            replace F_longArrayCount_r2 := F_longArrayCount_r2.other W56 (Or.inl ne_r2_b40)
            replace F_slotCount_r2 := F_slotCount_r2.other W56 (Or.inl ne_r2_b40)
            replace E_r0 := E_r0.wr W56
            replace E_r1 := E_r1.wr W56
            replace E_r2 := E_r2.wr W56
            replace V_r1 := V_r1.other W56 ne_r1_b40
            replace V_vb := V_vb.other W56 ne_vb_b40
            replace V_lb := V_lb.other W56 ne_lb_b40
            replace TK_lb := TK_lb.wr W56
            replace ZZ : n0 ≤ h56.size := by rw [W56.size]; exact ZZ
            replace KK := KK.wr W56 (Or.inr sz_b40)
            replace V_b40 : Arf Z h56 b40 .int 3 (updv fl nx.toNatClampNeg (.int (1 : Int32))) := V56
            refine gs (fun t => XS.iinc X56.here hx rfl (hb hby d3_96) rfl (l' := #[.val (.ref r0), .val (.ref r1), .val (.ref r2), .val (.int cn), .val (.int (nx + (1 : Int32))), .val (.int (2 : Int32))]) rfl) ?_
            show Go p e below s QQ 1 3 (T56.setTop (mkF m 99 #[.val (.ref r0), .val (.ref r1), .val (.ref r2), .val (.int cn), .val (.int (nx + (1 : Int32))), .val (.int (2 : Int32))] []))
            refine gs (fun t => XS.goto X56.here hx rfl (pc0 := 99) (pc' := 68) rfl (hb hby d3_99) (by decide) (by decide)) ?_
            show Go p e below s QQ 1 3 (T56.setTop (mkF m 68 #[.val (.ref r0), .val (.ref r1), .val (.ref r2), .val (.int cn), .val (.int (nx + (1 : Int32))), .val (.int (2 : Int32))] []))
            exact kb2 _ _ _ _ _ (X56) N45 e56 ZZ KK F_savedIn_r0 F_words_r0 F_live_r0 F_trail_r0 F_wordsKept_r0 F_liveSlot_r0 F_values_r2 F_longArrays_r2 F_longArrayCount_r2 F_slotCount_r2 E_r0 E_r1 E_r2 V_r1 V_vb V_lb TK_lb V_b40 (by rw [own_inc (by omega) (by omega)]; omega)
          · skip
            refine gs (fun t => XS.ifYes X45.here hx rfl (pc0 := 81) (pc' := 96) rfl (hb hby d3_81) rfl ((if0 _ _).trans (feq hz).2) (by decide) (by decide)) ?_
            show Go p e below s QQ 1 3 (T45.setTop (mkF m 96 #[.val (.ref r0), .val (.ref r1), .val (.ref r2), .val (.int cn), .val (.int nx), .val (.int (1 : Int32))] []))
            have q1 := hd1' (fun q => hz ((lw_eq _ _).mpr q))
            refine gs (fun t => XS.iinc X45.here hx rfl (hb hby d3_96) rfl (l' := #[.val (.ref r0), .val (.ref r1), .val (.ref r2), .val (.int cn), .val (.int nx), .val (.int (2 : Int32))]) rfl) ?_
            show Go p e below s QQ 1 3 (T45.setTop (mkF m 99 #[.val (.ref r0), .val (.ref r1), .val (.ref r2), .val (.int cn), .val (.int nx), .val (.int (2 : Int32))] []))
            refine gs (fun t => XS.goto X45.here hx rfl (pc0 := 99) (pc' := 68) rfl (hb hby d3_99) (by decide) (by decide)) ?_
            show Go p e below s QQ 1 3 (T45.setTop (mkF m 68 #[.val (.ref r0), .val (.ref r1), .val (.ref r2), .val (.int cn), .val (.int nx), .val (.int (2 : Int32))] []))
            exact kb2 _ _ _ _ _ (X45) N45 e45 ZZ KK F_savedIn_r0 F_words_r0 F_live_r0 F_trail_r0 F_wordsKept_r0 F_liveSlot_r0 F_values_r2 F_longArrays_r2 F_longArrayCount_r2 F_slotCount_r2 E_r0 E_r1 E_r2 V_r1 V_vb V_lb TK_lb V_b40 (by omega)
        by_cases hz : (lcmpW u0 (0 : Int64)) = (0 : Int32)
        · skip
          refine gs (fun t => XS.ifNo X44.here hx rfl (hb hby d3_81) rfl ((if0 _ _).trans (teq hz).2)) ?_
          show Go p e below s QQ 1 3 (T44.setTop (mkF m 84 #[.val (.ref r0), .val (.ref r1), .val (.ref r2), .val (.int cn), .val (.int cn), .val (.int (0 : Int32))] []))
          have q0 := hd0 ((lw_eq _ _).mp hz)
          refine gs (fun t => XS.aloadN X44.here hx rfl (hb hby d3_84) rfl rfl) ?_
          show Go p e below s QQ 1 3 (T44.setTop (mkF m 85 #[.val (.ref r0), .val (.ref r1), .val (.ref r2), .val (.int cn), .val (.int cn), .val (.int (0 : Int32))] [(.ref r0)]))
          obtain ⟨T57, X57, e57, st57⟩ := getF X44 hx hZ hown (host := "") (Or.inl (hw _ (List.mem_of_getElem? (i := 47) rfl))) Via.refl e44 F_live_r0 (g := (mkF m 85 #[.val (.ref r0), .val (.ref r1), .val (.ref r2), .val (.int cn), .val (.int cn), .val (.int (0 : Int32))] [(.ref r0)])) rfl rfl (hb hby d3_85)
          refine gs st57 ?_
          show Go p e below s QQ 1 3 (T57.setTop (mkF m 88 #[.val (.ref r0), .val (.ref r1), .val (.ref r2), .val (.int cn), .val (.int cn), .val (.int (0 : Int32))] [(.ref b40)]))
          refine gs (fun t => XS.iload X57.here hx rfl (hb hby d3_88) rfl) ?_
          show Go p e below s QQ 1 3 (T57.setTop (mkF m 90 #[.val (.ref r0), .val (.ref r1), .val (.ref r2), .val (.int cn), .val (.int cn), .val (.int (0 : Int32))] [(.int cn), (.ref b40)]))
          refine gs (fun t => XS.iinc X57.here hx rfl (hb hby d3_90) rfl (l' := #[.val (.ref r0), .val (.ref r1), .val (.ref r2), .val (.int cn), .val (.int (cn + (1 : Int32))), .val (.int (0 : Int32))]) rfl) ?_
          show Go p e below s QQ 1 3 (T57.setTop (mkF m 93 #[.val (.ref r0), .val (.ref r1), .val (.ref r2), .val (.int cn), .val (.int (cn + (1 : Int32))), .val (.int (0 : Int32))] [(.int cn), (.ref b40)]))
          refine gs (fun t => XS.iload X57.here hx rfl (hb hby d3_93) rfl) ?_
          show Go p e below s QQ 1 3 (T57.setTop (mkF m 95 #[.val (.ref r0), .val (.ref r1), .val (.ref r2), .val (.int cn), .val (.int (cn + (1 : Int32))), .val (.int (0 : Int32))] [(.int (0 : Int32)), (.int cn), (.ref b40)]))
          obtain ⟨T58, h58, X58, e58, W58, V58, st58⟩ := stIf X57 hx hZ e57 V_b40 (j := cn) ⟨by omega, by omega⟩ (g := (mkF m 95 #[.val (.ref r0), .val (.ref r1), .val (.ref r2), .val (.int cn), .val (.int (cn + (1 : Int32))), .val (.int (0 : Int32))] [(.int (0 : Int32)), (.int cn), (.ref b40)])) rfl rfl (hb hby d3_95)
          replace N44 := Fr.snoc X58 N44 ge_b40
          refine gs st58 ?_
          show Go p e below s QQ 1 3 (T58.setTop (mkF m 96 #[.val (.ref r0), .val (.ref r1), .val (.ref r2), .val (.int cn), .val (.int (cn + (1 : Int32))), .val (.int (0 : Int32))] []))
          replace F_savedIn_r0 := F_savedIn_r0.other W58 (Or.inl ne_r0_b40)
          replace F_words_r0 := F_words_r0.other W58 (Or.inl ne_r0_b40)
          replace F_live_r0 := F_live_r0.other W58 (Or.inl ne_r0_b40)
          replace F_trail_r0 := F_trail_r0.other W58 (Or.inl ne_r0_b40)
          replace F_wordsKept_r0 := F_wordsKept_r0.other W58 (Or.inl ne_r0_b40)
          replace F_liveSlot_r0 := F_liveSlot_r0.other W58 (Or.inl ne_r0_b40)
          replace F_values_r2 := F_values_r2.other W58 (Or.inl ne_r2_b40)
          replace F_longArrays_r2 := F_longArrays_r2.other W58 (Or.inl ne_r2_b40)
          replace F_longArrayCount_r2 := F_longArrayCount_r2.other W58 (Or.inl ne_r2_b40)
          replace F_slotCount_r2 := F_slotCount_r2.other W58 (Or.inl ne_r2_b40)
          replace E_r0 := E_r0.wr W58
          replace E_r1 := E_r1.wr W58
          replace E_r2 := E_r2.wr W58
          replace V_r1 := V_r1.other W58 ne_r1_b40
          replace V_vb := V_vb.other W58 ne_vb_b40
          replace V_lb := V_lb.other W58 ne_lb_b40
          replace TK_lb := TK_lb.wr W58
          replace ZZ : n0 ≤ h58.size := by rw [W58.size]; exact ZZ
          replace KK := KK.wr W58 (Or.inr sz_b40)
          replace V_b40 : Arf Z h58 b40 .int 3 (updv fl cn.toNatClampNeg (.int (0 : Int32))) := V58
          refine gs (fun t => XS.iinc X58.here hx rfl (hb hby d3_96) rfl (l' := #[.val (.ref r0), .val (.ref r1), .val (.ref r2), .val (.int cn), .val (.int (cn + (1 : Int32))), .val (.int (1 : Int32))]) rfl) ?_
          show Go p e below s QQ 1 3 (T58.setTop (mkF m 99 #[.val (.ref r0), .val (.ref r1), .val (.ref r2), .val (.int cn), .val (.int (cn + (1 : Int32))), .val (.int (1 : Int32))] []))
          refine gs (fun t => XS.goto X58.here hx rfl (pc0 := 99) (pc' := 68) rfl (hb hby d3_99) (by decide) (by decide)) ?_
          show Go p e below s QQ 1 3 (T58.setTop (mkF m 68 #[.val (.ref r0), .val (.ref r1), .val (.ref r2), .val (.int cn), .val (.int (cn + (1 : Int32))), .val (.int (1 : Int32))] []))
          exact kb1 _ _ _ _ _ (X58) N44 e58 ZZ KK F_savedIn_r0 F_words_r0 F_live_r0 F_trail_r0 F_wordsKept_r0 F_liveSlot_r0 F_values_r2 F_longArrays_r2 F_longArrayCount_r2 F_slotCount_r2 E_r0 E_r1 E_r2 V_r1 V_vb V_lb TK_lb V_b40 (by rw [own_inc (by omega) (by omega)]; omega)
        · skip
          refine gs (fun t => XS.ifYes X44.here hx rfl (pc0 := 81) (pc' := 96) rfl (hb hby d3_81) rfl ((if0 _ _).trans (feq hz).2) (by decide) (by decide)) ?_
          show Go p e below s QQ 1 3 (T44.setTop (mkF m 96 #[.val (.ref r0), .val (.ref r1), .val (.ref r2), .val (.int cn), .val (.int cn), .val (.int (0 : Int32))] []))
          have q0 := hd0' (fun q => hz ((lw_eq _ _).mpr q))
          refine gs (fun t => XS.iinc X44.here hx rfl (hb hby d3_96) rfl (l' := #[.val (.ref r0), .val (.ref r1), .val (.ref r2), .val (.int cn), .val (.int cn), .val (.int (1 : Int32))]) rfl) ?_
          show Go p e below s QQ 1 3 (T44.setTop (mkF m 99 #[.val (.ref r0), .val (.ref r1), .val (.ref r2), .val (.int cn), .val (.int cn), .val (.int (1 : Int32))] []))
          refine gs (fun t => XS.goto X44.here hx rfl (pc0 := 99) (pc' := 68) rfl (hb hby d3_99) (by decide) (by decide)) ?_
          show Go p e below s QQ 1 3 (T44.setTop (mkF m 68 #[.val (.ref r0), .val (.ref r1), .val (.ref r2), .val (.int cn), .val (.int cn), .val (.int (1 : Int32))] []))
          exact kb1 _ _ _ _ _ (X44) N44 e44 ZZ KK F_savedIn_r0 F_words_r0 F_live_r0 F_trail_r0 F_wordsKept_r0 F_liveSlot_r0 F_values_r2 F_longArrays_r2 F_longArrayCount_r2 F_slotCount_r2 E_r0 E_r1 E_r2 V_r1 V_vb V_lb TK_lb V_b40 (by omega)
      by_cases hz : (lcmpW u2 (0 : Int64)) = (0 : Int32)
      · skip
        refine gs (fun t => XS.ifYes X43.here hx rfl (pc0 := 42) (pc' := 56) rfl (hb hby d3_42) rfl ((if0 _ _).trans (teq hz).1) (by decide) (by decide)) ?_
        show Go p e below s QQ 1 3 (T43.setTop (mkF m 56 #[.val (.ref r0), .val (.ref r1), .val (.ref r2), .val (.int cn), .val (.int (2 : Int32)), .unset] []))
        have q2 := hd2 ((lw_eq _ _).mp hz)
        refine gs (fun t => XS.iinc X43.here hx rfl (hb hby d3_56) rfl (l' := #[.val (.ref r0), .val (.ref r1), .val (.ref r2), .val (.int cn), .val (.int (3 : Int32)), .unset]) rfl) ?_
        show Go p e below s QQ 1 3 (T43.setTop (mkF m 59 #[.val (.ref r0), .val (.ref r1), .val (.ref r2), .val (.int cn), .val (.int (3 : Int32)), .unset] []))
        refine gs (fun t => XS.goto X43.here hx rfl (pc0 := 59) (pc' := 29) rfl (hb hby d3_59) (by decide) (by decide)) ?_
        show Go p e below s QQ 1 3 (T43.setTop (mkF m 29 #[.val (.ref r0), .val (.ref r1), .val (.ref r2), .val (.int cn), .val (.int (3 : Int32)), .unset] []))
        exact ka3 _ _ _ _ _ (X43) N43 e43 ZZ KK F_savedIn_r0 F_words_r0 F_live_r0 F_trail_r0 F_wordsKept_r0 F_liveSlot_r0 F_values_r2 F_longArrays_r2 F_longArrayCount_r2 F_slotCount_r2 E_r0 E_r1 E_r2 V_r1 V_vb V_lb TK_lb V_b40 (by omega)
      · skip
        refine gs (fun t => XS.ifNo X43.here hx rfl (hb hby d3_42) rfl ((if0 _ _).trans (feq hz).1)) ?_
        show Go p e below s QQ 1 3 (T43.setTop (mkF m 45 #[.val (.ref r0), .val (.ref r1), .val (.ref r2), .val (.int cn), .val (.int (2 : Int32)), .unset] []))
        have q2 := hd2' (fun q => hz ((lw_eq _ _).mpr q))
        refine gs (fun t => XS.aloadN X43.here hx rfl (hb hby d3_45) rfl rfl) ?_
        show Go p e below s QQ 1 3 (T43.setTop (mkF m 46 #[.val (.ref r0), .val (.ref r1), .val (.ref r2), .val (.int cn), .val (.int (2 : Int32)), .unset] [(.ref r0)]))
        obtain ⟨T59, X59, e59, st59⟩ := getF X43 hx hZ hown (host := "") (Or.inl (hw _ (List.mem_of_getElem? (i := 47) rfl))) Via.refl e43 F_live_r0 (g := (mkF m 46 #[.val (.ref r0), .val (.ref r1), .val (.ref r2), .val (.int cn), .val (.int (2 : Int32)), .unset] [(.ref r0)])) rfl rfl (hb hby d3_46)
        refine gs st59 ?_
        show Go p e below s QQ 1 3 (T59.setTop (mkF m 49 #[.val (.ref r0), .val (.ref r1), .val (.ref r2), .val (.int cn), .val (.int (2 : Int32)), .unset] [(.ref b40)]))
        refine gs (fun t => XS.iloadN X59.here hx rfl (hb hby d3_49) rfl) ?_
        show Go p e below s QQ 1 3 (T59.setTop (mkF m 50 #[.val (.ref r0), .val (.ref r1), .val (.ref r2), .val (.int cn), .val (.int (2 : Int32)), .unset] [(.int cn), (.ref b40)]))
        refine gs (fun t => XS.iinc X59.here hx rfl (hb hby d3_50) rfl (l' := #[.val (.ref r0), .val (.ref r1), .val (.ref r2), .val (.int (cn + (1 : Int32))), .val (.int (2 : Int32)), .unset]) rfl) ?_
        show Go p e below s QQ 1 3 (T59.setTop (mkF m 53 #[.val (.ref r0), .val (.ref r1), .val (.ref r2), .val (.int (cn + (1 : Int32))), .val (.int (2 : Int32)), .unset] [(.int cn), (.ref b40)]))
        refine gs (fun t => XS.iload X59.here hx rfl (hb hby d3_53) rfl) ?_
        show Go p e below s QQ 1 3 (T59.setTop (mkF m 55 #[.val (.ref r0), .val (.ref r1), .val (.ref r2), .val (.int (cn + (1 : Int32))), .val (.int (2 : Int32)), .unset] [(.int (2 : Int32)), (.int cn), (.ref b40)]))
        obtain ⟨T60, h60, X60, e60, W60, V60, st60⟩ := stIf X59 hx hZ e59 V_b40 (j := cn) ⟨by omega, by omega⟩ (g := (mkF m 55 #[.val (.ref r0), .val (.ref r1), .val (.ref r2), .val (.int (cn + (1 : Int32))), .val (.int (2 : Int32)), .unset] [(.int (2 : Int32)), (.int cn), (.ref b40)])) rfl rfl (hb hby d3_55)
        replace N43 := Fr.snoc X60 N43 ge_b40
        refine gs st60 ?_
        show Go p e below s QQ 1 3 (T60.setTop (mkF m 56 #[.val (.ref r0), .val (.ref r1), .val (.ref r2), .val (.int (cn + (1 : Int32))), .val (.int (2 : Int32)), .unset] []))
        replace F_savedIn_r0 := F_savedIn_r0.other W60 (Or.inl ne_r0_b40)
        replace F_words_r0 := F_words_r0.other W60 (Or.inl ne_r0_b40)
        replace F_live_r0 := F_live_r0.other W60 (Or.inl ne_r0_b40)
        replace F_trail_r0 := F_trail_r0.other W60 (Or.inl ne_r0_b40)
        replace F_wordsKept_r0 := F_wordsKept_r0.other W60 (Or.inl ne_r0_b40)
        replace F_liveSlot_r0 := F_liveSlot_r0.other W60 (Or.inl ne_r0_b40)
        replace F_values_r2 := F_values_r2.other W60 (Or.inl ne_r2_b40)
        replace F_longArrays_r2 := F_longArrays_r2.other W60 (Or.inl ne_r2_b40)
        replace F_longArrayCount_r2 := F_longArrayCount_r2.other W60 (Or.inl ne_r2_b40)
        replace F_slotCount_r2 := F_slotCount_r2.other W60 (Or.inl ne_r2_b40)
        replace E_r0 := E_r0.wr W60
        replace E_r1 := E_r1.wr W60
        replace E_r2 := E_r2.wr W60
        replace V_r1 := V_r1.other W60 ne_r1_b40
        replace V_vb := V_vb.other W60 ne_vb_b40
        replace V_lb := V_lb.other W60 ne_lb_b40
        replace TK_lb := TK_lb.wr W60
        replace ZZ : n0 ≤ h60.size := by rw [W60.size]; exact ZZ
        replace KK := KK.wr W60 (Or.inr sz_b40)
        replace V_b40 : Arf Z h60 b40 .int 3 (updv fl cn.toNatClampNeg (.int (2 : Int32))) := V60
        refine gs (fun t => XS.iinc X60.here hx rfl (hb hby d3_56) rfl (l' := #[.val (.ref r0), .val (.ref r1), .val (.ref r2), .val (.int (cn + (1 : Int32))), .val (.int (3 : Int32)), .unset]) rfl) ?_
        show Go p e below s QQ 1 3 (T60.setTop (mkF m 59 #[.val (.ref r0), .val (.ref r1), .val (.ref r2), .val (.int (cn + (1 : Int32))), .val (.int (3 : Int32)), .unset] []))
        refine gs (fun t => XS.goto X60.here hx rfl (pc0 := 59) (pc' := 29) rfl (hb hby d3_59) (by decide) (by decide)) ?_
        show Go p e below s QQ 1 3 (T60.setTop (mkF m 29 #[.val (.ref r0), .val (.ref r1), .val (.ref r2), .val (.int (cn + (1 : Int32))), .val (.int (3 : Int32)), .unset] []))
        exact ka3 _ _ _ _ _ (X60) N43 e60 ZZ KK F_savedIn_r0 F_words_r0 F_live_r0 F_trail_r0 F_wordsKept_r0 F_liveSlot_r0 F_values_r2 F_longArrays_r2 F_longArrayCount_r2 F_slotCount_r2 E_r0 E_r1 E_r2 V_r1 V_vb V_lb TK_lb V_b40 (by rw [own_inc (by omega) (by omega)]; omega)
    by_cases hz : (lcmpW u1 (0 : Int64)) = (0 : Int32)
    · skip
      refine gs (fun t => XS.ifYes X42.here hx rfl (pc0 := 42) (pc' := 56) rfl (hb hby d3_42) rfl ((if0 _ _).trans (teq hz).1) (by decide) (by decide)) ?_
      show Go p e below s QQ 1 3 (T42.setTop (mkF m 56 #[.val (.ref r0), .val (.ref r1), .val (.ref r2), .val (.int cn), .val (.int (1 : Int32)), .unset] []))
      have q1 := hd1 ((lw_eq _ _).mp hz)
      refine gs (fun t => XS.iinc X42.here hx rfl (hb hby d3_56) rfl (l' := #[.val (.ref r0), .val (.ref r1), .val (.ref r2), .val (.int cn), .val (.int (2 : Int32)), .unset]) rfl) ?_
      show Go p e below s QQ 1 3 (T42.setTop (mkF m 59 #[.val (.ref r0), .val (.ref r1), .val (.ref r2), .val (.int cn), .val (.int (2 : Int32)), .unset] []))
      refine gs (fun t => XS.goto X42.here hx rfl (pc0 := 59) (pc' := 29) rfl (hb hby d3_59) (by decide) (by decide)) ?_
      show Go p e below s QQ 1 3 (T42.setTop (mkF m 29 #[.val (.ref r0), .val (.ref r1), .val (.ref r2), .val (.int cn), .val (.int (2 : Int32)), .unset] []))
      exact ka2 _ _ _ _ _ (X42) N42 e42 ZZ KK F_savedIn_r0 F_words_r0 F_live_r0 F_trail_r0 F_wordsKept_r0 F_liveSlot_r0 F_values_r2 F_longArrays_r2 F_longArrayCount_r2 F_slotCount_r2 E_r0 E_r1 E_r2 V_r1 V_vb V_lb TK_lb V_b40 (by omega)
    · skip
      refine gs (fun t => XS.ifNo X42.here hx rfl (hb hby d3_42) rfl ((if0 _ _).trans (feq hz).1)) ?_
      show Go p e below s QQ 1 3 (T42.setTop (mkF m 45 #[.val (.ref r0), .val (.ref r1), .val (.ref r2), .val (.int cn), .val (.int (1 : Int32)), .unset] []))
      have q1 := hd1' (fun q => hz ((lw_eq _ _).mpr q))
      refine gs (fun t => XS.aloadN X42.here hx rfl (hb hby d3_45) rfl rfl) ?_
      show Go p e below s QQ 1 3 (T42.setTop (mkF m 46 #[.val (.ref r0), .val (.ref r1), .val (.ref r2), .val (.int cn), .val (.int (1 : Int32)), .unset] [(.ref r0)]))
      obtain ⟨T61, X61, e61, st61⟩ := getF X42 hx hZ hown (host := "") (Or.inl (hw _ (List.mem_of_getElem? (i := 47) rfl))) Via.refl e42 F_live_r0 (g := (mkF m 46 #[.val (.ref r0), .val (.ref r1), .val (.ref r2), .val (.int cn), .val (.int (1 : Int32)), .unset] [(.ref r0)])) rfl rfl (hb hby d3_46)
      refine gs st61 ?_
      show Go p e below s QQ 1 3 (T61.setTop (mkF m 49 #[.val (.ref r0), .val (.ref r1), .val (.ref r2), .val (.int cn), .val (.int (1 : Int32)), .unset] [(.ref b40)]))
      refine gs (fun t => XS.iloadN X61.here hx rfl (hb hby d3_49) rfl) ?_
      show Go p e below s QQ 1 3 (T61.setTop (mkF m 50 #[.val (.ref r0), .val (.ref r1), .val (.ref r2), .val (.int cn), .val (.int (1 : Int32)), .unset] [(.int cn), (.ref b40)]))
      refine gs (fun t => XS.iinc X61.here hx rfl (hb hby d3_50) rfl (l' := #[.val (.ref r0), .val (.ref r1), .val (.ref r2), .val (.int (cn + (1 : Int32))), .val (.int (1 : Int32)), .unset]) rfl) ?_
      show Go p e below s QQ 1 3 (T61.setTop (mkF m 53 #[.val (.ref r0), .val (.ref r1), .val (.ref r2), .val (.int (cn + (1 : Int32))), .val (.int (1 : Int32)), .unset] [(.int cn), (.ref b40)]))
      refine gs (fun t => XS.iload X61.here hx rfl (hb hby d3_53) rfl) ?_
      show Go p e below s QQ 1 3 (T61.setTop (mkF m 55 #[.val (.ref r0), .val (.ref r1), .val (.ref r2), .val (.int (cn + (1 : Int32))), .val (.int (1 : Int32)), .unset] [(.int (1 : Int32)), (.int cn), (.ref b40)]))
      obtain ⟨T62, h62, X62, e62, W62, V62, st62⟩ := stIf X61 hx hZ e61 V_b40 (j := cn) ⟨by omega, by omega⟩ (g := (mkF m 55 #[.val (.ref r0), .val (.ref r1), .val (.ref r2), .val (.int (cn + (1 : Int32))), .val (.int (1 : Int32)), .unset] [(.int (1 : Int32)), (.int cn), (.ref b40)])) rfl rfl (hb hby d3_55)
      replace N42 := Fr.snoc X62 N42 ge_b40
      refine gs st62 ?_
      show Go p e below s QQ 1 3 (T62.setTop (mkF m 56 #[.val (.ref r0), .val (.ref r1), .val (.ref r2), .val (.int (cn + (1 : Int32))), .val (.int (1 : Int32)), .unset] []))
      replace F_savedIn_r0 := F_savedIn_r0.other W62 (Or.inl ne_r0_b40)
      replace F_words_r0 := F_words_r0.other W62 (Or.inl ne_r0_b40)
      replace F_live_r0 := F_live_r0.other W62 (Or.inl ne_r0_b40)
      replace F_trail_r0 := F_trail_r0.other W62 (Or.inl ne_r0_b40)
      replace F_wordsKept_r0 := F_wordsKept_r0.other W62 (Or.inl ne_r0_b40)
      replace F_liveSlot_r0 := F_liveSlot_r0.other W62 (Or.inl ne_r0_b40)
      replace F_values_r2 := F_values_r2.other W62 (Or.inl ne_r2_b40)
      replace F_longArrays_r2 := F_longArrays_r2.other W62 (Or.inl ne_r2_b40)
      replace F_longArrayCount_r2 := F_longArrayCount_r2.other W62 (Or.inl ne_r2_b40)
      replace F_slotCount_r2 := F_slotCount_r2.other W62 (Or.inl ne_r2_b40)
      replace E_r0 := E_r0.wr W62
      replace E_r1 := E_r1.wr W62
      replace E_r2 := E_r2.wr W62
      replace V_r1 := V_r1.other W62 ne_r1_b40
      replace V_vb := V_vb.other W62 ne_vb_b40
      replace V_lb := V_lb.other W62 ne_lb_b40
      replace TK_lb := TK_lb.wr W62
      replace ZZ : n0 ≤ h62.size := by rw [W62.size]; exact ZZ
      replace KK := KK.wr W62 (Or.inr sz_b40)
      replace V_b40 : Arf Z h62 b40 .int 3 (updv fl cn.toNatClampNeg (.int (1 : Int32))) := V62
      refine gs (fun t => XS.iinc X62.here hx rfl (hb hby d3_56) rfl (l' := #[.val (.ref r0), .val (.ref r1), .val (.ref r2), .val (.int (cn + (1 : Int32))), .val (.int (2 : Int32)), .unset]) rfl) ?_
      show Go p e below s QQ 1 3 (T62.setTop (mkF m 59 #[.val (.ref r0), .val (.ref r1), .val (.ref r2), .val (.int (cn + (1 : Int32))), .val (.int (2 : Int32)), .unset] []))
      refine gs (fun t => XS.goto X62.here hx rfl (pc0 := 59) (pc' := 29) rfl (hb hby d3_59) (by decide) (by decide)) ?_
      show Go p e below s QQ 1 3 (T62.setTop (mkF m 29 #[.val (.ref r0), .val (.ref r1), .val (.ref r2), .val (.int (cn + (1 : Int32))), .val (.int (2 : Int32)), .unset] []))
      exact ka2 _ _ _ _ _ (X62) N42 e62 ZZ KK F_savedIn_r0 F_words_r0 F_live_r0 F_trail_r0 F_wordsKept_r0 F_liveSlot_r0 F_values_r2 F_longArrays_r2 F_longArrayCount_r2 F_slotCount_r2 E_r0 E_r1 E_r2 V_r1 V_vb V_lb TK_lb V_b40 (by rw [own_inc (by omega) (by omega)]; omega)
  by_cases hz : (lcmpW u0 (0 : Int64)) = (0 : Int32)
  · skip
    refine gs (fun t => XS.ifYes X41.here hx rfl (pc0 := 42) (pc' := 56) rfl (hb hby d3_42) rfl ((if0 _ _).trans (teq hz).1) (by decide) (by decide)) ?_
    show Go p e below s QQ 1 3 (T41.setTop (mkF m 56 #[.val (.ref r0), .val (.ref r1), .val (.ref r2), .val (.int (0 : Int32)), .val (.int (0 : Int32)), .unset] []))
    have q0 := hd0 ((lw_eq _ _).mp hz)
    refine gs (fun t => XS.iinc X41.here hx rfl (hb hby d3_56) rfl (l' := #[.val (.ref r0), .val (.ref r1), .val (.ref r2), .val (.int (0 : Int32)), .val (.int (1 : Int32)), .unset]) rfl) ?_
    show Go p e below s QQ 1 3 (T41.setTop (mkF m 59 #[.val (.ref r0), .val (.ref r1), .val (.ref r2), .val (.int (0 : Int32)), .val (.int (1 : Int32)), .unset] []))
    refine gs (fun t => XS.goto X41.here hx rfl (pc0 := 59) (pc' := 29) rfl (hb hby d3_59) (by decide) (by decide)) ?_
    show Go p e below s QQ 1 3 (T41.setTop (mkF m 29 #[.val (.ref r0), .val (.ref r1), .val (.ref r2), .val (.int (0 : Int32)), .val (.int (1 : Int32)), .unset] []))
    exact ka1 _ _ _ _ _ (X41) N0 e41 ZZ KK F_savedIn_r0 F_words_r0 F_live_r0 F_trail_r0 F_wordsKept_r0 F_liveSlot_r0 F_values_r2 F_longArrays_r2 F_longArrayCount_r2 F_slotCount_r2 E_r0 E_r1 E_r2 V_r1 V_vb V_lb TK_lb V_b40 (by rw [q0]; rfl)
  · skip
    refine gs (fun t => XS.ifNo X41.here hx rfl (hb hby d3_42) rfl ((if0 _ _).trans (feq hz).1)) ?_
    show Go p e below s QQ 1 3 (T41.setTop (mkF m 45 #[.val (.ref r0), .val (.ref r1), .val (.ref r2), .val (.int (0 : Int32)), .val (.int (0 : Int32)), .unset] []))
    have q0 := hd0' (fun q => hz ((lw_eq _ _).mpr q))
    refine gs (fun t => XS.aloadN X41.here hx rfl (hb hby d3_45) rfl rfl) ?_
    show Go p e below s QQ 1 3 (T41.setTop (mkF m 46 #[.val (.ref r0), .val (.ref r1), .val (.ref r2), .val (.int (0 : Int32)), .val (.int (0 : Int32)), .unset] [(.ref r0)]))
    obtain ⟨T63, X63, e63, st63⟩ := getF X41 hx hZ hown (host := "") (Or.inl (hw _ (List.mem_of_getElem? (i := 47) rfl))) Via.refl e41 F_live_r0 (g := (mkF m 46 #[.val (.ref r0), .val (.ref r1), .val (.ref r2), .val (.int (0 : Int32)), .val (.int (0 : Int32)), .unset] [(.ref r0)])) rfl rfl (hb hby d3_46)
    refine gs st63 ?_
    show Go p e below s QQ 1 3 (T63.setTop (mkF m 49 #[.val (.ref r0), .val (.ref r1), .val (.ref r2), .val (.int (0 : Int32)), .val (.int (0 : Int32)), .unset] [(.ref b40)]))
    refine gs (fun t => XS.iloadN X63.here hx rfl (hb hby d3_49) rfl) ?_
    show Go p e below s QQ 1 3 (T63.setTop (mkF m 50 #[.val (.ref r0), .val (.ref r1), .val (.ref r2), .val (.int (0 : Int32)), .val (.int (0 : Int32)), .unset] [(.int (0 : Int32)), (.ref b40)]))
    refine gs (fun t => XS.iinc X63.here hx rfl (hb hby d3_50) rfl (l' := #[.val (.ref r0), .val (.ref r1), .val (.ref r2), .val (.int (1 : Int32)), .val (.int (0 : Int32)), .unset]) rfl) ?_
    show Go p e below s QQ 1 3 (T63.setTop (mkF m 53 #[.val (.ref r0), .val (.ref r1), .val (.ref r2), .val (.int (1 : Int32)), .val (.int (0 : Int32)), .unset] [(.int (0 : Int32)), (.ref b40)]))
    refine gs (fun t => XS.iload X63.here hx rfl (hb hby d3_53) rfl) ?_
    show Go p e below s QQ 1 3 (T63.setTop (mkF m 55 #[.val (.ref r0), .val (.ref r1), .val (.ref r2), .val (.int (1 : Int32)), .val (.int (0 : Int32)), .unset] [(.int (0 : Int32)), (.int (0 : Int32)), (.ref b40)]))
    obtain ⟨T64, h64, X64, e64, W64, V64, st64⟩ := stIf X63 hx hZ e63 V_b40 (j := (0 : Int32)) (by decide) (g := (mkF m 55 #[.val (.ref r0), .val (.ref r1), .val (.ref r2), .val (.int (1 : Int32)), .val (.int (0 : Int32)), .unset] [(.int (0 : Int32)), (.int (0 : Int32)), (.ref b40)])) rfl rfl (hb hby d3_55)
    replace N0 := Fr.snoc X64 N0 ge_b40
    refine gs st64 ?_
    show Go p e below s QQ 1 3 (T64.setTop (mkF m 56 #[.val (.ref r0), .val (.ref r1), .val (.ref r2), .val (.int (1 : Int32)), .val (.int (0 : Int32)), .unset] []))
    replace F_savedIn_r0 := F_savedIn_r0.other W64 (Or.inl ne_r0_b40)
    replace F_words_r0 := F_words_r0.other W64 (Or.inl ne_r0_b40)
    replace F_live_r0 := F_live_r0.other W64 (Or.inl ne_r0_b40)
    replace F_trail_r0 := F_trail_r0.other W64 (Or.inl ne_r0_b40)
    replace F_wordsKept_r0 := F_wordsKept_r0.other W64 (Or.inl ne_r0_b40)
    replace F_liveSlot_r0 := F_liveSlot_r0.other W64 (Or.inl ne_r0_b40)
    replace F_values_r2 := F_values_r2.other W64 (Or.inl ne_r2_b40)
    replace F_longArrays_r2 := F_longArrays_r2.other W64 (Or.inl ne_r2_b40)
    replace F_longArrayCount_r2 := F_longArrayCount_r2.other W64 (Or.inl ne_r2_b40)
    replace F_slotCount_r2 := F_slotCount_r2.other W64 (Or.inl ne_r2_b40)
    replace E_r0 := E_r0.wr W64
    replace E_r1 := E_r1.wr W64
    replace E_r2 := E_r2.wr W64
    replace V_r1 := V_r1.other W64 ne_r1_b40
    replace V_vb := V_vb.other W64 ne_vb_b40
    replace V_lb := V_lb.other W64 ne_lb_b40
    replace TK_lb := TK_lb.wr W64
    replace ZZ : n0 ≤ h64.size := by rw [W64.size]; exact ZZ
    replace KK := KK.wr W64 (Or.inr sz_b40)
    replace V_b40 : Arf Z h64 b40 .int 3 (updv (fun _ => .int 0) 0 (.int (0 : Int32))) := V64
    refine gs (fun t => XS.iinc X64.here hx rfl (hb hby d3_56) rfl (l' := #[.val (.ref r0), .val (.ref r1), .val (.ref r2), .val (.int (1 : Int32)), .val (.int (1 : Int32)), .unset]) rfl) ?_
    show Go p e below s QQ 1 3 (T64.setTop (mkF m 59 #[.val (.ref r0), .val (.ref r1), .val (.ref r2), .val (.int (1 : Int32)), .val (.int (1 : Int32)), .unset] []))
    refine gs (fun t => XS.goto X64.here hx rfl (pc0 := 59) (pc' := 29) rfl (hb hby d3_59) (by decide) (by decide)) ?_
    show Go p e below s QQ 1 3 (T64.setTop (mkF m 29 #[.val (.ref r0), .val (.ref r1), .val (.ref r2), .val (.int (1 : Int32)), .val (.int (1 : Int32)), .unset] []))
    exact ka1 _ _ _ _ _ (X64) N0 e64 ZZ KK F_savedIn_r0 F_words_r0 F_live_r0 F_trail_r0 F_wordsKept_r0 F_liveSlot_r0 F_values_r2 F_longArrays_r2 F_longArrayCount_r2 F_slotCount_r2 E_r0 E_r1 E_r2 V_r1 V_vb V_lb TK_lb V_b40 (by rw [q0]; rfl)
theorem d6_0 : decode prog_17_method_8_code 0 = .ok (.aload_n 0, 1) := by decide +kernel
theorem d6_1 : decode prog_17_method_8_code 1 = .ok (.getfield 22, 3) := by decide +kernel
theorem d6_4 : decode prog_17_method_8_code 4 = .ok (.iload_n 1, 1) := by decide +kernel
theorem d6_5 : decode prog_17_method_8_code 5 = .ok (.bipush 6, 2) := by decide +kernel
theorem d6_7 : decode prog_17_method_8_code 7 = .ok (.iushr, 1) := by decide +kernel
theorem d6_8 : decode prog_17_method_8_code 8 = .ok (.laload, 1) := by decide +kernel
theorem d6_9 : decode prog_17_method_8_code 9 = .ok (.lconst 1, 1) := by decide +kernel
theorem d6_10 : decode prog_17_method_8_code 10 = .ok (.iload_n 1, 1) := by decide +kernel
theorem d6_11 : decode prog_17_method_8_code 11 = .ok (.lshl, 1) := by decide +kernel
theorem d6_12 : decode prog_17_method_8_code 12 = .ok (.land, 1) := by decide +kernel
theorem d6_13 : decode prog_17_method_8_code 13 = .ok (.lconst 0, 1) := by decide +kernel
theorem d6_14 : decode prog_17_method_8_code 14 = .ok (.lcmp, 1) := by decide +kernel
theorem d6_15 : decode prog_17_method_8_code 15 = .ok (.ifCond .eq 7, 3) := by decide +kernel
theorem d6_18 : decode prog_17_method_8_code 18 = .ok (.iconst 1, 1) := by decide +kernel
theorem d6_19 : decode prog_17_method_8_code 19 = .ok (.goto 4, 3) := by decide +kernel
theorem d6_22 : decode prog_17_method_8_code 22 = .ok (.iconst 0, 1) := by decide +kernel
theorem d6_23 : decode prog_17_method_8_code 23 = .ok (.ireturn, 1) := by decide +kernel
theorem pn_6 : plainName "com/example/tuplewise/tuplewise/SparseBitSet" = true := by first | (simp [plainName, overriddenIn]; done) | decide +kernel
def Qrm6 (Z : State) (r0 : Addr) (p1 : Int32) (rw_ : Addr) (fw : Nat → Value) (wv : Int64) (h0 : Heap) (n0 : Nat) (v : Option Value) (h : Heap) (L : List Loc) : Prop := v = some (.int (if (wv &&& ((1 : Int64) <<< (p1 &&& 0x3f).toInt64)) = 0 then 0 else 1)) ∧ Fr n0 L ∧ h = h0
set_option maxRecDepth 65536 in
set_option maxHeartbeats 40000000 in
theorem rm6 (l : Launch) (Z : State) (a0 : Array Value) (hw : ∀ d ∈ tables_1, d.before a0 Z = true) (ws : List Jvm.Cond) (r0 : Addr) (p1 : Int32) (rw_ : Addr) (fw : Nat → Value) (wv : Int64) (h0 : Heap) (n0 : Nat) (Z0 : n0 ≤ h0.size) (F_words_r0 : Fld Z h0 r0 "com/example/tuplewise/tuplewise/SparseBitSet" "words" "[J" (.ref rw_)) (V_rw_ : Arf Z h0 rw_ .long 3 fw) (hin : 0 ≤ ((p1.toUInt32 >>> ((6 : Int32) &&& 31).toUInt32).toInt32).toInt ∧ ((p1.toUInt32 >>> ((6 : Int32) &&& 31).toUInt32).toInt32).toInt < (3 : Nat)) (hwv : fw ((p1.toUInt32 >>> ((6 : Int32) &&& 31).toUInt32).toInt32).toNatClampNeg = .long wv) :
    MetFree l (⟨"com/example/tuplewise/tuplewise/SparseBitSet", "contains", "(I)Z"⟩ : MethodName) (head1 (Jvm.Cond.code (⟨"com/example/tuplewise/tuplewise/SparseBitSet", "contains", "(I)Z"⟩ : MethodName) prog_17_method_8_code 2 (some .boolean) :: ws) ({ frames := 0, cells := 0, slots := 0, locals := 0 } : Room)) (fun a U => a = #[(.ref r0), (.int p1)] ∧ Z.Warmed39 U.vm ∧ U.heap = h0) (fun _ _ _ _ _ => True) (fun _ U o U' => ∃ v L, o = .returned v ∧ Qrm6 Z r0 p1 rw_ fw wv h0 n0 v U'.heap L ∧ FrameEnd U o U' L ({ frames := 0, cells := 0, slots := 0, locals := 0 } : Room).cells ({ frames := 0, cells := 0, slots := 0, locals := 0 } : Room).slots) := by
  refine MetFree.of_bodySF (plainFor_of_name pn_6) hisR ?_
  intro p e s m args below meth c s₁ Bd hml0 hP hK
  obtain ⟨rfl, hZ, hh⟩ := hP
  have hx := Bd.exec
  have hby := Bd.bytes
  have hml : c.maxLocals = 2 := hml0
  have hown : s.vm.findClass "com/example/tuplewise/tuplewise/SparseBitSet" = some m.cls := findClass_of_methodNamed Bd.named
  have hnm := (name_of_methodNamed Bd.named Bd.method).1
  have X0 : Stand p l e ({ frames := 0, cells := 0, slots := 0, locals := 0 } : Room) s m #[(.ref r0), (.int p1)] below meth c s₁ [] 0 0 := Stand.of_body Bd
  have e0 : s₁.heap = h0 := by rw [← hh, Bd.state]; rfl
  have N0 := Fr.nil n0
  have ZZ := Z0
  show Go p e below s (Qrm6 Z r0 p1 rw_ fw wv h0 n0) 0 0 (s₁.setTop (entryFrame m #[(.ref r0), (.int p1)] 2))
  generalize hQQ : (Qrm6 Z r0 p1 rw_ fw wv h0 n0) = QQ
  refine gs (fun t k => castTop (g' := (mkF m 0 #[.val (.ref r0), .val (.int p1)] [])) (by first | (simp [entryFrame, mkF, argsToLocals, Value.category, maxLocals]; done) | rfl) k) ?_
  show Go p e below s QQ 0 0 (s₁.setTop (mkF m 0 #[.val (.ref r0), .val (.int p1)] []))
  refine gs (fun t => XS.aloadN X0.here hx rfl (hb hby d6_0) rfl rfl) ?_
  show Go p e below s QQ 0 0 (s₁.setTop (mkF m 1 #[.val (.ref r0), .val (.int p1)] [(.ref r0)]))
  obtain ⟨T65, X65, e65, st65⟩ := getF X0 hx hZ hown (host := "") (Or.inl (hw _ (List.mem_of_getElem? (i := 45) rfl))) Via.refl e0 F_words_r0 (g := (mkF m 1 #[.val (.ref r0), .val (.int p1)] [(.ref r0)])) rfl rfl (hb hby d6_1)
  refine gs st65 ?_
  show Go p e below s QQ 0 0 (T65.setTop (mkF m 4 #[.val (.ref r0), .val (.int p1)] [(.ref rw_)]))
  refine gs (fun t => XS.iloadN X65.here hx rfl (hb hby d6_4) rfl) ?_
  show Go p e below s QQ 0 0 (T65.setTop (mkF m 5 #[.val (.ref r0), .val (.int p1)] [(.int p1), (.ref rw_)]))
  refine gs (fun t => XS.bipush X65.here hx rfl (hb hby d6_5)) ?_
  show Go p e below s QQ 0 0 (T65.setTop (mkF m 7 #[.val (.ref r0), .val (.int p1)] [(.int (6 : Int32)), (.int p1), (.ref rw_)]))
  refine gs (fun t => XS.iushr X65.here hx rfl (hb hby d6_7) rfl) ?_
  show Go p e below s QQ 0 0 (T65.setTop (mkF m 8 #[.val (.ref r0), .val (.int p1)] [(.int ((p1.toUInt32 >>> ((6 : Int32) &&& 31).toUInt32).toInt32)), (.ref rw_)]))
  refine gs (fun t => ldJf X65 hx hZ e65 V_rw_ (j := ((p1.toUInt32 >>> ((6 : Int32) &&& 31).toUInt32).toInt32)) (v := (.long wv)) hin hwv (g := (mkF m 8 #[.val (.ref r0), .val (.int p1)] [(.int ((p1.toUInt32 >>> ((6 : Int32) &&& 31).toUInt32).toInt32)), (.ref rw_)])) rfl rfl (hb hby d6_8) t) ?_
  show Go p e below s QQ 0 0 (T65.setTop (mkF m 9 #[.val (.ref r0), .val (.int p1)] [(.long wv)]))
  refine gs (fun t => XS.lconst X65.here hx rfl (hb hby d6_9)) ?_
  show Go p e below s QQ 0 0 (T65.setTop (mkF m 10 #[.val (.ref r0), .val (.int p1)] [(.long (1 : Int64)), (.long wv)]))
  refine gs (fun t => XS.iloadN X65.here hx rfl (hb hby d6_10) rfl) ?_
  show Go p e below s QQ 0 0 (T65.setTop (mkF m 11 #[.val (.ref r0), .val (.int p1)] [(.int p1), (.long (1 : Int64)), (.long wv)]))
  refine gs (fun t => XS.lshl X65.here hx rfl (hb hby d6_11) rfl) ?_
  show Go p e below s QQ 0 0 (T65.setTop (mkF m 12 #[.val (.ref r0), .val (.int p1)] [(.long ((1 : Int64) <<< (p1 &&& 0x3f).toInt64)), (.long wv)]))
  refine gs (fun t => XS.land X65.here hx rfl (hb hby d6_12) rfl) ?_
  show Go p e below s QQ 0 0 (T65.setTop (mkF m 13 #[.val (.ref r0), .val (.int p1)] [(.long (wv &&& ((1 : Int64) <<< (p1 &&& 0x3f).toInt64)))]))
  refine gs (fun t => XS.lconst X65.here hx rfl (hb hby d6_13)) ?_
  show Go p e below s QQ 0 0 (T65.setTop (mkF m 14 #[.val (.ref r0), .val (.int p1)] [(.long (0 : Int64)), (.long (wv &&& ((1 : Int64) <<< (p1 &&& 0x3f).toInt64)))]))
  refine gs (fun t => XS.lcmp X65.here hx rfl (hb hby d6_14) rfl) ?_
  show Go p e below s QQ 0 0 (T65.setTop (mkF m 15 #[.val (.ref r0), .val (.int p1)] [(.int (lcmpW (wv &&& ((1 : Int64) <<< (p1 &&& 0x3f).toInt64)) (0 : Int64)))]))
  by_cases hz : (lcmpW (wv &&& ((1 : Int64) <<< (p1 &&& 0x3f).toInt64)) (0 : Int64)) = (0 : Int32)
  · skip
    refine gs (fun t => XS.ifYes X65.here hx rfl (pc0 := 15) (pc' := 22) rfl (hb hby d6_15) rfl ((if0 _ _).trans (teq hz).1) (by decide) (by decide)) ?_
    show Go p e below s QQ 0 0 (T65.setTop (mkF m 22 #[.val (.ref r0), .val (.int p1)] []))
    refine gs (fun t => XS.iconst X65.here hx rfl (hb hby d6_22)) ?_
    show Go p e below s QQ 0 0 (T65.setTop (mkF m 23 #[.val (.ref r0), .val (.int p1)] [(.int (0 : Int32))]))
    exact goB X65 hx Bd.notSynchronized Bd.returns (by simp) (w := (0 : Int32)) (by first | rfl | decide) (hb hby d6_23) (by rw [← hQQ, e65]; exact ⟨by rw [if_pos ((lw_eq _ _).mp hz)], N0, rfl⟩) (by decide) (by decide)
  · skip
    refine gs (fun t => XS.ifNo X65.here hx rfl (hb hby d6_15) rfl ((if0 _ _).trans (feq hz).1)) ?_
    show Go p e below s QQ 0 0 (T65.setTop (mkF m 18 #[.val (.ref r0), .val (.int p1)] []))
    refine gs (fun t => XS.iconst X65.here hx rfl (hb hby d6_18)) ?_
    show Go p e below s QQ 0 0 (T65.setTop (mkF m 19 #[.val (.ref r0), .val (.int p1)] [(.int (1 : Int32))]))
    refine gs (fun t => XS.goto X65.here hx rfl (pc0 := 19) (pc' := 23) rfl (hb hby d6_19) (by decide) (by decide)) ?_
    show Go p e below s QQ 0 0 (T65.setTop (mkF m 23 #[.val (.ref r0), .val (.int p1)] [(.int (1 : Int32))]))
    exact goB X65 hx Bd.notSynchronized Bd.returns (by simp) (w := (1 : Int32)) (by first | rfl | decide) (hb hby d6_23) (by rw [← hQQ, e65]; exact ⟨by rw [if_neg (fun q => hz ((lw_eq _ _).mpr q))], N0, rfl⟩) (by decide) (by decide)
theorem pn_0 : plainName "com/example/tuplewise/tuplewise/SparseBitSetContainsPinLaw" = true := by first | (simp [plainName, overriddenIn]; done) | decide +kernel
def Qrm0 (Z : State) (p0 : Int64) (p1 : Int64) (p2 : Int64) (p3 : Int32) (h0 : Heap) (n0 : Nat) (v : Option Value) (h : Heap) (L : List Loc) : Prop := v = some (.int 1) ∧ Fr n0 L
set_option maxRecDepth 65536 in
set_option maxHeartbeats 40000000 in
theorem rm0 (l : Launch) (Z : State) (a0 : Array Value) (hw : ∀ d ∈ tables_1, d.before a0 Z = true) (ws : List Jvm.Cond) (p0 : Int64) (p1 : Int64) (p2 : Int64) (p3 : Int32) (h0 : Heap) (n0 : Nat) (Z0 : n0 ≤ h0.size) :
    MetFree l x (head1 (Jvm.Cond.code x code maxLocals ret :: ws) room_1) (fun a U => a = #[(.long p0), (.long p1), (.long p2), (.int p3)] ∧ Z.Warmed39 U.vm ∧ U.heap = h0) (fun _ _ _ _ _ => True) (fun _ U o U' => ∃ v L, o = .returned v ∧ Qrm0 Z p0 p1 p2 p3 h0 n0 v U'.heap L ∧ FrameEnd U o U' L room_1.cells room_1.slots) := by
  refine MetFree.of_bodySF (plainFor_of_name pn_0) hisR ?_
  intro p e s m args below meth c s₁ Bd hml0 hP hK
  obtain ⟨rfl, hZ, hh⟩ := hP
  have hx := Bd.exec
  have hby := Bd.bytes
  have hml : c.maxLocals = 14 := hml0
  have hown : s.vm.findClass "com/example/tuplewise/tuplewise/SparseBitSetContainsPinLaw" = some m.cls := findClass_of_methodNamed Bd.named
  have hnm := (name_of_methodNamed Bd.named Bd.method).1
  have X0 : Stand p l e room_1 s m #[(.long p0), (.long p1), (.long p2), (.int p3)] below meth c s₁ [] 0 0 := Stand.of_body Bd
  have e0 : s₁.heap = h0 := by rw [← hh, Bd.state]; rfl
  have N0 := Fr.nil n0
  have ZZ := Z0
  show Go p e below s (Qrm0 Z p0 p1 p2 p3 h0 n0) room_1.cells room_1.slots (s₁.setTop (entryFrame m #[(.long p0), (.long p1), (.long p2), (.int p3)] maxLocals))
  generalize hQQ : (Qrm0 Z p0 p1 p2 p3 h0 n0) = QQ
  refine gs (fun t k => castTop (g' := (mkF m 0 #[.val (.long p0), .second, .val (.long p1), .second, .val (.long p2), .second, .val (.int p3), .unset, .unset, .unset, .unset, .unset, .unset, .unset] [])) (by first | (simp [entryFrame, mkF, argsToLocals, Value.category, maxLocals]; done) | rfl) k) ?_
  show Go p e below s QQ room_1.cells room_1.slots (s₁.setTop (mkF m 0 #[.val (.long p0), .second, .val (.long p1), .second, .val (.long p2), .second, .val (.int p3), .unset, .unset, .unset, .unset, .unset, .unset, .unset] []))
  refine gs (fun t => XS.iconst X0.here hx rfl (hb hby at_0)) ?_
  show Go p e below s QQ room_1.cells room_1.slots (s₁.setTop (mkF m 1 #[.val (.long p0), .second, .val (.long p1), .second, .val (.long p2), .second, .val (.int p3), .unset, .unset, .unset, .unset, .unset, .unset, .unset] [(.int (3 : Int32))]))
  obtain ⟨T66, h66, k66, X66, e66, E66, A66, Q66, st66⟩ := newPE X0 hx hZ (hw _ (List.mem_of_getElem? (i := 0) rfl)) e0 (g := (mkF m 1 #[.val (.long p0), .second, .val (.long p1), .second, .val (.long p2), .second, .val (.int p3), .unset, .unset, .unset, .unset, .unset, .unset, .unset] [(.int (3 : Int32))])) rfl (hb hby at_1) rfl (by decide) (cap := 3) (by decide) (by decide) (by decide) (by decide) (ad := "[J") (by decide)
  obtain ⟨b66, g66⟩ : ∃ z, z = h0.size := ⟨_, rfl⟩
  rw [← g66] at A66 st66 Q66
  have ge_b66 : n0 ≤ b66 := by rw [g66]; exact ZZ
  refine gs st66 ?_
  show Go p e below s QQ room_1.cells room_1.slots (T66.setTop (mkF m 3 #[.val (.long p0), .second, .val (.long p1), .second, .val (.long p2), .second, .val (.int p3), .unset, .unset, .unset, .unset, .unset, .unset, .unset] [(.ref b66)]))
  replace ZZ := Nat.le_trans ZZ E66.1
  have V_b66 : Arf Z h66 b66 .long 3 (fun _ => .long 0) := Arf.new A66
  have Ex_b66 := Q66
  refine gs (fun t => XS.astore X66.here hx rfl (hb hby at_3) rfl rfl (l' := #[.val (.long p0), .second, .val (.long p1), .second, .val (.long p2), .second, .val (.int p3), .val (.ref b66), .unset, .unset, .unset, .unset, .unset, .unset]) rfl) ?_
  show Go p e below s QQ room_1.cells room_1.slots (T66.setTop (mkF m 5 #[.val (.long p0), .second, .val (.long p1), .second, .val (.long p2), .second, .val (.int p3), .val (.ref b66), .unset, .unset, .unset, .unset, .unset, .unset] []))
  refine gs (fun t => XS.aload X66.here hx rfl (hb hby at_5) rfl rfl) ?_
  show Go p e below s QQ room_1.cells room_1.slots (T66.setTop (mkF m 7 #[.val (.long p0), .second, .val (.long p1), .second, .val (.long p2), .second, .val (.int p3), .val (.ref b66), .unset, .unset, .unset, .unset, .unset, .unset] [(.ref b66)]))
  refine gs (fun t => XS.iconst X66.here hx rfl (hb hby at_7)) ?_
  show Go p e below s QQ room_1.cells room_1.slots (T66.setTop (mkF m 8 #[.val (.long p0), .second, .val (.long p1), .second, .val (.long p2), .second, .val (.int p3), .val (.ref b66), .unset, .unset, .unset, .unset, .unset, .unset] [(.int (0 : Int32)), (.ref b66)]))
  refine gs (fun t => XS.lloadN X66.here hx rfl (hb hby at_8) rfl) ?_
  show Go p e below s QQ room_1.cells room_1.slots (T66.setTop (mkF m 9 #[.val (.long p0), .second, .val (.long p1), .second, .val (.long p2), .second, .val (.int p3), .val (.ref b66), .unset, .unset, .unset, .unset, .unset, .unset] [(.long p0), (.int (0 : Int32)), (.ref b66)]))
  obtain ⟨T67, h67, X67, e67, W67, V67, st67⟩ := stJf X66 hx hZ e66 V_b66 (j := (0 : Int32)) (by decide) (g := (mkF m 9 #[.val (.long p0), .second, .val (.long p1), .second, .val (.long p2), .second, .val (.int p3), .val (.ref b66), .unset, .unset, .unset, .unset, .unset, .unset] [(.long p0), (.int (0 : Int32)), (.ref b66)])) rfl rfl (hb hby at_9)
  replace N0 := Fr.snoc X67 N0 ge_b66
  refine gs st67 ?_
  show Go p e below s QQ room_1.cells room_1.slots (T67.setTop (mkF m 10 #[.val (.long p0), .second, .val (.long p1), .second, .val (.long p2), .second, .val (.int p3), .val (.ref b66), .unset, .unset, .unset, .unset, .unset, .unset] []))
  replace Ex_b66 := Ex_b66.wr W67
  replace ZZ : n0 ≤ h67.size := by rw [W67.size]; exact ZZ
  replace V_b66 : Arf Z h67 b66 .long 3 (updv (fun _ => .long 0) 0 (.long p0)) := V67
  refine gs (fun t => XS.aload X67.here hx rfl (hb hby at_10) rfl rfl) ?_
  show Go p e below s QQ room_1.cells room_1.slots (T67.setTop (mkF m 12 #[.val (.long p0), .second, .val (.long p1), .second, .val (.long p2), .second, .val (.int p3), .val (.ref b66), .unset, .unset, .unset, .unset, .unset, .unset] [(.ref b66)]))
  refine gs (fun t => XS.iconst X67.here hx rfl (hb hby at_12)) ?_
  show Go p e below s QQ room_1.cells room_1.slots (T67.setTop (mkF m 13 #[.val (.long p0), .second, .val (.long p1), .second, .val (.long p2), .second, .val (.int p3), .val (.ref b66), .unset, .unset, .unset, .unset, .unset, .unset] [(.int (1 : Int32)), (.ref b66)]))
  refine gs (fun t => XS.lloadN X67.here hx rfl (hb hby at_13) rfl) ?_
  show Go p e below s QQ room_1.cells room_1.slots (T67.setTop (mkF m 14 #[.val (.long p0), .second, .val (.long p1), .second, .val (.long p2), .second, .val (.int p3), .val (.ref b66), .unset, .unset, .unset, .unset, .unset, .unset] [(.long p1), (.int (1 : Int32)), (.ref b66)]))
  obtain ⟨T68, h68, X68, e68, W68, V68, st68⟩ := stJf X67 hx hZ e67 V_b66 (j := (1 : Int32)) (by decide) (g := (mkF m 14 #[.val (.long p0), .second, .val (.long p1), .second, .val (.long p2), .second, .val (.int p3), .val (.ref b66), .unset, .unset, .unset, .unset, .unset, .unset] [(.long p1), (.int (1 : Int32)), (.ref b66)])) rfl rfl (hb hby at_14)
  replace N0 := Fr.snoc X68 N0 ge_b66
  refine gs st68 ?_
  show Go p e below s QQ room_1.cells room_1.slots (T68.setTop (mkF m 15 #[.val (.long p0), .second, .val (.long p1), .second, .val (.long p2), .second, .val (.int p3), .val (.ref b66), .unset, .unset, .unset, .unset, .unset, .unset] []))
  replace Ex_b66 := Ex_b66.wr W68
  replace ZZ : n0 ≤ h68.size := by rw [W68.size]; exact ZZ
  replace V_b66 : Arf Z h68 b66 .long 3 (updv (updv (fun _ => .long 0) 0 (.long p0)) 1 (.long p1)) := V68
  refine gs (fun t => XS.aload X68.here hx rfl (hb hby at_15) rfl rfl) ?_
  show Go p e below s QQ room_1.cells room_1.slots (T68.setTop (mkF m 17 #[.val (.long p0), .second, .val (.long p1), .second, .val (.long p2), .second, .val (.int p3), .val (.ref b66), .unset, .unset, .unset, .unset, .unset, .unset] [(.ref b66)]))
  refine gs (fun t => XS.iconst X68.here hx rfl (hb hby at_17)) ?_
  show Go p e below s QQ room_1.cells room_1.slots (T68.setTop (mkF m 18 #[.val (.long p0), .second, .val (.long p1), .second, .val (.long p2), .second, .val (.int p3), .val (.ref b66), .unset, .unset, .unset, .unset, .unset, .unset] [(.int (2 : Int32)), (.ref b66)]))
  refine gs (fun t => XS.lload X68.here hx rfl (hb hby at_18) rfl) ?_
  show Go p e below s QQ room_1.cells room_1.slots (T68.setTop (mkF m 20 #[.val (.long p0), .second, .val (.long p1), .second, .val (.long p2), .second, .val (.int p3), .val (.ref b66), .unset, .unset, .unset, .unset, .unset, .unset] [(.long p2), (.int (2 : Int32)), (.ref b66)]))
  obtain ⟨T69, h69, X69, e69, W69, V69, st69⟩ := stJf X68 hx hZ e68 V_b66 (j := (2 : Int32)) (by decide) (g := (mkF m 20 #[.val (.long p0), .second, .val (.long p1), .second, .val (.long p2), .second, .val (.int p3), .val (.ref b66), .unset, .unset, .unset, .unset, .unset, .unset] [(.long p2), (.int (2 : Int32)), (.ref b66)])) rfl rfl (hb hby at_20)
  replace N0 := Fr.snoc X69 N0 ge_b66
  refine gs st69 ?_
  show Go p e below s QQ room_1.cells room_1.slots (T69.setTop (mkF m 21 #[.val (.long p0), .second, .val (.long p1), .second, .val (.long p2), .second, .val (.int p3), .val (.ref b66), .unset, .unset, .unset, .unset, .unset, .unset] []))
  replace Ex_b66 := Ex_b66.wr W69
  replace ZZ : n0 ≤ h69.size := by rw [W69.size]; exact ZZ
  replace V_b66 : Arf Z h69 b66 .long 3 (updv (updv (updv (fun _ => .long 0) 0 (.long p0)) 1 (.long p1)) 2 (.long p2)) := V69
  obtain ⟨T70, h70, X70, e70, E70, A70, D70, -, st70⟩ := newO X69 hx hZ hown (hw _ (List.mem_of_getElem? (i := 1) rfl)) (hw _ (List.mem_of_getElem? (i := 2) rfl)) (hw _ (List.mem_of_getElem? (i := 3) rfl)) e69 (g := (mkF m 21 #[.val (.long p0), .second, .val (.long p1), .second, .val (.long p2), .second, .val (.int p3), .val (.ref b66), .unset, .unset, .unset, .unset, .unset, .unset] [])) rfl (hb hby at_21) (by decide) (by decide)
  obtain ⟨b70, g70⟩ : ∃ z, z = h69.size := ⟨_, rfl⟩
  rw [← g70] at A70 D70 st70
  have ge_b70 : n0 ≤ b70 := by rw [g70]; exact ZZ
  have ne_b66_b70 : b66 ≠ b70 := by rw [g70]; exact Nat.ne_of_lt V_b66.lt
  refine gs st70 ?_
  show Go p e below s QQ room_1.cells room_1.slots (T70.setTop (mkF m 24 #[.val (.long p0), .second, .val (.long p1), .second, .val (.long p2), .second, .val (.int p3), .val (.ref b66), .unset, .unset, .unset, .unset, .unset, .unset] [(.ref b70)]))
  replace V_b66 := V_b66.ext E70
  replace Ex_b66 := Ex_b66.ext E70
  replace ZZ := Nat.le_trans ZZ E70.1
  have Ex_b70 := A70
  have F_savedIn_b70 : Fld Z h70 b70 "com/example/tuplewise/tuplewise/SparseBitSet" "savedIn" "J" (.long (0 : Int64)) := D70 (Or.inl (hw _ (List.mem_of_getElem? (i := 44) rfl))) (ty := .long) (by decide)
  have F_words_b70 : Fld Z h70 b70 "com/example/tuplewise/tuplewise/SparseBitSet" "words" "[J" .null := D70 (Or.inr (hw _ (List.mem_of_getElem? (i := 46) rfl))) (ty := (.array .long)) (by decide)
  have F_live_b70 : Fld Z h70 b70 "com/example/tuplewise/tuplewise/SparseBitSet" "live" "[I" .null := D70 (Or.inr (hw _ (List.mem_of_getElem? (i := 48) rfl))) (ty := (.array .int)) (by decide)
  have F_trail_b70 : Fld Z h70 b70 "com/example/tuplewise/tuplewise/SparseBitSet" "trail" "Lcom/example/tuplewise/tuplewise/Trail;" .null := D70 (Or.inr (hw _ (List.mem_of_getElem? (i := 50) rfl))) (ty := (.object "com/example/tuplewise/tuplewise/Trail")) (by decide)
  have F_wordsKept_b70 : Fld Z h70 b70 "com/example/tuplewise/tuplewise/SparseBitSet" "wordsKept" "I" (.int (0 : Int32)) := D70 (Or.inr (hw _ (List.mem_of_getElem? (i := 60) rfl))) (ty := .int) (by decide)
  have F_liveSlot_b70 : Fld Z h70 b70 "com/example/tuplewise/tuplewise/SparseBitSet" "liveSlot" "I" (.int (0 : Int32)) := D70 (Or.inr (hw _ (List.mem_of_getElem? (i := 69) rfl))) (ty := .int) (by decide)
  refine gs (fun t => XS.dup X70.here hx rfl (hb hby at_24) rfl rfl) ?_
  show Go p e below s QQ room_1.cells room_1.slots (T70.setTop (mkF m 25 #[.val (.long p0), .second, .val (.long p1), .second, .val (.long p2), .second, .val (.int p3), .val (.ref b66), .unset, .unset, .unset, .unset, .unset, .unset] [(.ref b70), (.ref b70)]))
  refine gs (fun t => XS.aload X70.here hx rfl (hb hby at_25) rfl rfl) ?_
  show Go p e below s QQ room_1.cells room_1.slots (T70.setTop (mkF m 27 #[.val (.long p0), .second, .val (.long p1), .second, .val (.long p2), .second, .val (.int p3), .val (.ref b66), .unset, .unset, .unset, .unset, .unset, .unset] [(.ref b66), (.ref b70), (.ref b70)]))
  obtain ⟨T71, h71, X71, e71, E71, A71, D71, -, st71⟩ := newO X70 hx hZ hown (hw _ (List.mem_of_getElem? (i := 4) rfl)) (hw _ (List.mem_of_getElem? (i := 5) rfl)) (hw _ (List.mem_of_getElem? (i := 6) rfl)) e70 (g := (mkF m 27 #[.val (.long p0), .second, .val (.long p1), .second, .val (.long p2), .second, .val (.int p3), .val (.ref b66), .unset, .unset, .unset, .unset, .unset, .unset] [(.ref b66), (.ref b70), (.ref b70)])) rfl (hb hby at_27) (by decide) (by decide)
  obtain ⟨b71, g71⟩ : ∃ z, z = h70.size := ⟨_, rfl⟩
  rw [← g71] at A71 D71 st71
  have ge_b71 : n0 ≤ b71 := by rw [g71]; exact ZZ
  have ne_b66_b71 : b66 ≠ b71 := by rw [g71]; exact Nat.ne_of_lt V_b66.lt
  have ne_b70_b71 : b70 ≠ b71 := by rw [g71]; exact Nat.ne_of_lt Ex_b70.lt
  refine gs st71 ?_
  show Go p e below s QQ room_1.cells room_1.slots (T71.setTop (mkF m 30 #[.val (.long p0), .second, .val (.long p1), .second, .val (.long p2), .second, .val (.int p3), .val (.ref b66), .unset, .unset, .unset, .unset, .unset, .unset] [(.ref b71), (.ref b66), (.ref b70), (.ref b70)]))
  replace V_b66 := V_b66.ext E71
  replace Ex_b66 := Ex_b66.ext E71
  replace Ex_b70 := Ex_b70.ext E71
  replace F_savedIn_b70 := F_savedIn_b70.ext E71
  replace F_words_b70 := F_words_b70.ext E71
  replace F_live_b70 := F_live_b70.ext E71
  replace F_trail_b70 := F_trail_b70.ext E71
  replace F_wordsKept_b70 := F_wordsKept_b70.ext E71
  replace F_liveSlot_b70 := F_liveSlot_b70.ext E71
  replace ZZ := Nat.le_trans ZZ E71.1
  have Ex_b71 := A71
  have F_values_b71 : Fld Z h71 b71 "com/example/tuplewise/tuplewise/Trail" "values" "[I" .null := D71 (Or.inl (hw _ (List.mem_of_getElem? (i := 15) rfl))) (ty := (.array .int)) (by decide)
  have F_savedIn_b71 : Fld Z h71 b71 "com/example/tuplewise/tuplewise/Trail" "savedIn" "[J" .null := D71 (Or.inl (hw _ (List.mem_of_getElem? (i := 17) rfl))) (ty := (.array .long)) (by decide)
  have F_savedSlots_b71 : Fld Z h71 b71 "com/example/tuplewise/tuplewise/Trail" "savedSlots" "[I" .null := D71 (Or.inl (hw _ (List.mem_of_getElem? (i := 19) rfl))) (ty := (.array .int)) (by decide)
  have F_savedValues_b71 : Fld Z h71 b71 "com/example/tuplewise/tuplewise/Trail" "savedValues" "[I" .null := D71 (Or.inl (hw _ (List.mem_of_getElem? (i := 21) rfl))) (ty := (.array .int)) (by decide)
  have F_longArrays_b71 : Fld Z h71 b71 "com/example/tuplewise/tuplewise/Trail" "longArrays" "[[J" .null := D71 (Or.inl (hw _ (List.mem_of_getElem? (i := 25) rfl))) (ty := (.array (.array .long))) (by decide)
  have F_savedLongCells_b71 : Fld Z h71 b71 "com/example/tuplewise/tuplewise/Trail" "savedLongCells" "[J" .null := D71 (Or.inl (hw _ (List.mem_of_getElem? (i := 27) rfl))) (ty := (.array .long)) (by decide)
  have F_savedLongValues_b71 : Fld Z h71 b71 "com/example/tuplewise/tuplewise/Trail" "savedLongValues" "[J" .null := D71 (Or.inl (hw _ (List.mem_of_getElem? (i := 29) rfl))) (ty := (.array .long)) (by decide)
  have F_levelStarts_b71 : Fld Z h71 b71 "com/example/tuplewise/tuplewise/Trail" "levelStarts" "[I" .null := D71 (Or.inl (hw _ (List.mem_of_getElem? (i := 31) rfl))) (ty := (.array .int)) (by decide)
  have F_levelLongStarts_b71 : Fld Z h71 b71 "com/example/tuplewise/tuplewise/Trail" "levelLongStarts" "[I" .null := D71 (Or.inl (hw _ (List.mem_of_getElem? (i := 33) rfl))) (ty := (.array .int)) (by decide)
  have F_levelIds_b71 : Fld Z h71 b71 "com/example/tuplewise/tuplewise/Trail" "levelIds" "[J" .null := D71 (Or.inl (hw _ (List.mem_of_getElem? (i := 35) rfl))) (ty := (.array .long)) (by decide)
  have F_nextLevelId_b71 : Fld Z h71 b71 "com/example/tuplewise/tuplewise/Trail" "nextLevelId" "J" (.long (0 : Int64)) := D71 (Or.inl (hw _ (List.mem_of_getElem? (i := 37) rfl))) (ty := .long) (by decide)
  have F_longArrayCount_b71 : Fld Z h71 b71 "com/example/tuplewise/tuplewise/Trail" "longArrayCount" "I" (.int (0 : Int32)) := D71 (Or.inl (hw _ (List.mem_of_getElem? (i := 57) rfl))) (ty := .int) (by decide)
  have F_slotCount_b71 : Fld Z h71 b71 "com/example/tuplewise/tuplewise/Trail" "slotCount" "I" (.int (0 : Int32)) := D71 (Or.inl (hw _ (List.mem_of_getElem? (i := 67) rfl))) (ty := .int) (by decide)
  refine gs (fun t => XS.dup X71.here hx rfl (hb hby at_30) rfl rfl) ?_
  show Go p e below s QQ room_1.cells room_1.slots (T71.setTop (mkF m 31 #[.val (.long p0), .second, .val (.long p1), .second, .val (.long p2), .second, .val (.int p3), .val (.ref b66), .unset, .unset, .unset, .unset, .unset, .unset] [(.ref b71), (.ref b71), (.ref b66), (.ref b70), (.ref b70)]))
  have ZZm72 := ZZ
  have lt72_b66 := V_b66.lt
  have lt72_b70 := Ex_b70.lt
  have lt72_b71 := Ex_b71.lt
  obtain ⟨_, _, ⟨T73, L73, k73, n73⟩, -, X73, ⟨Lc73, hQ73, l73, y73, z73⟩, st73⟩ := X71.specialBack hx (y := (⟨"com/example/tuplewise/tuplewise/Trail", "<init>", "()V"⟩ : MethodName)) rfl hown (mvT hZ (hw _ (List.mem_of_getElem? (i := 7) rfl))) (mvT hZ (hw _ (List.mem_of_getElem? (i := 8) rfl))) (mvT hZ (hw _ (List.mem_of_getElem? (i := 9) rfl))) (by decide) (backOf (W := 4) (rm1 l Z a0 hw [] b71 h71 n0 ZZ F_values_b71 F_savedIn_b71 F_savedSlots_b71 F_savedValues_b71 F_longArrays_b71 F_savedLongCells_b71 F_savedLongValues_b71 F_levelStarts_b71 F_levelLongStarts_b71 F_levelIds_b71 F_nextLevelId_b71 F_longArrayCount_b71 F_slotCount_b71 Ex_b71 ge_b71) hZ (hw _ (List.mem_of_getElem? (i := 9) rfl)) (hw _ (List.mem_of_getElem? (i := 6) rfl)) (by decide) (by decide)) (g := (mkF m 31 #[.val (.long p0), .second, .val (.long p1), .second, .val (.long p2), .second, .val (.int p3), .val (.ref b66), .unset, .unset, .unset, .unset, .unset, .unset] [(.ref b71), (.ref b71), (.ref b66), (.ref b70), (.ref b70)])) rfl (by rw [hml]; rfl) (Steps.refl _) (a := b71) (argsL := []) (rest := [(.ref b71), (.ref b66), (.ref b70), (.ref b70)]) (lenOf pd_2 rfl) rfl (by show 2 * 0 + _ ≤ _; exact Nat.le_of_eq rfl) (hb hby at_31) (fun _ _ => ⟨rfl, e71, (by decide : 3 + 10 ≤ _), (by decide : 26 + 968 ≤ _)⟩)
  dsimp only [Pt.U, Pt.locs, Pt.cells, Pt.slots] at X73 l73 y73 z73 st73 hQ73
  subst l73 y73 z73
  obtain ⟨vb, lb, rfl, N73q, K73, Fa73, Fb73, Fc73, Fd73, gvb, glb, V_vb, V_lb, TK_lb, nvl⟩ := hQ73
  replace N0 := Fr.app N0 N73q
  refine gt st73 ?_
  show Go p e below s QQ room_1.cells room_1.slots (T73.setTop (mkF m 34 #[.val (.long p0), .second, .val (.long p1), .second, .val (.long p2), .second, .val (.int p3), .val (.ref b66), .unset, .unset, .unset, .unset, .unset, .unset] [(.ref b71), (.ref b66), (.ref b70), (.ref b70)]))
  replace V_b66 := V_b66.keep K73 (ninS ne_b66_b71 nin0)
  replace Ex_b66 := Ex_b66.keep K73
  replace Ex_b70 := Ex_b70.keep K73
  replace F_savedIn_b70 := F_savedIn_b70.keep K73 (ninS ne_b70_b71 nin0)
  replace F_words_b70 := F_words_b70.keep K73 (ninS ne_b70_b71 nin0)
  replace F_live_b70 := F_live_b70.keep K73 (ninS ne_b70_b71 nin0)
  replace F_trail_b70 := F_trail_b70.keep K73 (ninS ne_b70_b71 nin0)
  replace F_wordsKept_b70 := F_wordsKept_b70.keep K73 (ninS ne_b70_b71 nin0)
  replace F_liveSlot_b70 := F_liveSlot_b70.keep K73 (ninS ne_b70_b71 nin0)
  replace Ex_b71 := Ex_b71.keep K73
  replace ZZ := Nat.le_trans ZZ K73.1
  have ne_b66_vb : b66 ≠ vb := Nat.ne_of_lt (Nat.lt_of_lt_of_le lt72_b66 gvb)
  have ne_b70_vb : b70 ≠ vb := Nat.ne_of_lt (Nat.lt_of_lt_of_le lt72_b70 gvb)
  have ne_b71_vb : b71 ≠ vb := Nat.ne_of_lt (Nat.lt_of_lt_of_le lt72_b71 gvb)
  have ge_vb : n0 ≤ vb := Nat.le_trans ZZm72 gvb
  have ne_b66_lb : b66 ≠ lb := Nat.ne_of_lt (Nat.lt_of_lt_of_le lt72_b66 glb)
  have ne_b70_lb : b70 ≠ lb := Nat.ne_of_lt (Nat.lt_of_lt_of_le lt72_b70 glb)
  have ne_b71_lb : b71 ≠ lb := Nat.ne_of_lt (Nat.lt_of_lt_of_le lt72_b71 glb)
  have ge_lb : n0 ≤ lb := Nat.le_trans ZZm72 glb
  obtain ⟨_, _, ⟨T74, L74, k74, n74⟩, -, X74, ⟨Lc74, hQ74, l74, y74, z74⟩, st74⟩ := X73.specialBack hx (y := (⟨"com/example/tuplewise/tuplewise/SparseBitSet", "<init>", "([JLcom/example/tuplewise/tuplewise/Trail;)V"⟩ : MethodName)) rfl hown (mvT hZ (hw _ (List.mem_of_getElem? (i := 38) rfl))) (mvT hZ (hw _ (List.mem_of_getElem? (i := 39) rfl))) (mvT hZ (hw _ (List.mem_of_getElem? (i := 40) rfl))) (by decide) (backOf (W := 1) (rm3 l Z a0 hw [] b70 b66 b71 vb lb (updv (updv (updv (fun _ => .long 0) 0 (.long p0)) 1 (.long p1)) 2 (.long p2)) p0 p1 p2 T73.heap n0 ZZ F_savedIn_b70 F_words_b70 F_live_b70 F_trail_b70 F_wordsKept_b70 F_liveSlot_b70 Fa73 Fb73 Fc73 Fd73 Ex_b70 Ex_b66 Ex_b71 V_b66 V_vb V_lb TK_lb ge_b70 ge_b71 ge_vb ge_lb (Ne.symm ne_b66_b70) ne_b70_b71 ne_b70_vb ne_b70_lb ne_b66_b71 ne_b66_vb ne_b66_lb ne_b71_vb ne_b71_lb nvl rfl rfl rfl) hZ (hw _ (List.mem_of_getElem? (i := 40) rfl)) (hw _ (List.mem_of_getElem? (i := 3) rfl)) (by decide) (by decide)) (g := (mkF m 34 #[.val (.long p0), .second, .val (.long p1), .second, .val (.long p2), .second, .val (.int p3), .val (.ref b66), .unset, .unset, .unset, .unset, .unset, .unset] [(.ref b71), (.ref b66), (.ref b70), (.ref b70)])) rfl (by rw [hml]; rfl) (Steps.refl _) (a := b70) (argsL := [(.ref b66), (.ref b71)]) (rest := [(.ref b70)]) (lenOf pd_3 rfl) rfl (by show 2 * 0 + _ ≤ _; exact Nat.le_of_eq rfl) (hb hby at_34) (fun _ _ => ⟨rfl, rfl, (by decide : 13 + 1 ≤ _), (by decide : 994 + 3 ≤ _)⟩)
  dsimp only [Pt.U, Pt.locs, Pt.cells, Pt.slots] at X74 l74 y74 z74 st74 hQ74
  subst l74 y74 z74
  obtain ⟨rfl, N74q, K74, Fw74⟩ := hQ74
  replace N0 := Fr.app N0 N74q
  refine gt st74 ?_
  show Go p e below s QQ room_1.cells room_1.slots (T74.setTop (mkF m 37 #[.val (.long p0), .second, .val (.long p1), .second, .val (.long p2), .second, .val (.int p3), .val (.ref b66), .unset, .unset, .unset, .unset, .unset, .unset] [(.ref b70)]))
  replace V_b66 := V_b66.keep K74 (ninS ne_b66_b70 (ninS ne_b66_b71 (ninS ne_b66_vb (ninS ne_b66_lb nin0))))
  replace Ex_b66 := Ex_b66.keep K74
  replace Ex_b70 := Ex_b70.keep K74
  replace Ex_b71 := Ex_b71.keep K74
  replace ZZ := Nat.le_trans ZZ K74.1
  refine gs (fun t => XS.astore X74.here hx rfl (hb hby at_37) rfl rfl (l' := #[.val (.long p0), .second, .val (.long p1), .second, .val (.long p2), .second, .val (.int p3), .val (.ref b66), .val (.ref b70), .unset, .unset, .unset, .unset, .unset]) rfl) ?_
  show Go p e below s QQ room_1.cells room_1.slots (T74.setTop (mkF m 39 #[.val (.long p0), .second, .val (.long p1), .second, .val (.long p2), .second, .val (.int p3), .val (.ref b66), .val (.ref b70), .unset, .unset, .unset, .unset, .unset] []))
  refine gs (fun t => XS.iload X74.here hx rfl (hb hby at_39) rfl) ?_
  show Go p e below s QQ room_1.cells room_1.slots (T74.setTop (mkF m 41 #[.val (.long p0), .second, .val (.long p1), .second, .val (.long p2), .second, .val (.int p3), .val (.ref b66), .val (.ref b70), .unset, .unset, .unset, .unset, .unset] [(.int p3)]))
  refine gs (fun t => X74.ldcInt hx hown (mvT hZ (hw _ (List.mem_of_getElem? (i := 70) rfl))) (g := (mkF m 41 #[.val (.long p0), .second, .val (.long p1), .second, .val (.long p2), .second, .val (.int p3), .val (.ref b66), .val (.ref b70), .unset, .unset, .unset, .unset, .unset] [(.int p3)])) rfl (hb hby at_41) t) ?_
  show Go p e below s QQ room_1.cells room_1.slots (T74.setTop (mkF m 43 #[.val (.long p0), .second, .val (.long p1), .second, .val (.long p2), .second, .val (.int p3), .val (.ref b66), .val (.ref b70), .unset, .unset, .unset, .unset, .unset] [(.int (2147483647 : Int32)), (.int p3)]))
  refine gs (fun t => XS.iand X74.here hx rfl (hb hby at_43) rfl) ?_
  show Go p e below s QQ room_1.cells room_1.slots (T74.setTop (mkF m 44 #[.val (.long p0), .second, .val (.long p1), .second, .val (.long p2), .second, .val (.int p3), .val (.ref b66), .val (.ref b70), .unset, .unset, .unset, .unset, .unset] [(.int (p3 &&& (2147483647 : Int32)))]))
  refine gs (fun t => XS.sipush X74.here hx rfl (hb hby at_44)) ?_
  show Go p e below s QQ room_1.cells room_1.slots (T74.setTop (mkF m 47 #[.val (.long p0), .second, .val (.long p1), .second, .val (.long p2), .second, .val (.int p3), .val (.ref b66), .val (.ref b70), .unset, .unset, .unset, .unset, .unset] [(.int (192 : Int32)), (.int (p3 &&& (2147483647 : Int32)))]))
  refine gs (fun t => iremM X74 hx (g := (mkF m 47 #[.val (.long p0), .second, .val (.long p1), .second, .val (.long p2), .second, .val (.int p3), .val (.ref b66), .val (.ref b70), .unset, .unset, .unset, .unset, .unset] [(.int (192 : Int32)), (.int (p3 &&& (2147483647 : Int32)))])) rfl (hb hby at_47) rfl (by decide)) ?_
  show Go p e below s QQ room_1.cells room_1.slots (T74.setTop (mkF m 48 #[.val (.long p0), .second, .val (.long p1), .second, .val (.long p2), .second, .val (.int p3), .val (.ref b66), .val (.ref b70), .unset, .unset, .unset, .unset, .unset] [(.int ((p3 &&& (2147483647 : Int32)) % (192 : Int32)))]))
  generalize hnn : ((p3 &&& (2147483647 : Int32)) % (192 : Int32)) = nn
  show Go p e below s QQ room_1.cells room_1.slots (T74.setTop (mkF m 48 #[.val (.long p0), .second, .val (.long p1), .second, .val (.long p2), .second, .val (.int p3), .val (.ref b66), .val (.ref b70), .unset, .unset, .unset, .unset, .unset] [(.int nn)]))
  obtain ⟨hn0, hn1, hix⟩ := own_n p3 hnn
  refine gs (fun t => XS.istore X74.here hx rfl (hb hby at_48) rfl (l' := #[.val (.long p0), .second, .val (.long p1), .second, .val (.long p2), .second, .val (.int p3), .val (.ref b66), .val (.ref b70), .val (.int nn), .unset, .unset, .unset, .unset]) rfl) ?_
  show Go p e below s QQ room_1.cells room_1.slots (T74.setTop (mkF m 50 #[.val (.long p0), .second, .val (.long p1), .second, .val (.long p2), .second, .val (.int p3), .val (.ref b66), .val (.ref b70), .val (.int nn), .unset, .unset, .unset, .unset] []))
  refine gs (fun t => XS.iload X74.here hx rfl (hb hby at_50) rfl) ?_
  show Go p e below s QQ room_1.cells room_1.slots (T74.setTop (mkF m 52 #[.val (.long p0), .second, .val (.long p1), .second, .val (.long p2), .second, .val (.int p3), .val (.ref b66), .val (.ref b70), .val (.int nn), .unset, .unset, .unset, .unset] [(.int nn)]))
  refine gs (fun t => XS.bipush X74.here hx rfl (hb hby at_52)) ?_
  show Go p e below s QQ room_1.cells room_1.slots (T74.setTop (mkF m 54 #[.val (.long p0), .second, .val (.long p1), .second, .val (.long p2), .second, .val (.int p3), .val (.ref b66), .val (.ref b70), .val (.int nn), .unset, .unset, .unset, .unset] [(.int (64 : Int32)), (.int nn)]))
  by_cases h1 : nn < (64 : Int32)
  · skip
    refine gs (fun t => XS.icmpNo X74.here hx rfl (hb hby at_54) rfl (tlt h1).2.1) ?_
    show Go p e below s QQ room_1.cells room_1.slots (T74.setTop (mkF m 57 #[.val (.long p0), .second, .val (.long p1), .second, .val (.long p2), .second, .val (.int p3), .val (.ref b66), .val (.ref b70), .val (.int nn), .unset, .unset, .unset, .unset] []))
    have g1 : nn.toInt < 64 := by rw [Int32.lt_iff_toInt_lt] at h1; exact h1
    refine gs (fun t => XS.lloadN X74.here hx rfl (hb hby at_57) rfl) ?_
    show Go p e below s QQ room_1.cells room_1.slots (T74.setTop (mkF m 58 #[.val (.long p0), .second, .val (.long p1), .second, .val (.long p2), .second, .val (.int p3), .val (.ref b66), .val (.ref b70), .val (.int nn), .unset, .unset, .unset, .unset] [(.long p0)]))
    refine gs (fun t => XS.lstore X74.here hx rfl (hb hby at_58) rfl (l' := #[.val (.long p0), .second, .val (.long p1), .second, .val (.long p2), .second, .val (.int p3), .val (.ref b66), .val (.ref b70), .val (.int nn), .val (.long p0), .second, .unset, .unset]) rfl) ?_
    show Go p e below s QQ room_1.cells room_1.slots (T74.setTop (mkF m 60 #[.val (.long p0), .second, .val (.long p1), .second, .val (.long p2), .second, .val (.int p3), .val (.ref b66), .val (.ref b70), .val (.int nn), .val (.long p0), .second, .unset, .unset] []))
    refine gs (fun t => XS.iload X74.here hx rfl (hb hby at_60) rfl) ?_
    show Go p e below s QQ room_1.cells room_1.slots (T74.setTop (mkF m 62 #[.val (.long p0), .second, .val (.long p1), .second, .val (.long p2), .second, .val (.int p3), .val (.ref b66), .val (.ref b70), .val (.int nn), .val (.long p0), .second, .unset, .unset] [(.int nn)]))
    refine gs (fun t => XS.istore X74.here hx rfl (hb hby at_62) rfl (l' := #[.val (.long p0), .second, .val (.long p1), .second, .val (.long p2), .second, .val (.int p3), .val (.ref b66), .val (.ref b70), .val (.int nn), .val (.long p0), .second, .val (.int nn), .unset]) rfl) ?_
    show Go p e below s QQ room_1.cells room_1.slots (T74.setTop (mkF m 64 #[.val (.long p0), .second, .val (.long p1), .second, .val (.long p2), .second, .val (.int p3), .val (.ref b66), .val (.ref b70), .val (.int nn), .val (.long p0), .second, .val (.int nn), .unset] []))
    refine gs (fun t => XS.goto X74.here hx rfl (pc0 := 64) (pc' := 100) rfl (hb hby at_64) (by decide) (by decide)) ?_
    show Go p e below s QQ room_1.cells room_1.slots (T74.setTop (mkF m 100 #[.val (.long p0), .second, .val (.long p1), .second, .val (.long p2), .second, .val (.int p3), .val (.ref b66), .val (.ref b70), .val (.int nn), .val (.long p0), .second, .val (.int nn), .unset] []))
    refine gs (fun t => XS.lload X74.here hx rfl (hb hby at_100) rfl) ?_
    show Go p e below s QQ room_1.cells room_1.slots (T74.setTop (mkF m 102 #[.val (.long p0), .second, .val (.long p1), .second, .val (.long p2), .second, .val (.int p3), .val (.ref b66), .val (.ref b70), .val (.int nn), .val (.long p0), .second, .val (.int nn), .unset] [(.long p0)]))
    refine gs (fun t => XS.iload X74.here hx rfl (hb hby at_102) rfl) ?_
    show Go p e below s QQ room_1.cells room_1.slots (T74.setTop (mkF m 104 #[.val (.long p0), .second, .val (.long p1), .second, .val (.long p2), .second, .val (.int p3), .val (.ref b66), .val (.ref b70), .val (.int nn), .val (.long p0), .second, .val (.int nn), .unset] [(.int nn), (.long p0)]))
    refine gs (fun t => XS.lushr X74.here hx rfl (hb hby at_104) rfl) ?_
    show Go p e below s QQ room_1.cells room_1.slots (T74.setTop (mkF m 105 #[.val (.long p0), .second, .val (.long p1), .second, .val (.long p2), .second, .val (.int p3), .val (.ref b66), .val (.ref b70), .val (.int nn), .val (.long p0), .second, .val (.int nn), .unset] [(.long ((p0.toUInt64 >>> (nn &&& 0x3f).toInt64.toUInt64).toInt64))]))
    refine gs (fun t => XS.lconst X74.here hx rfl (hb hby at_105)) ?_
    show Go p e below s QQ room_1.cells room_1.slots (T74.setTop (mkF m 106 #[.val (.long p0), .second, .val (.long p1), .second, .val (.long p2), .second, .val (.int p3), .val (.ref b66), .val (.ref b70), .val (.int nn), .val (.long p0), .second, .val (.int nn), .unset] [(.long (1 : Int64)), (.long ((p0.toUInt64 >>> (nn &&& 0x3f).toInt64.toUInt64).toInt64))]))
    refine gs (fun t => XS.land X74.here hx rfl (hb hby at_106) rfl) ?_
    show Go p e below s QQ room_1.cells room_1.slots (T74.setTop (mkF m 107 #[.val (.long p0), .second, .val (.long p1), .second, .val (.long p2), .second, .val (.int p3), .val (.ref b66), .val (.ref b70), .val (.int nn), .val (.long p0), .second, .val (.int nn), .unset] [(.long (((p0.toUInt64 >>> (nn &&& 0x3f).toInt64.toUInt64).toInt64) &&& (1 : Int64)))]))
    refine gs (fun t => XS.lconst X74.here hx rfl (hb hby at_107)) ?_
    show Go p e below s QQ room_1.cells room_1.slots (T74.setTop (mkF m 108 #[.val (.long p0), .second, .val (.long p1), .second, .val (.long p2), .second, .val (.int p3), .val (.ref b66), .val (.ref b70), .val (.int nn), .val (.long p0), .second, .val (.int nn), .unset] [(.long (1 : Int64)), (.long (((p0.toUInt64 >>> (nn &&& 0x3f).toInt64.toUInt64).toInt64) &&& (1 : Int64)))]))
    refine gs (fun t => XS.lcmp X74.here hx rfl (hb hby at_108) rfl) ?_
    show Go p e below s QQ room_1.cells room_1.slots (T74.setTop (mkF m 109 #[.val (.long p0), .second, .val (.long p1), .second, .val (.long p2), .second, .val (.int p3), .val (.ref b66), .val (.ref b70), .val (.int nn), .val (.long p0), .second, .val (.int nn), .unset] [(.int (lcmpW (((p0.toUInt64 >>> (nn &&& 0x3f).toInt64.toUInt64).toInt64) &&& (1 : Int64)) (1 : Int64)))]))
    by_cases hz : (lcmpW (((p0.toUInt64 >>> (nn &&& 0x3f).toInt64.toUInt64).toInt64) &&& (1 : Int64)) (1 : Int64)) = (0 : Int32)
    · skip
      refine gs (fun t => XS.ifNo X74.here hx rfl (hb hby at_109) rfl ((if0 _ _).trans (teq hz).2)) ?_
      show Go p e below s QQ room_1.cells room_1.slots (T74.setTop (mkF m 112 #[.val (.long p0), .second, .val (.long p1), .second, .val (.long p2), .second, .val (.int p3), .val (.ref b66), .val (.ref b70), .val (.int nn), .val (.long p0), .second, .val (.int nn), .unset] []))
      refine gs (fun t => XS.iconst X74.here hx rfl (hb hby at_112)) ?_
      show Go p e below s QQ room_1.cells room_1.slots (T74.setTop (mkF m 113 #[.val (.long p0), .second, .val (.long p1), .second, .val (.long p2), .second, .val (.int p3), .val (.ref b66), .val (.ref b70), .val (.int nn), .val (.long p0), .second, .val (.int nn), .unset] [(.int (1 : Int32))]))
      refine gs (fun t => XS.goto X74.here hx rfl (pc0 := 113) (pc' := 117) rfl (hb hby at_113) (by decide) (by decide)) ?_
      show Go p e below s QQ room_1.cells room_1.slots (T74.setTop (mkF m 117 #[.val (.long p0), .second, .val (.long p1), .second, .val (.long p2), .second, .val (.int p3), .val (.ref b66), .val (.ref b70), .val (.int nn), .val (.long p0), .second, .val (.int nn), .unset] [(.int (1 : Int32))]))
      refine gs (fun t => XS.istore X74.here hx rfl (hb hby at_117) rfl (l' := #[.val (.long p0), .second, .val (.long p1), .second, .val (.long p2), .second, .val (.int p3), .val (.ref b66), .val (.ref b70), .val (.int nn), .val (.long p0), .second, .val (.int nn), .val (.int (1 : Int32))]) rfl) ?_
      show Go p e below s QQ room_1.cells room_1.slots (T74.setTop (mkF m 119 #[.val (.long p0), .second, .val (.long p1), .second, .val (.long p2), .second, .val (.int p3), .val (.ref b66), .val (.ref b70), .val (.int nn), .val (.long p0), .second, .val (.int nn), .val (.int (1 : Int32))] []))
      refine gs (fun t => XS.aload X74.here hx rfl (hb hby at_119) rfl rfl) ?_
      show Go p e below s QQ room_1.cells room_1.slots (T74.setTop (mkF m 121 #[.val (.long p0), .second, .val (.long p1), .second, .val (.long p2), .second, .val (.int p3), .val (.ref b66), .val (.ref b70), .val (.int nn), .val (.long p0), .second, .val (.int nn), .val (.int (1 : Int32))] [(.ref b70)]))
      refine gs (fun t => XS.iload X74.here hx rfl (hb hby at_121) rfl) ?_
      show Go p e below s QQ room_1.cells room_1.slots (T74.setTop (mkF m 123 #[.val (.long p0), .second, .val (.long p1), .second, .val (.long p2), .second, .val (.int p3), .val (.ref b66), .val (.ref b70), .val (.int nn), .val (.long p0), .second, .val (.int nn), .val (.int (1 : Int32))] [(.int nn), (.ref b70)]))
      obtain ⟨cq75, kq75, q75a, q75b, q75c⟩ := isOf hZ rfl Ex_b70
      obtain ⟨_, _, ⟨T75, L75, k75, n75⟩, -, X75, ⟨Lc75, hQ75, l75, y75, z75⟩, st75⟩ := X74.virtualBack hx (y := (⟨"com/example/tuplewise/tuplewise/SparseBitSet", "contains", "(I)Z"⟩ : MethodName)) (z := (⟨"com/example/tuplewise/tuplewise/SparseBitSet", "contains", "(I)Z"⟩ : MethodName)) hown (mvT hZ (hw _ (List.mem_of_getElem? (i := 71) rfl))) (mvT hZ (hw _ (List.mem_of_getElem? (i := 72) rfl))) (notFace_of_selects (args := #[]) (mvT hZ (hw _ (List.mem_of_getElem? (i := 74) rfl)))) (mvT hZ (hw _ (List.mem_of_getElem? (i := 74) rfl))) (mvT hZ (hw _ (List.mem_of_getElem? (i := 73) rfl))) (by decide) (backOf (W := 0) (rm6 l Z a0 hw [] b70 nn b66 (updv (updv (updv (fun _ => .long 0) 0 (.long p0)) 1 (.long p1)) 2 (.long p2)) p0 T74.heap n0 ZZ Fw74 V_b66 ⟨by omega, by omega⟩ (by rw [own_ix (z := (0 : Int32)) (by show _ = (0 : Int); omega)]; rfl)) hZ (hw _ (List.mem_of_getElem? (i := 75) rfl)) (hw _ (List.mem_of_getElem? (i := 3) rfl)) (by decide) (by decide)) q75a q75c (g := (mkF m 123 #[.val (.long p0), .second, .val (.long p1), .second, .val (.long p2), .second, .val (.int p3), .val (.ref b66), .val (.ref b70), .val (.int nn), .val (.long p0), .second, .val (.int nn), .val (.int (1 : Int32))] [(.int nn), (.ref b70)])) rfl (by rw [hml]; rfl) (Steps.refl _) (argsL := [(.int nn)]) (rest := []) (lenOf pd_4 rfl) rfl (by show 2 * 0 + _ ≤ _; exact Nat.le_of_eq rfl) (hb hby at_123) (fun _ _ => ⟨rfl, rfl, (by decide : 14 + 0 ≤ _), (by decide : 997 + 0 ≤ _)⟩)
      dsimp only [Pt.U, Pt.locs, Pt.cells, Pt.slots] at X75 l75 y75 z75 st75 hQ75
      subst l75 y75 z75
      obtain ⟨rfl, N75q, e75⟩ := hQ75
      replace N0 := Fr.app N0 N75q
      refine gt st75 ?_
      show Go p e below s QQ room_1.cells room_1.slots (T75.setTop (mkF m 126 #[.val (.long p0), .second, .val (.long p1), .second, .val (.long p2), .second, .val (.int p3), .val (.ref b66), .val (.ref b70), .val (.int nn), .val (.long p0), .second, .val (.int nn), .val (.int (1 : Int32))] [(.int (if (p0 &&& ((1 : Int64) <<< (nn &&& 0x3f).toInt64)) = 0 then 0 else 1))]))
      refine gs (fun t => XS.iload X75.here hx rfl (hb hby at_126) rfl) ?_
      show Go p e below s QQ room_1.cells room_1.slots (T75.setTop (mkF m 128 #[.val (.long p0), .second, .val (.long p1), .second, .val (.long p2), .second, .val (.int p3), .val (.ref b66), .val (.ref b70), .val (.int nn), .val (.long p0), .second, .val (.int nn), .val (.int (1 : Int32))] [(.int (1 : Int32)), (.int (if (p0 &&& ((1 : Int64) <<< (nn &&& 0x3f).toInt64)) = 0 then 0 else 1))]))
      refine gs (fun t => XS.icmpNo X75.here hx rfl (hb hby at_128) rfl (teq (by rw [if_neg (fun q => (own_bits p0 hn0 hn0 rfl).mp q ((lw_eq _ _).mp hz))] : (if (p0 &&& ((1 : Int64) <<< (nn &&& 0x3f).toInt64)) = 0 then 0 else 1) = (1 : Int32))).2) ?_
      show Go p e below s QQ room_1.cells room_1.slots (T75.setTop (mkF m 131 #[.val (.long p0), .second, .val (.long p1), .second, .val (.long p2), .second, .val (.int p3), .val (.ref b66), .val (.ref b70), .val (.int nn), .val (.long p0), .second, .val (.int nn), .val (.int (1 : Int32))] []))
      refine gs (fun t => XS.iconst X75.here hx rfl (hb hby at_131)) ?_
      show Go p e below s QQ room_1.cells room_1.slots (T75.setTop (mkF m 132 #[.val (.long p0), .second, .val (.long p1), .second, .val (.long p2), .second, .val (.int p3), .val (.ref b66), .val (.ref b70), .val (.int nn), .val (.long p0), .second, .val (.int nn), .val (.int (1 : Int32))] [(.int (1 : Int32))]))
      refine gs (fun t => XS.goto X75.here hx rfl (pc0 := 132) (pc' := 136) rfl (hb hby at_132) (by decide) (by decide)) ?_
      show Go p e below s QQ room_1.cells room_1.slots (T75.setTop (mkF m 136 #[.val (.long p0), .second, .val (.long p1), .second, .val (.long p2), .second, .val (.int p3), .val (.ref b66), .val (.ref b70), .val (.int nn), .val (.long p0), .second, .val (.int nn), .val (.int (1 : Int32))] [(.int (1 : Int32))]))
      exact goB X75 hx Bd.notSynchronized Bd.returns (by simp) (w := (1 : Int32)) (by first | rfl | decide) (hb hby at_136) (by rw [← hQQ, e75]; exact ⟨rfl, N0⟩) (by decide) (by decide)
    · skip
      refine gs (fun t => XS.ifYes X74.here hx rfl (pc0 := 109) (pc' := 116) rfl (hb hby at_109) rfl ((if0 _ _).trans (feq hz).2) (by decide) (by decide)) ?_
      show Go p e below s QQ room_1.cells room_1.slots (T74.setTop (mkF m 116 #[.val (.long p0), .second, .val (.long p1), .second, .val (.long p2), .second, .val (.int p3), .val (.ref b66), .val (.ref b70), .val (.int nn), .val (.long p0), .second, .val (.int nn), .unset] []))
      refine gs (fun t => XS.iconst X74.here hx rfl (hb hby at_116)) ?_
      show Go p e below s QQ room_1.cells room_1.slots (T74.setTop (mkF m 117 #[.val (.long p0), .second, .val (.long p1), .second, .val (.long p2), .second, .val (.int p3), .val (.ref b66), .val (.ref b70), .val (.int nn), .val (.long p0), .second, .val (.int nn), .unset] [(.int (0 : Int32))]))
      refine gs (fun t => XS.istore X74.here hx rfl (hb hby at_117) rfl (l' := #[.val (.long p0), .second, .val (.long p1), .second, .val (.long p2), .second, .val (.int p3), .val (.ref b66), .val (.ref b70), .val (.int nn), .val (.long p0), .second, .val (.int nn), .val (.int (0 : Int32))]) rfl) ?_
      show Go p e below s QQ room_1.cells room_1.slots (T74.setTop (mkF m 119 #[.val (.long p0), .second, .val (.long p1), .second, .val (.long p2), .second, .val (.int p3), .val (.ref b66), .val (.ref b70), .val (.int nn), .val (.long p0), .second, .val (.int nn), .val (.int (0 : Int32))] []))
      refine gs (fun t => XS.aload X74.here hx rfl (hb hby at_119) rfl rfl) ?_
      show Go p e below s QQ room_1.cells room_1.slots (T74.setTop (mkF m 121 #[.val (.long p0), .second, .val (.long p1), .second, .val (.long p2), .second, .val (.int p3), .val (.ref b66), .val (.ref b70), .val (.int nn), .val (.long p0), .second, .val (.int nn), .val (.int (0 : Int32))] [(.ref b70)]))
      refine gs (fun t => XS.iload X74.here hx rfl (hb hby at_121) rfl) ?_
      show Go p e below s QQ room_1.cells room_1.slots (T74.setTop (mkF m 123 #[.val (.long p0), .second, .val (.long p1), .second, .val (.long p2), .second, .val (.int p3), .val (.ref b66), .val (.ref b70), .val (.int nn), .val (.long p0), .second, .val (.int nn), .val (.int (0 : Int32))] [(.int nn), (.ref b70)]))
      obtain ⟨cq76, kq76, q76a, q76b, q76c⟩ := isOf hZ rfl Ex_b70
      obtain ⟨_, _, ⟨T76, L76, k76, n76⟩, -, X76, ⟨Lc76, hQ76, l76, y76, z76⟩, st76⟩ := X74.virtualBack hx (y := (⟨"com/example/tuplewise/tuplewise/SparseBitSet", "contains", "(I)Z"⟩ : MethodName)) (z := (⟨"com/example/tuplewise/tuplewise/SparseBitSet", "contains", "(I)Z"⟩ : MethodName)) hown (mvT hZ (hw _ (List.mem_of_getElem? (i := 71) rfl))) (mvT hZ (hw _ (List.mem_of_getElem? (i := 72) rfl))) (notFace_of_selects (args := #[]) (mvT hZ (hw _ (List.mem_of_getElem? (i := 74) rfl)))) (mvT hZ (hw _ (List.mem_of_getElem? (i := 74) rfl))) (mvT hZ (hw _ (List.mem_of_getElem? (i := 73) rfl))) (by decide) (backOf (W := 0) (rm6 l Z a0 hw [] b70 nn b66 (updv (updv (updv (fun _ => .long 0) 0 (.long p0)) 1 (.long p1)) 2 (.long p2)) p0 T74.heap n0 ZZ Fw74 V_b66 ⟨by omega, by omega⟩ (by rw [own_ix (z := (0 : Int32)) (by show _ = (0 : Int); omega)]; rfl)) hZ (hw _ (List.mem_of_getElem? (i := 75) rfl)) (hw _ (List.mem_of_getElem? (i := 3) rfl)) (by decide) (by decide)) q76a q76c (g := (mkF m 123 #[.val (.long p0), .second, .val (.long p1), .second, .val (.long p2), .second, .val (.int p3), .val (.ref b66), .val (.ref b70), .val (.int nn), .val (.long p0), .second, .val (.int nn), .val (.int (0 : Int32))] [(.int nn), (.ref b70)])) rfl (by rw [hml]; rfl) (Steps.refl _) (argsL := [(.int nn)]) (rest := []) (lenOf pd_4 rfl) rfl (by show 2 * 0 + _ ≤ _; exact Nat.le_of_eq rfl) (hb hby at_123) (fun _ _ => ⟨rfl, rfl, (by decide : 14 + 0 ≤ _), (by decide : 997 + 0 ≤ _)⟩)
      dsimp only [Pt.U, Pt.locs, Pt.cells, Pt.slots] at X76 l76 y76 z76 st76 hQ76
      subst l76 y76 z76
      obtain ⟨rfl, N76q, e76⟩ := hQ76
      replace N0 := Fr.app N0 N76q
      refine gt st76 ?_
      show Go p e below s QQ room_1.cells room_1.slots (T76.setTop (mkF m 126 #[.val (.long p0), .second, .val (.long p1), .second, .val (.long p2), .second, .val (.int p3), .val (.ref b66), .val (.ref b70), .val (.int nn), .val (.long p0), .second, .val (.int nn), .val (.int (0 : Int32))] [(.int (if (p0 &&& ((1 : Int64) <<< (nn &&& 0x3f).toInt64)) = 0 then 0 else 1))]))
      refine gs (fun t => XS.iload X76.here hx rfl (hb hby at_126) rfl) ?_
      show Go p e below s QQ room_1.cells room_1.slots (T76.setTop (mkF m 128 #[.val (.long p0), .second, .val (.long p1), .second, .val (.long p2), .second, .val (.int p3), .val (.ref b66), .val (.ref b70), .val (.int nn), .val (.long p0), .second, .val (.int nn), .val (.int (0 : Int32))] [(.int (0 : Int32)), (.int (if (p0 &&& ((1 : Int64) <<< (nn &&& 0x3f).toInt64)) = 0 then 0 else 1))]))
      refine gs (fun t => XS.icmpNo X76.here hx rfl (hb hby at_128) rfl (teq (by rw [if_pos ((own_bits p0 hn0 hn0 rfl).mpr (fun q => hz ((lw_eq _ _).mpr q)))] : (if (p0 &&& ((1 : Int64) <<< (nn &&& 0x3f).toInt64)) = 0 then 0 else 1) = (0 : Int32))).2) ?_
      show Go p e below s QQ room_1.cells room_1.slots (T76.setTop (mkF m 131 #[.val (.long p0), .second, .val (.long p1), .second, .val (.long p2), .second, .val (.int p3), .val (.ref b66), .val (.ref b70), .val (.int nn), .val (.long p0), .second, .val (.int nn), .val (.int (0 : Int32))] []))
      refine gs (fun t => XS.iconst X76.here hx rfl (hb hby at_131)) ?_
      show Go p e below s QQ room_1.cells room_1.slots (T76.setTop (mkF m 132 #[.val (.long p0), .second, .val (.long p1), .second, .val (.long p2), .second, .val (.int p3), .val (.ref b66), .val (.ref b70), .val (.int nn), .val (.long p0), .second, .val (.int nn), .val (.int (0 : Int32))] [(.int (1 : Int32))]))
      refine gs (fun t => XS.goto X76.here hx rfl (pc0 := 132) (pc' := 136) rfl (hb hby at_132) (by decide) (by decide)) ?_
      show Go p e below s QQ room_1.cells room_1.slots (T76.setTop (mkF m 136 #[.val (.long p0), .second, .val (.long p1), .second, .val (.long p2), .second, .val (.int p3), .val (.ref b66), .val (.ref b70), .val (.int nn), .val (.long p0), .second, .val (.int nn), .val (.int (0 : Int32))] [(.int (1 : Int32))]))
      exact goB X76 hx Bd.notSynchronized Bd.returns (by simp) (w := (1 : Int32)) (by first | rfl | decide) (hb hby at_136) (by rw [← hQQ, e76]; exact ⟨rfl, N0⟩) (by decide) (by decide)
  · skip
    refine gs (fun t => XS.icmpYes X74.here hx rfl (pc0 := 54) (pc' := 67) rfl (hb hby at_54) rfl (flt h1).2.1 (by decide) (by decide)) ?_
    show Go p e below s QQ room_1.cells room_1.slots (T74.setTop (mkF m 67 #[.val (.long p0), .second, .val (.long p1), .second, .val (.long p2), .second, .val (.int p3), .val (.ref b66), .val (.ref b70), .val (.int nn), .unset, .unset, .unset, .unset] []))
    have g1 : 64 ≤ nn.toInt := by rw [Int32.lt_iff_toInt_lt] at h1; have k : (64 : Int32).toInt = 64 := rfl; omega
    refine gs (fun t => XS.iload X74.here hx rfl (hb hby at_67) rfl) ?_
    show Go p e below s QQ room_1.cells room_1.slots (T74.setTop (mkF m 69 #[.val (.long p0), .second, .val (.long p1), .second, .val (.long p2), .second, .val (.int p3), .val (.ref b66), .val (.ref b70), .val (.int nn), .unset, .unset, .unset, .unset] [(.int nn)]))
    refine gs (fun t => XS.sipush X74.here hx rfl (hb hby at_69)) ?_
    show Go p e below s QQ room_1.cells room_1.slots (T74.setTop (mkF m 72 #[.val (.long p0), .second, .val (.long p1), .second, .val (.long p2), .second, .val (.int p3), .val (.ref b66), .val (.ref b70), .val (.int nn), .unset, .unset, .unset, .unset] [(.int (128 : Int32)), (.int nn)]))
    by_cases h2 : nn < (128 : Int32)
    · skip
      refine gs (fun t => XS.icmpNo X74.here hx rfl (hb hby at_72) rfl (tlt h2).2.1) ?_
      show Go p e below s QQ room_1.cells room_1.slots (T74.setTop (mkF m 75 #[.val (.long p0), .second, .val (.long p1), .second, .val (.long p2), .second, .val (.int p3), .val (.ref b66), .val (.ref b70), .val (.int nn), .unset, .unset, .unset, .unset] []))
      have g2 : nn.toInt < 128 := by rw [Int32.lt_iff_toInt_lt] at h2; exact h2
      have es := own_subk hn0 (by decide : 0 ≤ (64 : Int32).toInt) g1
      have ks : (64 : Int32).toInt = 64 := rfl
      refine gs (fun t => XS.lloadN X74.here hx rfl (hb hby at_75) rfl) ?_
      show Go p e below s QQ room_1.cells room_1.slots (T74.setTop (mkF m 76 #[.val (.long p0), .second, .val (.long p1), .second, .val (.long p2), .second, .val (.int p3), .val (.ref b66), .val (.ref b70), .val (.int nn), .unset, .unset, .unset, .unset] [(.long p1)]))
      refine gs (fun t => XS.lstore X74.here hx rfl (hb hby at_76) rfl (l' := #[.val (.long p0), .second, .val (.long p1), .second, .val (.long p2), .second, .val (.int p3), .val (.ref b66), .val (.ref b70), .val (.int nn), .val (.long p1), .second, .unset, .unset]) rfl) ?_
      show Go p e below s QQ room_1.cells room_1.slots (T74.setTop (mkF m 78 #[.val (.long p0), .second, .val (.long p1), .second, .val (.long p2), .second, .val (.int p3), .val (.ref b66), .val (.ref b70), .val (.int nn), .val (.long p1), .second, .unset, .unset] []))
      refine gs (fun t => XS.iload X74.here hx rfl (hb hby at_78) rfl) ?_
      show Go p e below s QQ room_1.cells room_1.slots (T74.setTop (mkF m 80 #[.val (.long p0), .second, .val (.long p1), .second, .val (.long p2), .second, .val (.int p3), .val (.ref b66), .val (.ref b70), .val (.int nn), .val (.long p1), .second, .unset, .unset] [(.int nn)]))
      refine gs (fun t => XS.bipush X74.here hx rfl (hb hby at_80)) ?_
      show Go p e below s QQ room_1.cells room_1.slots (T74.setTop (mkF m 82 #[.val (.long p0), .second, .val (.long p1), .second, .val (.long p2), .second, .val (.int p3), .val (.ref b66), .val (.ref b70), .val (.int nn), .val (.long p1), .second, .unset, .unset] [(.int (64 : Int32)), (.int nn)]))
      refine gs (fun t => XS.isub X74.here hx rfl (hb hby at_82) rfl) ?_
      show Go p e below s QQ room_1.cells room_1.slots (T74.setTop (mkF m 83 #[.val (.long p0), .second, .val (.long p1), .second, .val (.long p2), .second, .val (.int p3), .val (.ref b66), .val (.ref b70), .val (.int nn), .val (.long p1), .second, .unset, .unset] [(.int (nn - (64 : Int32)))]))
      refine gs (fun t => XS.istore X74.here hx rfl (hb hby at_83) rfl (l' := #[.val (.long p0), .second, .val (.long p1), .second, .val (.long p2), .second, .val (.int p3), .val (.ref b66), .val (.ref b70), .val (.int nn), .val (.long p1), .second, .val (.int (nn - (64 : Int32))), .unset]) rfl) ?_
      show Go p e below s QQ room_1.cells room_1.slots (T74.setTop (mkF m 85 #[.val (.long p0), .second, .val (.long p1), .second, .val (.long p2), .second, .val (.int p3), .val (.ref b66), .val (.ref b70), .val (.int nn), .val (.long p1), .second, .val (.int (nn - (64 : Int32))), .unset] []))
      refine gs (fun t => XS.goto X74.here hx rfl (pc0 := 85) (pc' := 100) rfl (hb hby at_85) (by decide) (by decide)) ?_
      show Go p e below s QQ room_1.cells room_1.slots (T74.setTop (mkF m 100 #[.val (.long p0), .second, .val (.long p1), .second, .val (.long p2), .second, .val (.int p3), .val (.ref b66), .val (.ref b70), .val (.int nn), .val (.long p1), .second, .val (.int (nn - (64 : Int32))), .unset] []))
      refine gs (fun t => XS.lload X74.here hx rfl (hb hby at_100) rfl) ?_
      show Go p e below s QQ room_1.cells room_1.slots (T74.setTop (mkF m 102 #[.val (.long p0), .second, .val (.long p1), .second, .val (.long p2), .second, .val (.int p3), .val (.ref b66), .val (.ref b70), .val (.int nn), .val (.long p1), .second, .val (.int (nn - (64 : Int32))), .unset] [(.long p1)]))
      refine gs (fun t => XS.iload X74.here hx rfl (hb hby at_102) rfl) ?_
      show Go p e below s QQ room_1.cells room_1.slots (T74.setTop (mkF m 104 #[.val (.long p0), .second, .val (.long p1), .second, .val (.long p2), .second, .val (.int p3), .val (.ref b66), .val (.ref b70), .val (.int nn), .val (.long p1), .second, .val (.int (nn - (64 : Int32))), .unset] [(.int (nn - (64 : Int32))), (.long p1)]))
      refine gs (fun t => XS.lushr X74.here hx rfl (hb hby at_104) rfl) ?_
      show Go p e below s QQ room_1.cells room_1.slots (T74.setTop (mkF m 105 #[.val (.long p0), .second, .val (.long p1), .second, .val (.long p2), .second, .val (.int p3), .val (.ref b66), .val (.ref b70), .val (.int nn), .val (.long p1), .second, .val (.int (nn - (64 : Int32))), .unset] [(.long ((p1.toUInt64 >>> ((nn - (64 : Int32)) &&& 0x3f).toInt64.toUInt64).toInt64))]))
      refine gs (fun t => XS.lconst X74.here hx rfl (hb hby at_105)) ?_
      show Go p e below s QQ room_1.cells room_1.slots (T74.setTop (mkF m 106 #[.val (.long p0), .second, .val (.long p1), .second, .val (.long p2), .second, .val (.int p3), .val (.ref b66), .val (.ref b70), .val (.int nn), .val (.long p1), .second, .val (.int (nn - (64 : Int32))), .unset] [(.long (1 : Int64)), (.long ((p1.toUInt64 >>> ((nn - (64 : Int32)) &&& 0x3f).toInt64.toUInt64).toInt64))]))
      refine gs (fun t => XS.land X74.here hx rfl (hb hby at_106) rfl) ?_
      show Go p e below s QQ room_1.cells room_1.slots (T74.setTop (mkF m 107 #[.val (.long p0), .second, .val (.long p1), .second, .val (.long p2), .second, .val (.int p3), .val (.ref b66), .val (.ref b70), .val (.int nn), .val (.long p1), .second, .val (.int (nn - (64 : Int32))), .unset] [(.long (((p1.toUInt64 >>> ((nn - (64 : Int32)) &&& 0x3f).toInt64.toUInt64).toInt64) &&& (1 : Int64)))]))
      refine gs (fun t => XS.lconst X74.here hx rfl (hb hby at_107)) ?_
      show Go p e below s QQ room_1.cells room_1.slots (T74.setTop (mkF m 108 #[.val (.long p0), .second, .val (.long p1), .second, .val (.long p2), .second, .val (.int p3), .val (.ref b66), .val (.ref b70), .val (.int nn), .val (.long p1), .second, .val (.int (nn - (64 : Int32))), .unset] [(.long (1 : Int64)), (.long (((p1.toUInt64 >>> ((nn - (64 : Int32)) &&& 0x3f).toInt64.toUInt64).toInt64) &&& (1 : Int64)))]))
      refine gs (fun t => XS.lcmp X74.here hx rfl (hb hby at_108) rfl) ?_
      show Go p e below s QQ room_1.cells room_1.slots (T74.setTop (mkF m 109 #[.val (.long p0), .second, .val (.long p1), .second, .val (.long p2), .second, .val (.int p3), .val (.ref b66), .val (.ref b70), .val (.int nn), .val (.long p1), .second, .val (.int (nn - (64 : Int32))), .unset] [(.int (lcmpW (((p1.toUInt64 >>> ((nn - (64 : Int32)) &&& 0x3f).toInt64.toUInt64).toInt64) &&& (1 : Int64)) (1 : Int64)))]))
      by_cases hz : (lcmpW (((p1.toUInt64 >>> ((nn - (64 : Int32)) &&& 0x3f).toInt64.toUInt64).toInt64) &&& (1 : Int64)) (1 : Int64)) = (0 : Int32)
      · skip
        refine gs (fun t => XS.ifNo X74.here hx rfl (hb hby at_109) rfl ((if0 _ _).trans (teq hz).2)) ?_
        show Go p e below s QQ room_1.cells room_1.slots (T74.setTop (mkF m 112 #[.val (.long p0), .second, .val (.long p1), .second, .val (.long p2), .second, .val (.int p3), .val (.ref b66), .val (.ref b70), .val (.int nn), .val (.long p1), .second, .val (.int (nn - (64 : Int32))), .unset] []))
        refine gs (fun t => XS.iconst X74.here hx rfl (hb hby at_112)) ?_
        show Go p e below s QQ room_1.cells room_1.slots (T74.setTop (mkF m 113 #[.val (.long p0), .second, .val (.long p1), .second, .val (.long p2), .second, .val (.int p3), .val (.ref b66), .val (.ref b70), .val (.int nn), .val (.long p1), .second, .val (.int (nn - (64 : Int32))), .unset] [(.int (1 : Int32))]))
        refine gs (fun t => XS.goto X74.here hx rfl (pc0 := 113) (pc' := 117) rfl (hb hby at_113) (by decide) (by decide)) ?_
        show Go p e below s QQ room_1.cells room_1.slots (T74.setTop (mkF m 117 #[.val (.long p0), .second, .val (.long p1), .second, .val (.long p2), .second, .val (.int p3), .val (.ref b66), .val (.ref b70), .val (.int nn), .val (.long p1), .second, .val (.int (nn - (64 : Int32))), .unset] [(.int (1 : Int32))]))
        refine gs (fun t => XS.istore X74.here hx rfl (hb hby at_117) rfl (l' := #[.val (.long p0), .second, .val (.long p1), .second, .val (.long p2), .second, .val (.int p3), .val (.ref b66), .val (.ref b70), .val (.int nn), .val (.long p1), .second, .val (.int (nn - (64 : Int32))), .val (.int (1 : Int32))]) rfl) ?_
        show Go p e below s QQ room_1.cells room_1.slots (T74.setTop (mkF m 119 #[.val (.long p0), .second, .val (.long p1), .second, .val (.long p2), .second, .val (.int p3), .val (.ref b66), .val (.ref b70), .val (.int nn), .val (.long p1), .second, .val (.int (nn - (64 : Int32))), .val (.int (1 : Int32))] []))
        refine gs (fun t => XS.aload X74.here hx rfl (hb hby at_119) rfl rfl) ?_
        show Go p e below s QQ room_1.cells room_1.slots (T74.setTop (mkF m 121 #[.val (.long p0), .second, .val (.long p1), .second, .val (.long p2), .second, .val (.int p3), .val (.ref b66), .val (.ref b70), .val (.int nn), .val (.long p1), .second, .val (.int (nn - (64 : Int32))), .val (.int (1 : Int32))] [(.ref b70)]))
        refine gs (fun t => XS.iload X74.here hx rfl (hb hby at_121) rfl) ?_
        show Go p e below s QQ room_1.cells room_1.slots (T74.setTop (mkF m 123 #[.val (.long p0), .second, .val (.long p1), .second, .val (.long p2), .second, .val (.int p3), .val (.ref b66), .val (.ref b70), .val (.int nn), .val (.long p1), .second, .val (.int (nn - (64 : Int32))), .val (.int (1 : Int32))] [(.int nn), (.ref b70)]))
        obtain ⟨cq77, kq77, q77a, q77b, q77c⟩ := isOf hZ rfl Ex_b70
        obtain ⟨_, _, ⟨T77, L77, k77, n77⟩, -, X77, ⟨Lc77, hQ77, l77, y77, z77⟩, st77⟩ := X74.virtualBack hx (y := (⟨"com/example/tuplewise/tuplewise/SparseBitSet", "contains", "(I)Z"⟩ : MethodName)) (z := (⟨"com/example/tuplewise/tuplewise/SparseBitSet", "contains", "(I)Z"⟩ : MethodName)) hown (mvT hZ (hw _ (List.mem_of_getElem? (i := 71) rfl))) (mvT hZ (hw _ (List.mem_of_getElem? (i := 72) rfl))) (notFace_of_selects (args := #[]) (mvT hZ (hw _ (List.mem_of_getElem? (i := 74) rfl)))) (mvT hZ (hw _ (List.mem_of_getElem? (i := 74) rfl))) (mvT hZ (hw _ (List.mem_of_getElem? (i := 73) rfl))) (by decide) (backOf (W := 0) (rm6 l Z a0 hw [] b70 nn b66 (updv (updv (updv (fun _ => .long 0) 0 (.long p0)) 1 (.long p1)) 2 (.long p2)) p1 T74.heap n0 ZZ Fw74 V_b66 ⟨by omega, by omega⟩ (by rw [own_ix (z := (1 : Int32)) (by show _ = (1 : Int); omega)]; rfl)) hZ (hw _ (List.mem_of_getElem? (i := 75) rfl)) (hw _ (List.mem_of_getElem? (i := 3) rfl)) (by decide) (by decide)) q77a q77c (g := (mkF m 123 #[.val (.long p0), .second, .val (.long p1), .second, .val (.long p2), .second, .val (.int p3), .val (.ref b66), .val (.ref b70), .val (.int nn), .val (.long p1), .second, .val (.int (nn - (64 : Int32))), .val (.int (1 : Int32))] [(.int nn), (.ref b70)])) rfl (by rw [hml]; rfl) (Steps.refl _) (argsL := [(.int nn)]) (rest := []) (lenOf pd_4 rfl) rfl (by show 2 * 0 + _ ≤ _; exact Nat.le_of_eq rfl) (hb hby at_123) (fun _ _ => ⟨rfl, rfl, (by decide : 14 + 0 ≤ _), (by decide : 997 + 0 ≤ _)⟩)
        dsimp only [Pt.U, Pt.locs, Pt.cells, Pt.slots] at X77 l77 y77 z77 st77 hQ77
        subst l77 y77 z77
        obtain ⟨rfl, N77q, e77⟩ := hQ77
        replace N0 := Fr.app N0 N77q
        refine gt st77 ?_
        show Go p e below s QQ room_1.cells room_1.slots (T77.setTop (mkF m 126 #[.val (.long p0), .second, .val (.long p1), .second, .val (.long p2), .second, .val (.int p3), .val (.ref b66), .val (.ref b70), .val (.int nn), .val (.long p1), .second, .val (.int (nn - (64 : Int32))), .val (.int (1 : Int32))] [(.int (if (p1 &&& ((1 : Int64) <<< (nn &&& 0x3f).toInt64)) = 0 then 0 else 1))]))
        refine gs (fun t => XS.iload X77.here hx rfl (hb hby at_126) rfl) ?_
        show Go p e below s QQ room_1.cells room_1.slots (T77.setTop (mkF m 128 #[.val (.long p0), .second, .val (.long p1), .second, .val (.long p2), .second, .val (.int p3), .val (.ref b66), .val (.ref b70), .val (.int nn), .val (.long p1), .second, .val (.int (nn - (64 : Int32))), .val (.int (1 : Int32))] [(.int (1 : Int32)), (.int (if (p1 &&& ((1 : Int64) <<< (nn &&& 0x3f).toInt64)) = 0 then 0 else 1))]))
        refine gs (fun t => XS.icmpNo X77.here hx rfl (hb hby at_128) rfl (teq (by rw [if_neg (fun q => (own_bits p1 hn0 (by omega) (by omega)).mp q ((lw_eq _ _).mp hz))] : (if (p1 &&& ((1 : Int64) <<< (nn &&& 0x3f).toInt64)) = 0 then 0 else 1) = (1 : Int32))).2) ?_
        show Go p e below s QQ room_1.cells room_1.slots (T77.setTop (mkF m 131 #[.val (.long p0), .second, .val (.long p1), .second, .val (.long p2), .second, .val (.int p3), .val (.ref b66), .val (.ref b70), .val (.int nn), .val (.long p1), .second, .val (.int (nn - (64 : Int32))), .val (.int (1 : Int32))] []))
        refine gs (fun t => XS.iconst X77.here hx rfl (hb hby at_131)) ?_
        show Go p e below s QQ room_1.cells room_1.slots (T77.setTop (mkF m 132 #[.val (.long p0), .second, .val (.long p1), .second, .val (.long p2), .second, .val (.int p3), .val (.ref b66), .val (.ref b70), .val (.int nn), .val (.long p1), .second, .val (.int (nn - (64 : Int32))), .val (.int (1 : Int32))] [(.int (1 : Int32))]))
        refine gs (fun t => XS.goto X77.here hx rfl (pc0 := 132) (pc' := 136) rfl (hb hby at_132) (by decide) (by decide)) ?_
        show Go p e below s QQ room_1.cells room_1.slots (T77.setTop (mkF m 136 #[.val (.long p0), .second, .val (.long p1), .second, .val (.long p2), .second, .val (.int p3), .val (.ref b66), .val (.ref b70), .val (.int nn), .val (.long p1), .second, .val (.int (nn - (64 : Int32))), .val (.int (1 : Int32))] [(.int (1 : Int32))]))
        exact goB X77 hx Bd.notSynchronized Bd.returns (by simp) (w := (1 : Int32)) (by first | rfl | decide) (hb hby at_136) (by rw [← hQQ, e77]; exact ⟨rfl, N0⟩) (by decide) (by decide)
      · skip
        refine gs (fun t => XS.ifYes X74.here hx rfl (pc0 := 109) (pc' := 116) rfl (hb hby at_109) rfl ((if0 _ _).trans (feq hz).2) (by decide) (by decide)) ?_
        show Go p e below s QQ room_1.cells room_1.slots (T74.setTop (mkF m 116 #[.val (.long p0), .second, .val (.long p1), .second, .val (.long p2), .second, .val (.int p3), .val (.ref b66), .val (.ref b70), .val (.int nn), .val (.long p1), .second, .val (.int (nn - (64 : Int32))), .unset] []))
        refine gs (fun t => XS.iconst X74.here hx rfl (hb hby at_116)) ?_
        show Go p e below s QQ room_1.cells room_1.slots (T74.setTop (mkF m 117 #[.val (.long p0), .second, .val (.long p1), .second, .val (.long p2), .second, .val (.int p3), .val (.ref b66), .val (.ref b70), .val (.int nn), .val (.long p1), .second, .val (.int (nn - (64 : Int32))), .unset] [(.int (0 : Int32))]))
        refine gs (fun t => XS.istore X74.here hx rfl (hb hby at_117) rfl (l' := #[.val (.long p0), .second, .val (.long p1), .second, .val (.long p2), .second, .val (.int p3), .val (.ref b66), .val (.ref b70), .val (.int nn), .val (.long p1), .second, .val (.int (nn - (64 : Int32))), .val (.int (0 : Int32))]) rfl) ?_
        show Go p e below s QQ room_1.cells room_1.slots (T74.setTop (mkF m 119 #[.val (.long p0), .second, .val (.long p1), .second, .val (.long p2), .second, .val (.int p3), .val (.ref b66), .val (.ref b70), .val (.int nn), .val (.long p1), .second, .val (.int (nn - (64 : Int32))), .val (.int (0 : Int32))] []))
        refine gs (fun t => XS.aload X74.here hx rfl (hb hby at_119) rfl rfl) ?_
        show Go p e below s QQ room_1.cells room_1.slots (T74.setTop (mkF m 121 #[.val (.long p0), .second, .val (.long p1), .second, .val (.long p2), .second, .val (.int p3), .val (.ref b66), .val (.ref b70), .val (.int nn), .val (.long p1), .second, .val (.int (nn - (64 : Int32))), .val (.int (0 : Int32))] [(.ref b70)]))
        refine gs (fun t => XS.iload X74.here hx rfl (hb hby at_121) rfl) ?_
        show Go p e below s QQ room_1.cells room_1.slots (T74.setTop (mkF m 123 #[.val (.long p0), .second, .val (.long p1), .second, .val (.long p2), .second, .val (.int p3), .val (.ref b66), .val (.ref b70), .val (.int nn), .val (.long p1), .second, .val (.int (nn - (64 : Int32))), .val (.int (0 : Int32))] [(.int nn), (.ref b70)]))
        obtain ⟨cq78, kq78, q78a, q78b, q78c⟩ := isOf hZ rfl Ex_b70
        obtain ⟨_, _, ⟨T78, L78, k78, n78⟩, -, X78, ⟨Lc78, hQ78, l78, y78, z78⟩, st78⟩ := X74.virtualBack hx (y := (⟨"com/example/tuplewise/tuplewise/SparseBitSet", "contains", "(I)Z"⟩ : MethodName)) (z := (⟨"com/example/tuplewise/tuplewise/SparseBitSet", "contains", "(I)Z"⟩ : MethodName)) hown (mvT hZ (hw _ (List.mem_of_getElem? (i := 71) rfl))) (mvT hZ (hw _ (List.mem_of_getElem? (i := 72) rfl))) (notFace_of_selects (args := #[]) (mvT hZ (hw _ (List.mem_of_getElem? (i := 74) rfl)))) (mvT hZ (hw _ (List.mem_of_getElem? (i := 74) rfl))) (mvT hZ (hw _ (List.mem_of_getElem? (i := 73) rfl))) (by decide) (backOf (W := 0) (rm6 l Z a0 hw [] b70 nn b66 (updv (updv (updv (fun _ => .long 0) 0 (.long p0)) 1 (.long p1)) 2 (.long p2)) p1 T74.heap n0 ZZ Fw74 V_b66 ⟨by omega, by omega⟩ (by rw [own_ix (z := (1 : Int32)) (by show _ = (1 : Int); omega)]; rfl)) hZ (hw _ (List.mem_of_getElem? (i := 75) rfl)) (hw _ (List.mem_of_getElem? (i := 3) rfl)) (by decide) (by decide)) q78a q78c (g := (mkF m 123 #[.val (.long p0), .second, .val (.long p1), .second, .val (.long p2), .second, .val (.int p3), .val (.ref b66), .val (.ref b70), .val (.int nn), .val (.long p1), .second, .val (.int (nn - (64 : Int32))), .val (.int (0 : Int32))] [(.int nn), (.ref b70)])) rfl (by rw [hml]; rfl) (Steps.refl _) (argsL := [(.int nn)]) (rest := []) (lenOf pd_4 rfl) rfl (by show 2 * 0 + _ ≤ _; exact Nat.le_of_eq rfl) (hb hby at_123) (fun _ _ => ⟨rfl, rfl, (by decide : 14 + 0 ≤ _), (by decide : 997 + 0 ≤ _)⟩)
        dsimp only [Pt.U, Pt.locs, Pt.cells, Pt.slots] at X78 l78 y78 z78 st78 hQ78
        subst l78 y78 z78
        obtain ⟨rfl, N78q, e78⟩ := hQ78
        replace N0 := Fr.app N0 N78q
        refine gt st78 ?_
        show Go p e below s QQ room_1.cells room_1.slots (T78.setTop (mkF m 126 #[.val (.long p0), .second, .val (.long p1), .second, .val (.long p2), .second, .val (.int p3), .val (.ref b66), .val (.ref b70), .val (.int nn), .val (.long p1), .second, .val (.int (nn - (64 : Int32))), .val (.int (0 : Int32))] [(.int (if (p1 &&& ((1 : Int64) <<< (nn &&& 0x3f).toInt64)) = 0 then 0 else 1))]))
        refine gs (fun t => XS.iload X78.here hx rfl (hb hby at_126) rfl) ?_
        show Go p e below s QQ room_1.cells room_1.slots (T78.setTop (mkF m 128 #[.val (.long p0), .second, .val (.long p1), .second, .val (.long p2), .second, .val (.int p3), .val (.ref b66), .val (.ref b70), .val (.int nn), .val (.long p1), .second, .val (.int (nn - (64 : Int32))), .val (.int (0 : Int32))] [(.int (0 : Int32)), (.int (if (p1 &&& ((1 : Int64) <<< (nn &&& 0x3f).toInt64)) = 0 then 0 else 1))]))
        refine gs (fun t => XS.icmpNo X78.here hx rfl (hb hby at_128) rfl (teq (by rw [if_pos ((own_bits p1 hn0 (by omega) (by omega)).mpr (fun q => hz ((lw_eq _ _).mpr q)))] : (if (p1 &&& ((1 : Int64) <<< (nn &&& 0x3f).toInt64)) = 0 then 0 else 1) = (0 : Int32))).2) ?_
        show Go p e below s QQ room_1.cells room_1.slots (T78.setTop (mkF m 131 #[.val (.long p0), .second, .val (.long p1), .second, .val (.long p2), .second, .val (.int p3), .val (.ref b66), .val (.ref b70), .val (.int nn), .val (.long p1), .second, .val (.int (nn - (64 : Int32))), .val (.int (0 : Int32))] []))
        refine gs (fun t => XS.iconst X78.here hx rfl (hb hby at_131)) ?_
        show Go p e below s QQ room_1.cells room_1.slots (T78.setTop (mkF m 132 #[.val (.long p0), .second, .val (.long p1), .second, .val (.long p2), .second, .val (.int p3), .val (.ref b66), .val (.ref b70), .val (.int nn), .val (.long p1), .second, .val (.int (nn - (64 : Int32))), .val (.int (0 : Int32))] [(.int (1 : Int32))]))
        refine gs (fun t => XS.goto X78.here hx rfl (pc0 := 132) (pc' := 136) rfl (hb hby at_132) (by decide) (by decide)) ?_
        show Go p e below s QQ room_1.cells room_1.slots (T78.setTop (mkF m 136 #[.val (.long p0), .second, .val (.long p1), .second, .val (.long p2), .second, .val (.int p3), .val (.ref b66), .val (.ref b70), .val (.int nn), .val (.long p1), .second, .val (.int (nn - (64 : Int32))), .val (.int (0 : Int32))] [(.int (1 : Int32))]))
        exact goB X78 hx Bd.notSynchronized Bd.returns (by simp) (w := (1 : Int32)) (by first | rfl | decide) (hb hby at_136) (by rw [← hQQ, e78]; exact ⟨rfl, N0⟩) (by decide) (by decide)
    · skip
      refine gs (fun t => XS.icmpYes X74.here hx rfl (pc0 := 72) (pc' := 88) rfl (hb hby at_72) rfl (flt h2).2.1 (by decide) (by decide)) ?_
      show Go p e below s QQ room_1.cells room_1.slots (T74.setTop (mkF m 88 #[.val (.long p0), .second, .val (.long p1), .second, .val (.long p2), .second, .val (.int p3), .val (.ref b66), .val (.ref b70), .val (.int nn), .unset, .unset, .unset, .unset] []))
      have g2 : 128 ≤ nn.toInt := by rw [Int32.lt_iff_toInt_lt] at h2; have k : (128 : Int32).toInt = 128 := rfl; omega
      have es := own_subk hn0 (by decide : 0 ≤ (128 : Int32).toInt) g2
      have ks : (128 : Int32).toInt = 128 := rfl
      refine gs (fun t => XS.lload X74.here hx rfl (hb hby at_88) rfl) ?_
      show Go p e below s QQ room_1.cells room_1.slots (T74.setTop (mkF m 90 #[.val (.long p0), .second, .val (.long p1), .second, .val (.long p2), .second, .val (.int p3), .val (.ref b66), .val (.ref b70), .val (.int nn), .unset, .unset, .unset, .unset] [(.long p2)]))
      refine gs (fun t => XS.lstore X74.here hx rfl (hb hby at_90) rfl (l' := #[.val (.long p0), .second, .val (.long p1), .second, .val (.long p2), .second, .val (.int p3), .val (.ref b66), .val (.ref b70), .val (.int nn), .val (.long p2), .second, .unset, .unset]) rfl) ?_
      show Go p e below s QQ room_1.cells room_1.slots (T74.setTop (mkF m 92 #[.val (.long p0), .second, .val (.long p1), .second, .val (.long p2), .second, .val (.int p3), .val (.ref b66), .val (.ref b70), .val (.int nn), .val (.long p2), .second, .unset, .unset] []))
      refine gs (fun t => XS.iload X74.here hx rfl (hb hby at_92) rfl) ?_
      show Go p e below s QQ room_1.cells room_1.slots (T74.setTop (mkF m 94 #[.val (.long p0), .second, .val (.long p1), .second, .val (.long p2), .second, .val (.int p3), .val (.ref b66), .val (.ref b70), .val (.int nn), .val (.long p2), .second, .unset, .unset] [(.int nn)]))
      refine gs (fun t => XS.sipush X74.here hx rfl (hb hby at_94)) ?_
      show Go p e below s QQ room_1.cells room_1.slots (T74.setTop (mkF m 97 #[.val (.long p0), .second, .val (.long p1), .second, .val (.long p2), .second, .val (.int p3), .val (.ref b66), .val (.ref b70), .val (.int nn), .val (.long p2), .second, .unset, .unset] [(.int (128 : Int32)), (.int nn)]))
      refine gs (fun t => XS.isub X74.here hx rfl (hb hby at_97) rfl) ?_
      show Go p e below s QQ room_1.cells room_1.slots (T74.setTop (mkF m 98 #[.val (.long p0), .second, .val (.long p1), .second, .val (.long p2), .second, .val (.int p3), .val (.ref b66), .val (.ref b70), .val (.int nn), .val (.long p2), .second, .unset, .unset] [(.int (nn - (128 : Int32)))]))
      refine gs (fun t => XS.istore X74.here hx rfl (hb hby at_98) rfl (l' := #[.val (.long p0), .second, .val (.long p1), .second, .val (.long p2), .second, .val (.int p3), .val (.ref b66), .val (.ref b70), .val (.int nn), .val (.long p2), .second, .val (.int (nn - (128 : Int32))), .unset]) rfl) ?_
      show Go p e below s QQ room_1.cells room_1.slots (T74.setTop (mkF m 100 #[.val (.long p0), .second, .val (.long p1), .second, .val (.long p2), .second, .val (.int p3), .val (.ref b66), .val (.ref b70), .val (.int nn), .val (.long p2), .second, .val (.int (nn - (128 : Int32))), .unset] []))
      refine gs (fun t => XS.lload X74.here hx rfl (hb hby at_100) rfl) ?_
      show Go p e below s QQ room_1.cells room_1.slots (T74.setTop (mkF m 102 #[.val (.long p0), .second, .val (.long p1), .second, .val (.long p2), .second, .val (.int p3), .val (.ref b66), .val (.ref b70), .val (.int nn), .val (.long p2), .second, .val (.int (nn - (128 : Int32))), .unset] [(.long p2)]))
      refine gs (fun t => XS.iload X74.here hx rfl (hb hby at_102) rfl) ?_
      show Go p e below s QQ room_1.cells room_1.slots (T74.setTop (mkF m 104 #[.val (.long p0), .second, .val (.long p1), .second, .val (.long p2), .second, .val (.int p3), .val (.ref b66), .val (.ref b70), .val (.int nn), .val (.long p2), .second, .val (.int (nn - (128 : Int32))), .unset] [(.int (nn - (128 : Int32))), (.long p2)]))
      refine gs (fun t => XS.lushr X74.here hx rfl (hb hby at_104) rfl) ?_
      show Go p e below s QQ room_1.cells room_1.slots (T74.setTop (mkF m 105 #[.val (.long p0), .second, .val (.long p1), .second, .val (.long p2), .second, .val (.int p3), .val (.ref b66), .val (.ref b70), .val (.int nn), .val (.long p2), .second, .val (.int (nn - (128 : Int32))), .unset] [(.long ((p2.toUInt64 >>> ((nn - (128 : Int32)) &&& 0x3f).toInt64.toUInt64).toInt64))]))
      refine gs (fun t => XS.lconst X74.here hx rfl (hb hby at_105)) ?_
      show Go p e below s QQ room_1.cells room_1.slots (T74.setTop (mkF m 106 #[.val (.long p0), .second, .val (.long p1), .second, .val (.long p2), .second, .val (.int p3), .val (.ref b66), .val (.ref b70), .val (.int nn), .val (.long p2), .second, .val (.int (nn - (128 : Int32))), .unset] [(.long (1 : Int64)), (.long ((p2.toUInt64 >>> ((nn - (128 : Int32)) &&& 0x3f).toInt64.toUInt64).toInt64))]))
      refine gs (fun t => XS.land X74.here hx rfl (hb hby at_106) rfl) ?_
      show Go p e below s QQ room_1.cells room_1.slots (T74.setTop (mkF m 107 #[.val (.long p0), .second, .val (.long p1), .second, .val (.long p2), .second, .val (.int p3), .val (.ref b66), .val (.ref b70), .val (.int nn), .val (.long p2), .second, .val (.int (nn - (128 : Int32))), .unset] [(.long (((p2.toUInt64 >>> ((nn - (128 : Int32)) &&& 0x3f).toInt64.toUInt64).toInt64) &&& (1 : Int64)))]))
      refine gs (fun t => XS.lconst X74.here hx rfl (hb hby at_107)) ?_
      show Go p e below s QQ room_1.cells room_1.slots (T74.setTop (mkF m 108 #[.val (.long p0), .second, .val (.long p1), .second, .val (.long p2), .second, .val (.int p3), .val (.ref b66), .val (.ref b70), .val (.int nn), .val (.long p2), .second, .val (.int (nn - (128 : Int32))), .unset] [(.long (1 : Int64)), (.long (((p2.toUInt64 >>> ((nn - (128 : Int32)) &&& 0x3f).toInt64.toUInt64).toInt64) &&& (1 : Int64)))]))
      refine gs (fun t => XS.lcmp X74.here hx rfl (hb hby at_108) rfl) ?_
      show Go p e below s QQ room_1.cells room_1.slots (T74.setTop (mkF m 109 #[.val (.long p0), .second, .val (.long p1), .second, .val (.long p2), .second, .val (.int p3), .val (.ref b66), .val (.ref b70), .val (.int nn), .val (.long p2), .second, .val (.int (nn - (128 : Int32))), .unset] [(.int (lcmpW (((p2.toUInt64 >>> ((nn - (128 : Int32)) &&& 0x3f).toInt64.toUInt64).toInt64) &&& (1 : Int64)) (1 : Int64)))]))
      by_cases hz : (lcmpW (((p2.toUInt64 >>> ((nn - (128 : Int32)) &&& 0x3f).toInt64.toUInt64).toInt64) &&& (1 : Int64)) (1 : Int64)) = (0 : Int32)
      · skip
        refine gs (fun t => XS.ifNo X74.here hx rfl (hb hby at_109) rfl ((if0 _ _).trans (teq hz).2)) ?_
        show Go p e below s QQ room_1.cells room_1.slots (T74.setTop (mkF m 112 #[.val (.long p0), .second, .val (.long p1), .second, .val (.long p2), .second, .val (.int p3), .val (.ref b66), .val (.ref b70), .val (.int nn), .val (.long p2), .second, .val (.int (nn - (128 : Int32))), .unset] []))
        refine gs (fun t => XS.iconst X74.here hx rfl (hb hby at_112)) ?_
        show Go p e below s QQ room_1.cells room_1.slots (T74.setTop (mkF m 113 #[.val (.long p0), .second, .val (.long p1), .second, .val (.long p2), .second, .val (.int p3), .val (.ref b66), .val (.ref b70), .val (.int nn), .val (.long p2), .second, .val (.int (nn - (128 : Int32))), .unset] [(.int (1 : Int32))]))
        refine gs (fun t => XS.goto X74.here hx rfl (pc0 := 113) (pc' := 117) rfl (hb hby at_113) (by decide) (by decide)) ?_
        show Go p e below s QQ room_1.cells room_1.slots (T74.setTop (mkF m 117 #[.val (.long p0), .second, .val (.long p1), .second, .val (.long p2), .second, .val (.int p3), .val (.ref b66), .val (.ref b70), .val (.int nn), .val (.long p2), .second, .val (.int (nn - (128 : Int32))), .unset] [(.int (1 : Int32))]))
        refine gs (fun t => XS.istore X74.here hx rfl (hb hby at_117) rfl (l' := #[.val (.long p0), .second, .val (.long p1), .second, .val (.long p2), .second, .val (.int p3), .val (.ref b66), .val (.ref b70), .val (.int nn), .val (.long p2), .second, .val (.int (nn - (128 : Int32))), .val (.int (1 : Int32))]) rfl) ?_
        show Go p e below s QQ room_1.cells room_1.slots (T74.setTop (mkF m 119 #[.val (.long p0), .second, .val (.long p1), .second, .val (.long p2), .second, .val (.int p3), .val (.ref b66), .val (.ref b70), .val (.int nn), .val (.long p2), .second, .val (.int (nn - (128 : Int32))), .val (.int (1 : Int32))] []))
        refine gs (fun t => XS.aload X74.here hx rfl (hb hby at_119) rfl rfl) ?_
        show Go p e below s QQ room_1.cells room_1.slots (T74.setTop (mkF m 121 #[.val (.long p0), .second, .val (.long p1), .second, .val (.long p2), .second, .val (.int p3), .val (.ref b66), .val (.ref b70), .val (.int nn), .val (.long p2), .second, .val (.int (nn - (128 : Int32))), .val (.int (1 : Int32))] [(.ref b70)]))
        refine gs (fun t => XS.iload X74.here hx rfl (hb hby at_121) rfl) ?_
        show Go p e below s QQ room_1.cells room_1.slots (T74.setTop (mkF m 123 #[.val (.long p0), .second, .val (.long p1), .second, .val (.long p2), .second, .val (.int p3), .val (.ref b66), .val (.ref b70), .val (.int nn), .val (.long p2), .second, .val (.int (nn - (128 : Int32))), .val (.int (1 : Int32))] [(.int nn), (.ref b70)]))
        obtain ⟨cq79, kq79, q79a, q79b, q79c⟩ := isOf hZ rfl Ex_b70
        obtain ⟨_, _, ⟨T79, L79, k79, n79⟩, -, X79, ⟨Lc79, hQ79, l79, y79, z79⟩, st79⟩ := X74.virtualBack hx (y := (⟨"com/example/tuplewise/tuplewise/SparseBitSet", "contains", "(I)Z"⟩ : MethodName)) (z := (⟨"com/example/tuplewise/tuplewise/SparseBitSet", "contains", "(I)Z"⟩ : MethodName)) hown (mvT hZ (hw _ (List.mem_of_getElem? (i := 71) rfl))) (mvT hZ (hw _ (List.mem_of_getElem? (i := 72) rfl))) (notFace_of_selects (args := #[]) (mvT hZ (hw _ (List.mem_of_getElem? (i := 74) rfl)))) (mvT hZ (hw _ (List.mem_of_getElem? (i := 74) rfl))) (mvT hZ (hw _ (List.mem_of_getElem? (i := 73) rfl))) (by decide) (backOf (W := 0) (rm6 l Z a0 hw [] b70 nn b66 (updv (updv (updv (fun _ => .long 0) 0 (.long p0)) 1 (.long p1)) 2 (.long p2)) p2 T74.heap n0 ZZ Fw74 V_b66 ⟨by omega, by omega⟩ (by rw [own_ix (z := (2 : Int32)) (by show _ = (2 : Int); omega)]; rfl)) hZ (hw _ (List.mem_of_getElem? (i := 75) rfl)) (hw _ (List.mem_of_getElem? (i := 3) rfl)) (by decide) (by decide)) q79a q79c (g := (mkF m 123 #[.val (.long p0), .second, .val (.long p1), .second, .val (.long p2), .second, .val (.int p3), .val (.ref b66), .val (.ref b70), .val (.int nn), .val (.long p2), .second, .val (.int (nn - (128 : Int32))), .val (.int (1 : Int32))] [(.int nn), (.ref b70)])) rfl (by rw [hml]; rfl) (Steps.refl _) (argsL := [(.int nn)]) (rest := []) (lenOf pd_4 rfl) rfl (by show 2 * 0 + _ ≤ _; exact Nat.le_of_eq rfl) (hb hby at_123) (fun _ _ => ⟨rfl, rfl, (by decide : 14 + 0 ≤ _), (by decide : 997 + 0 ≤ _)⟩)
        dsimp only [Pt.U, Pt.locs, Pt.cells, Pt.slots] at X79 l79 y79 z79 st79 hQ79
        subst l79 y79 z79
        obtain ⟨rfl, N79q, e79⟩ := hQ79
        replace N0 := Fr.app N0 N79q
        refine gt st79 ?_
        show Go p e below s QQ room_1.cells room_1.slots (T79.setTop (mkF m 126 #[.val (.long p0), .second, .val (.long p1), .second, .val (.long p2), .second, .val (.int p3), .val (.ref b66), .val (.ref b70), .val (.int nn), .val (.long p2), .second, .val (.int (nn - (128 : Int32))), .val (.int (1 : Int32))] [(.int (if (p2 &&& ((1 : Int64) <<< (nn &&& 0x3f).toInt64)) = 0 then 0 else 1))]))
        refine gs (fun t => XS.iload X79.here hx rfl (hb hby at_126) rfl) ?_
        show Go p e below s QQ room_1.cells room_1.slots (T79.setTop (mkF m 128 #[.val (.long p0), .second, .val (.long p1), .second, .val (.long p2), .second, .val (.int p3), .val (.ref b66), .val (.ref b70), .val (.int nn), .val (.long p2), .second, .val (.int (nn - (128 : Int32))), .val (.int (1 : Int32))] [(.int (1 : Int32)), (.int (if (p2 &&& ((1 : Int64) <<< (nn &&& 0x3f).toInt64)) = 0 then 0 else 1))]))
        refine gs (fun t => XS.icmpNo X79.here hx rfl (hb hby at_128) rfl (teq (by rw [if_neg (fun q => (own_bits p2 hn0 (by omega) (by omega)).mp q ((lw_eq _ _).mp hz))] : (if (p2 &&& ((1 : Int64) <<< (nn &&& 0x3f).toInt64)) = 0 then 0 else 1) = (1 : Int32))).2) ?_
        show Go p e below s QQ room_1.cells room_1.slots (T79.setTop (mkF m 131 #[.val (.long p0), .second, .val (.long p1), .second, .val (.long p2), .second, .val (.int p3), .val (.ref b66), .val (.ref b70), .val (.int nn), .val (.long p2), .second, .val (.int (nn - (128 : Int32))), .val (.int (1 : Int32))] []))
        refine gs (fun t => XS.iconst X79.here hx rfl (hb hby at_131)) ?_
        show Go p e below s QQ room_1.cells room_1.slots (T79.setTop (mkF m 132 #[.val (.long p0), .second, .val (.long p1), .second, .val (.long p2), .second, .val (.int p3), .val (.ref b66), .val (.ref b70), .val (.int nn), .val (.long p2), .second, .val (.int (nn - (128 : Int32))), .val (.int (1 : Int32))] [(.int (1 : Int32))]))
        refine gs (fun t => XS.goto X79.here hx rfl (pc0 := 132) (pc' := 136) rfl (hb hby at_132) (by decide) (by decide)) ?_
        show Go p e below s QQ room_1.cells room_1.slots (T79.setTop (mkF m 136 #[.val (.long p0), .second, .val (.long p1), .second, .val (.long p2), .second, .val (.int p3), .val (.ref b66), .val (.ref b70), .val (.int nn), .val (.long p2), .second, .val (.int (nn - (128 : Int32))), .val (.int (1 : Int32))] [(.int (1 : Int32))]))
        exact goB X79 hx Bd.notSynchronized Bd.returns (by simp) (w := (1 : Int32)) (by first | rfl | decide) (hb hby at_136) (by rw [← hQQ, e79]; exact ⟨rfl, N0⟩) (by decide) (by decide)
      · skip
        refine gs (fun t => XS.ifYes X74.here hx rfl (pc0 := 109) (pc' := 116) rfl (hb hby at_109) rfl ((if0 _ _).trans (feq hz).2) (by decide) (by decide)) ?_
        show Go p e below s QQ room_1.cells room_1.slots (T74.setTop (mkF m 116 #[.val (.long p0), .second, .val (.long p1), .second, .val (.long p2), .second, .val (.int p3), .val (.ref b66), .val (.ref b70), .val (.int nn), .val (.long p2), .second, .val (.int (nn - (128 : Int32))), .unset] []))
        refine gs (fun t => XS.iconst X74.here hx rfl (hb hby at_116)) ?_
        show Go p e below s QQ room_1.cells room_1.slots (T74.setTop (mkF m 117 #[.val (.long p0), .second, .val (.long p1), .second, .val (.long p2), .second, .val (.int p3), .val (.ref b66), .val (.ref b70), .val (.int nn), .val (.long p2), .second, .val (.int (nn - (128 : Int32))), .unset] [(.int (0 : Int32))]))
        refine gs (fun t => XS.istore X74.here hx rfl (hb hby at_117) rfl (l' := #[.val (.long p0), .second, .val (.long p1), .second, .val (.long p2), .second, .val (.int p3), .val (.ref b66), .val (.ref b70), .val (.int nn), .val (.long p2), .second, .val (.int (nn - (128 : Int32))), .val (.int (0 : Int32))]) rfl) ?_
        show Go p e below s QQ room_1.cells room_1.slots (T74.setTop (mkF m 119 #[.val (.long p0), .second, .val (.long p1), .second, .val (.long p2), .second, .val (.int p3), .val (.ref b66), .val (.ref b70), .val (.int nn), .val (.long p2), .second, .val (.int (nn - (128 : Int32))), .val (.int (0 : Int32))] []))
        refine gs (fun t => XS.aload X74.here hx rfl (hb hby at_119) rfl rfl) ?_
        show Go p e below s QQ room_1.cells room_1.slots (T74.setTop (mkF m 121 #[.val (.long p0), .second, .val (.long p1), .second, .val (.long p2), .second, .val (.int p3), .val (.ref b66), .val (.ref b70), .val (.int nn), .val (.long p2), .second, .val (.int (nn - (128 : Int32))), .val (.int (0 : Int32))] [(.ref b70)]))
        refine gs (fun t => XS.iload X74.here hx rfl (hb hby at_121) rfl) ?_
        show Go p e below s QQ room_1.cells room_1.slots (T74.setTop (mkF m 123 #[.val (.long p0), .second, .val (.long p1), .second, .val (.long p2), .second, .val (.int p3), .val (.ref b66), .val (.ref b70), .val (.int nn), .val (.long p2), .second, .val (.int (nn - (128 : Int32))), .val (.int (0 : Int32))] [(.int nn), (.ref b70)]))
        obtain ⟨cq80, kq80, q80a, q80b, q80c⟩ := isOf hZ rfl Ex_b70
        obtain ⟨_, _, ⟨T80, L80, k80, n80⟩, -, X80, ⟨Lc80, hQ80, l80, y80, z80⟩, st80⟩ := X74.virtualBack hx (y := (⟨"com/example/tuplewise/tuplewise/SparseBitSet", "contains", "(I)Z"⟩ : MethodName)) (z := (⟨"com/example/tuplewise/tuplewise/SparseBitSet", "contains", "(I)Z"⟩ : MethodName)) hown (mvT hZ (hw _ (List.mem_of_getElem? (i := 71) rfl))) (mvT hZ (hw _ (List.mem_of_getElem? (i := 72) rfl))) (notFace_of_selects (args := #[]) (mvT hZ (hw _ (List.mem_of_getElem? (i := 74) rfl)))) (mvT hZ (hw _ (List.mem_of_getElem? (i := 74) rfl))) (mvT hZ (hw _ (List.mem_of_getElem? (i := 73) rfl))) (by decide) (backOf (W := 0) (rm6 l Z a0 hw [] b70 nn b66 (updv (updv (updv (fun _ => .long 0) 0 (.long p0)) 1 (.long p1)) 2 (.long p2)) p2 T74.heap n0 ZZ Fw74 V_b66 ⟨by omega, by omega⟩ (by rw [own_ix (z := (2 : Int32)) (by show _ = (2 : Int); omega)]; rfl)) hZ (hw _ (List.mem_of_getElem? (i := 75) rfl)) (hw _ (List.mem_of_getElem? (i := 3) rfl)) (by decide) (by decide)) q80a q80c (g := (mkF m 123 #[.val (.long p0), .second, .val (.long p1), .second, .val (.long p2), .second, .val (.int p3), .val (.ref b66), .val (.ref b70), .val (.int nn), .val (.long p2), .second, .val (.int (nn - (128 : Int32))), .val (.int (0 : Int32))] [(.int nn), (.ref b70)])) rfl (by rw [hml]; rfl) (Steps.refl _) (argsL := [(.int nn)]) (rest := []) (lenOf pd_4 rfl) rfl (by show 2 * 0 + _ ≤ _; exact Nat.le_of_eq rfl) (hb hby at_123) (fun _ _ => ⟨rfl, rfl, (by decide : 14 + 0 ≤ _), (by decide : 997 + 0 ≤ _)⟩)
        dsimp only [Pt.U, Pt.locs, Pt.cells, Pt.slots] at X80 l80 y80 z80 st80 hQ80
        subst l80 y80 z80
        obtain ⟨rfl, N80q, e80⟩ := hQ80
        replace N0 := Fr.app N0 N80q
        refine gt st80 ?_
        show Go p e below s QQ room_1.cells room_1.slots (T80.setTop (mkF m 126 #[.val (.long p0), .second, .val (.long p1), .second, .val (.long p2), .second, .val (.int p3), .val (.ref b66), .val (.ref b70), .val (.int nn), .val (.long p2), .second, .val (.int (nn - (128 : Int32))), .val (.int (0 : Int32))] [(.int (if (p2 &&& ((1 : Int64) <<< (nn &&& 0x3f).toInt64)) = 0 then 0 else 1))]))
        refine gs (fun t => XS.iload X80.here hx rfl (hb hby at_126) rfl) ?_
        show Go p e below s QQ room_1.cells room_1.slots (T80.setTop (mkF m 128 #[.val (.long p0), .second, .val (.long p1), .second, .val (.long p2), .second, .val (.int p3), .val (.ref b66), .val (.ref b70), .val (.int nn), .val (.long p2), .second, .val (.int (nn - (128 : Int32))), .val (.int (0 : Int32))] [(.int (0 : Int32)), (.int (if (p2 &&& ((1 : Int64) <<< (nn &&& 0x3f).toInt64)) = 0 then 0 else 1))]))
        refine gs (fun t => XS.icmpNo X80.here hx rfl (hb hby at_128) rfl (teq (by rw [if_pos ((own_bits p2 hn0 (by omega) (by omega)).mpr (fun q => hz ((lw_eq _ _).mpr q)))] : (if (p2 &&& ((1 : Int64) <<< (nn &&& 0x3f).toInt64)) = 0 then 0 else 1) = (0 : Int32))).2) ?_
        show Go p e below s QQ room_1.cells room_1.slots (T80.setTop (mkF m 131 #[.val (.long p0), .second, .val (.long p1), .second, .val (.long p2), .second, .val (.int p3), .val (.ref b66), .val (.ref b70), .val (.int nn), .val (.long p2), .second, .val (.int (nn - (128 : Int32))), .val (.int (0 : Int32))] []))
        refine gs (fun t => XS.iconst X80.here hx rfl (hb hby at_131)) ?_
        show Go p e below s QQ room_1.cells room_1.slots (T80.setTop (mkF m 132 #[.val (.long p0), .second, .val (.long p1), .second, .val (.long p2), .second, .val (.int p3), .val (.ref b66), .val (.ref b70), .val (.int nn), .val (.long p2), .second, .val (.int (nn - (128 : Int32))), .val (.int (0 : Int32))] [(.int (1 : Int32))]))
        refine gs (fun t => XS.goto X80.here hx rfl (pc0 := 132) (pc' := 136) rfl (hb hby at_132) (by decide) (by decide)) ?_
        show Go p e below s QQ room_1.cells room_1.slots (T80.setTop (mkF m 136 #[.val (.long p0), .second, .val (.long p1), .second, .val (.long p2), .second, .val (.int p3), .val (.ref b66), .val (.ref b70), .val (.int nn), .val (.long p2), .second, .val (.int (nn - (128 : Int32))), .val (.int (0 : Int32))] [(.int (1 : Int32))]))
        exact goB X80 hx Bd.notSynchronized Bd.returns (by simp) (w := (1 : Int32)) (by first | rfl | decide) (hb hby at_136) (by rw [← hQQ, e80]; exact ⟨rfl, N0⟩) (by decide) (by decide)
set_option maxRecDepth 65536 in
set_option maxHeartbeats 40000000 in
theorem comes_1 {Post : Tables → Env → Array Value → State → Outcome → State → Prop} (hpost : ∀ tb e args s v u, (limb_1_1.after args s (.returned v) u = true ∧ limb_1_2.after args s (.returned v) u = true ∧ True) → FrameEnd s (.returned v) u (Jvm.fieldLocs frame_1_writes args s ++ Jvm.arrayLocs frame_1_arrays args s ++ Jvm.staticLocs frame_1_statics s) 40 2112 → Post tb e args s (.returned v) u) :
    ArmFor flags0 classFile x code maxLocals ret World_1 tables_1 room_1 Calls_1 rest_1 Pre_1 Post := by
  intro l hfl _ _ p e ha hc hk s m args below hf hA hF happ hP
  obtain ⟨hcalls, hrest, hpre⟩ := hP
  obtain ⟨-, -, -, hnamed, -, -, -, hat⟩ := (Spec.applies_iff hf).mp happ
  obtain ⟨hg, hn⟩ := and_e (Cond.before_iff.mp (show (Jvm.Cond.and given_1 narrow_1).before args s = true from hpre))
  obtain ⟨gc, hg0⟩ := and_e hg
  obtain ⟨w0, w1, w2, w3, rfl⟩ : ∃ w0 w1 w2 w3 : Value, args = #[w0, w1, w2, w3] := by
    have hs : args.size = 4 := by simpa [Cond.value, given_1] using gc
    obtain ⟨L⟩ := args
    match L, hs with
    | [w0, w1, w2, w3], _ => exact ⟨w0, w1, w2, w3, rfl⟩
  obtain ⟨ga0, hg1⟩ := and_e hg0
  obtain ⟨i0, ei0⟩ := isL_v ga0
  obtain rfl : w0 = (.long i0) := Option.some.inj ei0
  obtain ⟨ga1, hg2⟩ := and_e hg1
  obtain ⟨i1, ei1⟩ := isL_v ga1
  obtain rfl : w1 = (.long i1) := Option.some.inj ei1
  obtain ⟨ga2, hg3⟩ := and_e hg2
  obtain ⟨i2, ei2⟩ := isL_v ga2
  obtain rfl : w2 = (.long i2) := Option.some.inj ei2
  obtain ⟨i3, ei3⟩ := is_v hg3
  obtain rfl : w3 = (.int i3) := Option.some.inj ei3
  have hw := fun d (hd : d ∈ tables_1) => atoms_spec (ws := Jvm.Cond.code x code maxLocals ret :: tables_1) hat d (List.mem_cons_of_mem _ hd)
  have hfit : Fit s := fun {y c} hc i hi => by
    obtain ⟨ha, rfl⟩ := Array.getElem?_eq_some_iff.mp hc
    have q := List.all_eq_true.mp ((Array.all_eq_true_iff_forall_mem.mp hF) _ (Array.getElem_mem ha)) i (List.mem_range.mpr hi)
    simpa [Array.getElem?_eq_getElem hi] using q
  obtain ⟨n, o, h1, h2, h3, _, L, rfl, ⟨rfl, N⟩, hq⟩ := rm0 l s _ hw tables_1 i0 i1 i2 i3 s.heap s.heap.size (Nat.le_refl _)  p e ha hc hk s m _ below hf ((Spec.applies_iff_loose hf).mp happ).1 ⟨rfl, State.Warmed39.refl s, rfl⟩ trivial
  refine ⟨n, _, h1, h2, h3, hpost _ _ _ _ _ _ ⟨Cond.after_iff.mpr rfl, Cond.after_iff.mpr (eq_i res_at (Term.int_eval (1)) rfl), trivial⟩ ⟨hq.1, hq.2.1, (hq.2.2.sift fun y hy => Or.inr (N y hy)).mono (by decide) (by decide)⟩⟩
theorem main_1_1 : Claimed_1_1 := comes_1 fun _ _ _ _ _ _ h hF => ⟨h.1, hF⟩
theorem main_1_2 : Claimed_1_2 := comes_1 fun _ _ _ _ _ _ h hF => ⟨h.2.1, hF⟩
end Jvm.Pilot.@@N@@
namespace Jvm.Pilot.@@N@@
open Jvm Jvm.ClassFile Sem Op Lib Jvm.Free Jvm.Stand Jvm.Pilot.@@N@@.Jvm.D
/-! MADE BY PROGRAM (witnessworld.py) out of the Statement's table words and the real class files: 12 classes; the members and pool entries that the words name. The judged class is class 1, her method 1. -/
namespace start1
open Jvm.ClassFile
def u (s : String) : CpInfo := .utf8 (stringToUtf16 s)
/-- a pool by its gaps: so many unusable entries, then the entry; so many at the end -/
def gap : Nat → List CpInfo → List CpInfo
  | 0, r => r
  | n + 1, r => .unusable :: gap n r
def poolList (es : List (Nat × CpInfo)) (last : Nat) : List CpInfo := es.foldr (fun e r => gap e.1 (e.2 :: r)) (gap last [])
def pool (es : List (Nat × CpInfo)) (last : Nat) : Array CpInfo := ⟨poolList es last⟩
def fileOf (pool : Array CpInfo) (this : Nat) (attrs : Array Attribute := #[]) (ms : Array MethodInfo := #[]) (fl : Nat := 33) (sup : Nat := 0) (ifs : Array Nat := #[]) (fds : Array FieldInfo := #[]) : ClassFile where
  minorVersion := 0
  majorVersion := 65
  constantPool := pool
  accessFlags := fl
  thisClass := this
  superClass := sup
  interfaces := ifs
  fields := fds
  methods := ms
  attributes := attrs
def plain (name : String) (sup : Option ClassId) : Class where
  name := name
  kind := .ordinary
  loader := none
  accessFlags := 33
  super := sup
  interfaces := #[]
  cf := none
  fields := #[]
  methods := #[]
  instanceTypes := #[]
  staticTypes := #[]
  resolved := #[]
  callSites := []
  init := .initialized
  statics := none
  mirror := none

def pool0 : Array CpInfo := pool [(5, u "<init>"), (0, u "()V"), (1, .class_ 10), (1, u "java/lang/Object")] 113

def k0c0 : Code := { maxStack := 0, maxLocals := 1, code := object_method_1_code, exceptionTable := #[], attributes := #[] }
def k0m0 : Method := { name := "<init>", desc := "()V", sig := { parameters := [], returnType := none }, accessFlags := 1, code := some k0c0 }
/-- java/lang/Object -/
def k0 : Class := { plain "java/lang/Object" none with
  accessFlags := 33
  interfaces := #[]
  cf := some (fileOf pool0 8 #[] #[{ accessFlags := 1, nameIndex := 5, descriptorIndex := 6, attributes := #[] }] 33 0 #[] #[])
  fields := #[]
  methods := #[k0m0]
  instanceTypes := #[]
  staticTypes := #[]
  resolved := Array.replicate 124 none
  statics := none }

def pool1 : Array CpInfo := pool [(2, .class_ 4), (0, .nameAndType 5 6), (0, u "java/lang/Object"), (0, u "<init>"), (0, u "()V"), (0, .class_ 8), (0, u "com/example/tuplewise/tuplewise/SparseBitSet"), (0, .class_ 10), (0, u "com/example/tuplewise/tuplewise/Trail"), (0, .methodref 9 3), (0, .methodref 7 13), (0, .nameAndType 5 14), (0, u "([JLcom/example/tuplewise/tuplewise/Trail;)V"), (0, .integer 2147483647), (0, .methodref 7 17), (0, .nameAndType 18 19), (0, u "contains"), (0, u "(I)Z"), (0, .class_ 21), (0, u "com/example/tuplewise/tuplewise/SparseBitSetContainsPinLaw"), (2, u "law"), (0, u "(JJJI)Z")] 5

def k1m0 : Method := { name := "<init>", desc := "()V", sig := { parameters := [], returnType := none }, accessFlags := 1, code := none }
def k1c1 : Code := { maxStack := 5, maxLocals := 14, code := code, exceptionTable := #[], attributes := #[] }
def k1m1 : Method := { name := "law", desc := "(JJJI)Z", sig := { parameters := [.long, .long, .long, .int], returnType := some .boolean }, accessFlags := 9, code := some k1c1 }
/-- com/example/tuplewise/tuplewise/SparseBitSetContainsPinLaw -/
def k1 : Class := { plain "com/example/tuplewise/tuplewise/SparseBitSetContainsPinLaw" (some 0) with
  accessFlags := 49
  interfaces := #[]
  cf := some (fileOf pool1 20 #[] #[{ accessFlags := 1, nameIndex := 5, descriptorIndex := 6, attributes := #[] }, { accessFlags := 9, nameIndex := 24, descriptorIndex := 25, attributes := #[] }] 49 2 #[] #[])
  fields := #[]
  methods := #[k1m0, k1m1]
  instanceTypes := #[]
  staticTypes := #[]
  resolved := Array.replicate 31 none
  statics := none }

def pool2 : Array CpInfo := pool [(2, .class_ 4), (1, u "com/example/tuplewise/tuplewise/SparseBitSet"), (4, u "<init>"), (0, u "([JLcom/example/tuplewise/tuplewise/Trail;)V"), (0, .methodref 12 13), (0, .class_ 14), (0, .nameAndType 9 15), (0, u "java/lang/Object"), (0, u "()V"), (0, .long 18446744073709551615), (1, .fieldref 2 19), (0, .nameAndType 20 21), (0, u "savedIn"), (0, u "J"), (0, .fieldref 2 23), (0, .nameAndType 24 25), (0, u "words"), (0, u "[J"), (0, .fieldref 2 27), (0, .nameAndType 28 29), (0, u "live"), (0, u "[I"), (0, .fieldref 2 31), (0, .nameAndType 32 33), (0, u "trail"), (0, u "Lcom/example/tuplewise/tuplewise/Trail;"), (0, .methodref 35 36), (0, .class_ 37), (0, .nameAndType 38 39), (0, u "com/example/tuplewise/tuplewise/Trail"), (0, u "keepLongs"), (0, u "([J)I"), (0, .fieldref 2 41), (0, .nameAndType 42 43), (0, u "wordsKept"), (0, u "I"), (0, .methodref 35 45), (0, .nameAndType 46 47), (0, u "newSlot"), (0, u "(I)I"), (0, .fieldref 2 49), (0, .nameAndType 50 43), (0, u "liveSlot"), (5, u "walked"), (50, u "contains"), (0, u "(I)Z")] 14

def k2c0 : Code := { maxStack := 4, maxLocals := 6, code := prog_17_method_2_code, exceptionTable := #[], attributes := #[] }
def k2m0 : Method := { name := "<init>", desc := "([JLcom/example/tuplewise/tuplewise/Trail;)V", sig := { parameters := [(.array .long), (.object "com/example/tuplewise/tuplewise/Trail")], returnType := none }, accessFlags := 0, code := some k2c0 }
def k2c1 : Code := { maxStack := 5, maxLocals := 2, code := prog_17_method_8_code, exceptionTable := #[], attributes := #[] }
def k2m1 : Method := { name := "contains", desc := "(I)Z", sig := { parameters := [.int], returnType := some .boolean }, accessFlags := 0, code := some k2c1 }
/-- com/example/tuplewise/tuplewise/SparseBitSet -/
def k2 : Class := { plain "com/example/tuplewise/tuplewise/SparseBitSet" (some 0) with
  accessFlags := 32
  interfaces := #[]
  cf := some (fileOf pool2 2 #[] #[{ accessFlags := 0, nameIndex := 9, descriptorIndex := 10, attributes := #[] }, { accessFlags := 0, nameIndex := 107, descriptorIndex := 108, attributes := #[] }] 32 12 #[] #[{ accessFlags := 18, nameIndex := 32, descriptorIndex := 33, attributes := #[] }, { accessFlags := 18, nameIndex := 24, descriptorIndex := 25, attributes := #[] }, { accessFlags := 18, nameIndex := 42, descriptorIndex := 43, attributes := #[] }, { accessFlags := 18, nameIndex := 28, descriptorIndex := 29, attributes := #[] }, { accessFlags := 18, nameIndex := 50, descriptorIndex := 43, attributes := #[] }, { accessFlags := 2, nameIndex := 20, descriptorIndex := 21, attributes := #[] }, { accessFlags := 2, nameIndex := 56, descriptorIndex := 21, attributes := #[] }])
  fields := #[{ name := "trail", type := (.object "com/example/tuplewise/tuplewise/Trail"), accessFlags := 18, slot := 0, constantValue := 0 }, { name := "words", type := (.array .long), accessFlags := 18, slot := 1, constantValue := 0 }, { name := "wordsKept", type := .int, accessFlags := 18, slot := 2, constantValue := 0 }, { name := "live", type := (.array .int), accessFlags := 18, slot := 3, constantValue := 0 }, { name := "liveSlot", type := .int, accessFlags := 18, slot := 4, constantValue := 0 }, { name := "savedIn", type := .long, accessFlags := 2, slot := 5, constantValue := 0 }, { name := "walked", type := .long, accessFlags := 2, slot := 6, constantValue := 0 }]
  methods := #[k2m0, k2m1]
  instanceTypes := #[(.object "com/example/tuplewise/tuplewise/Trail"), (.array .long), .int, (.array .int), .int, .long, .long]
  staticTypes := #[]
  resolved := Array.replicate 123 none
  statics := none }

def pool3 : Array CpInfo := pool [(1, .methodref 2 3), (0, .class_ 4), (0, .nameAndType 5 6), (0, u "java/lang/Object"), (0, u "<init>"), (0, u "()V"), (0, .fieldref 8 9), (0, .class_ 10), (0, .nameAndType 11 12), (0, u "com/example/tuplewise/tuplewise/Trail"), (0, u "values"), (0, u "[I"), (0, .fieldref 8 14), (0, .nameAndType 15 16), (0, u "savedIn"), (0, u "[J"), (0, .fieldref 8 18), (0, .nameAndType 19 12), (0, u "savedSlots"), (0, .fieldref 8 21), (0, .nameAndType 22 12), (0, u "savedValues"), (0, .class_ 16), (0, .fieldref 8 25), (0, .nameAndType 26 27), (0, u "longArrays"), (0, u "[[J"), (0, .fieldref 8 29), (0, .nameAndType 30 16), (0, u "savedLongCells"), (0, .fieldref 8 32), (0, .nameAndType 33 16), (0, u "savedLongValues"), (0, .fieldref 8 35), (0, .nameAndType 36 12), (0, u "levelStarts"), (0, .fieldref 8 38), (0, .nameAndType 39 12), (0, u "levelLongStarts"), (0, .fieldref 8 41), (0, .nameAndType 42 16), (0, u "levelIds"), (0, .fieldref 8 44), (0, .nameAndType 45 46), (0, u "nextLevelId"), (0, u "J"), (0, .fieldref 8 48), (0, .nameAndType 49 50), (0, u "slotCount"), (0, u "I"), (11, u "newSlot"), (0, u "(I)I"), (0, .fieldref 8 65), (0, .nameAndType 66 50), (0, u "longArrayCount"), (6, u "depth"), (2, u "savedCount"), (2, u "savedLongCount"), (21, u "keepLongs"), (0, u "([J)I")] 11

def k3c0 : Code := { maxStack := 3, maxLocals := 1, code := prog_24_method_1_code, exceptionTable := #[], attributes := #[] }
def k3m0 : Method := { name := "<init>", desc := "()V", sig := { parameters := [], returnType := none }, accessFlags := 0, code := some k3c0 }
def k3c1 : Code := { maxStack := 4, maxLocals := 2, code := prog_24_method_2_code, exceptionTable := #[], attributes := #[] }
def k3m1 : Method := { name := "newSlot", desc := "(I)I", sig := { parameters := [.int], returnType := some .int }, accessFlags := 0, code := some k3c1 }
def k3c2 : Code := { maxStack := 4, maxLocals := 2, code := prog_24_method_4_code, exceptionTable := #[], attributes := #[] }
def k3m2 : Method := { name := "keepLongs", desc := "([J)I", sig := { parameters := [(.array .long)], returnType := some .int }, accessFlags := 0, code := some k3c2 }
/-- com/example/tuplewise/tuplewise/Trail -/
def k3 : Class := { plain "com/example/tuplewise/tuplewise/Trail" (some 0) with
  accessFlags := 32
  interfaces := #[]
  cf := some (fileOf pool3 8 #[] #[{ accessFlags := 0, nameIndex := 5, descriptorIndex := 6, attributes := #[] }, { accessFlags := 0, nameIndex := 62, descriptorIndex := 63, attributes := #[] }, { accessFlags := 0, nameIndex := 101, descriptorIndex := 102, attributes := #[] }] 32 2 #[] #[{ accessFlags := 2, nameIndex := 11, descriptorIndex := 12, attributes := #[] }, { accessFlags := 2, nameIndex := 15, descriptorIndex := 16, attributes := #[] }, { accessFlags := 2, nameIndex := 49, descriptorIndex := 50, attributes := #[] }, { accessFlags := 2, nameIndex := 19, descriptorIndex := 12, attributes := #[] }, { accessFlags := 2, nameIndex := 22, descriptorIndex := 12, attributes := #[] }, { accessFlags := 2, nameIndex := 76, descriptorIndex := 50, attributes := #[] }, { accessFlags := 2, nameIndex := 26, descriptorIndex := 27, attributes := #[] }, { accessFlags := 2, nameIndex := 66, descriptorIndex := 50, attributes := #[] }, { accessFlags := 2, nameIndex := 30, descriptorIndex := 16, attributes := #[] }, { accessFlags := 2, nameIndex := 33, descriptorIndex := 16, attributes := #[] }, { accessFlags := 2, nameIndex := 79, descriptorIndex := 50, attributes := #[] }, { accessFlags := 2, nameIndex := 36, descriptorIndex := 12, attributes := #[] }, { accessFlags := 2, nameIndex := 39, descriptorIndex := 12, attributes := #[] }, { accessFlags := 2, nameIndex := 42, descriptorIndex := 16, attributes := #[] }, { accessFlags := 2, nameIndex := 73, descriptorIndex := 50, attributes := #[] }, { accessFlags := 2, nameIndex := 45, descriptorIndex := 46, attributes := #[] }])
  fields := #[{ name := "values", type := (.array .int), accessFlags := 2, slot := 0, constantValue := 0 }, { name := "savedIn", type := (.array .long), accessFlags := 2, slot := 1, constantValue := 0 }, { name := "slotCount", type := .int, accessFlags := 2, slot := 2, constantValue := 0 }, { name := "savedSlots", type := (.array .int), accessFlags := 2, slot := 3, constantValue := 0 }, { name := "savedValues", type := (.array .int), accessFlags := 2, slot := 4, constantValue := 0 }, { name := "savedCount", type := .int, accessFlags := 2, slot := 5, constantValue := 0 }, { name := "longArrays", type := (.array (.array .long)), accessFlags := 2, slot := 6, constantValue := 0 }, { name := "longArrayCount", type := .int, accessFlags := 2, slot := 7, constantValue := 0 }, { name := "savedLongCells", type := (.array .long), accessFlags := 2, slot := 8, constantValue := 0 }, { name := "savedLongValues", type := (.array .long), accessFlags := 2, slot := 9, constantValue := 0 }, { name := "savedLongCount", type := .int, accessFlags := 2, slot := 10, constantValue := 0 }, { name := "levelStarts", type := (.array .int), accessFlags := 2, slot := 11, constantValue := 0 }, { name := "levelLongStarts", type := (.array .int), accessFlags := 2, slot := 12, constantValue := 0 }, { name := "levelIds", type := (.array .long), accessFlags := 2, slot := 13, constantValue := 0 }, { name := "depth", type := .int, accessFlags := 2, slot := 14, constantValue := 0 }, { name := "nextLevelId", type := .long, accessFlags := 2, slot := 15, constantValue := 0 }]
  methods := #[k3m0, k3m1, k3m2]
  instanceTypes := #[(.array .int), (.array .long), .int, (.array .int), (.array .int), .int, (.array (.array .long)), .int, (.array .long), (.array .long), .int, (.array .int), (.array .int), (.array .long), .int, .long]
  staticTypes := #[]
  resolved := Array.replicate 114 none
  statics := none }

def pool4 : Array CpInfo := pool [(1, u "java/lang/Cloneable"), (0, .class_ 1), (0, u "java/lang/Object"), (0, .class_ 3)] 3

/-- java/lang/Cloneable -/
def k4 : Class := { plain "java/lang/Cloneable" (some 0) with
  accessFlags := 1537
  interfaces := #[]
  cf := some (fileOf pool4 2 #[] #[] 1537 4 #[] #[])
  fields := #[]
  methods := #[]
  instanceTypes := #[]
  staticTypes := #[]
  resolved := Array.replicate 8 none
  statics := none }

def pool5 : Array CpInfo := pool [(1, u "java/io/Serializable"), (0, .class_ 1), (0, u "java/lang/Object"), (0, .class_ 3)] 3

/-- java/io/Serializable -/
def k5 : Class := { plain "java/io/Serializable" (some 0) with
  accessFlags := 1537
  interfaces := #[]
  cf := some (fileOf pool5 2 #[] #[] 1537 4 #[] #[])
  fields := #[]
  methods := #[]
  instanceTypes := #[]
  staticTypes := #[]
  resolved := Array.replicate 8 none
  statics := none }

/-- the primitive byte -/
def k6 : Class := { plain "byte" none with kind := .primitive 'B', accessFlags := 0x411 }
/-- [B -/
def k7 : Class := { plain "[B" (some 0) with kind := .array 6 .byte, interfaces := #[4, 5], accessFlags := 1041 }

/-- the primitive int -/
def k8 : Class := { plain "int" none with kind := .primitive 'I', accessFlags := 0x411 }
/-- [I -/
def k9 : Class := { plain "[I" (some 0) with kind := .array 8 .int, interfaces := #[4, 5], accessFlags := 1041 }

/-- the primitive long -/
def k10 : Class := { plain "long" none with kind := .primitive 'J', accessFlags := 0x411 }
/-- [J -/
def k11 : Class := { plain "[J" (some 0) with kind := .array 10 .long, interfaces := #[4, 5], accessFlags := 1041 }

def heap : Heap := #[]
def k12 : Class := { plain "[[J" (some 0) with kind := .array 11 (.array .long), interfaces := #[4, 5], accessFlags := 1041 }
def classes : Array Class := #[k0, k1, k2, k3, k4, k5, k6, k7, k8, k9, k10, k11, k12]
def interned : List (Array UInt16 × Addr) := []
def slotsUsed : Nat := 0
def theMethod : MethodId := ⟨1, 1⟩
def args0 : Array Value := #[.long 1, .long 0, .long 5, .int 70]
def aboutOver (below : List Frame) : State where
  vm := { classes := classes, interned := interned.toArray }
  heap := heap
  slotsUsed := slotsUsed
  threads := #[{ frames := .invoking theMethod args0 :: below }]
def below0 : List Frame := [.native { method := ⟨0, 0⟩, args := #[] }]
def about1 : State := aboutOver below0
def p0 : Program := .bare "" "" ""
def e0 : Env := launch0.env 0 0 0
theorem w_frames : about1.frames = Frame.invoking theMethod args0 :: below0 := rfl
set_option maxRecDepth 65536 in
theorem w_args : argsFit about1.vm theMethod args0 = true := by decide +kernel
set_option maxRecDepth 65536 in
theorem w_heap : heapFits about1 = true := by decide +kernel
set_option maxRecDepth 65536 in
theorem w_runnable : about1.curStatus? = some .runnable := by decide +kernel
set_option maxRecDepth 65536 in
theorem w_alone : about1.alone = true := by decide +kernel
set_option maxRecDepth 65536 in
theorem w_named : about1.methodNamed? x = some theMethod := by decide +kernel
set_option maxRecDepth 65536 in
theorem w_hears : about1.hears theMethod below0 = true := by decide +kernel
set_option maxRecDepth 65536 in
theorem w_ripe : about1.ripe theMethod args0 below0 = true := by decide +kernel
theorem w_running : about1.status = .running := rfl
set_option maxRecDepth 65536 in
theorem w_room : about1.hasRoom e0.platform room_1 = true :=
  launch0.hasRoom_least _ room_1 (by decide +kernel) (by decide +kernel) (by decide +kernel) (by decide +kernel) (by decide +kernel) (by decide +kernel)
theorem allAtoms_all (ts : List Jvm.Cond) (a : Array Jvm.Value) (st : Jvm.State) : (allAtoms ts).before a st = ts.all (fun c => c.before a st) := by
  induction ts with
  | nil => rfl
  | cons c t ih =>
    show (Jvm.Cond.and c (allAtoms t)).before a st = _
    rw [Jvm.Cond.before_and, ih, List.all_cons]
def words1 : List Jvm.Cond := Jvm.Cond.code x code maxLocals ret :: tables_1
/-- a 'code' word, met by the world's own term for the bytes: nothing is compared byte by byte -/
theorem code_word {y : MethodName} {bytes : ByteArray} {mx : Nat} {rt : Option FieldType} {a : Array Value} {s : State} {m : MethodId} {meth : Method} {c : Code} (h1 : s.methodNamed? y = some m) (h2 : s.vm.method? m = some meth) (h3 : meth.code = some c) (h4 : c.code = bytes)
    (h5 : (c.maxLocals == mx && c.exceptionTable.isEmpty && decide (c.maxStack ≤ mostOperands) && decide (meth.sig.returnType = rt) && !meth.locks && decide (parseMethodDescriptor y.desc = some meth.sig)) = true) : (Jvm.Cond.code y bytes mx rt).before a s = true := by
  simp only [Bool.and_eq_true, beq_iff_eq, Bool.not_eq_true', decide_eq_true_eq] at h5
  obtain ⟨⟨⟨⟨⟨g1, g2⟩, g3⟩, g4⟩, g5⟩, g6⟩ := h5
  simp [Cond.before, Cond.holds, Cond.value, h1, h2, h3, h4, g1, g2, g3, g4, g5, g6]
def isCode : Jvm.Cond → Bool
  | .code _ _ _ _ => true
  | _ => false
theorem all_split {L : List Jvm.Cond} {P : Jvm.Cond → Bool} (h1 : L.all (fun c => isCode c || P c) = true) (h2 : ∀ c ∈ L.filter isCode, P c = true) : L.all P = true := by
  refine List.all_eq_true.mpr fun c hc => ?_
  have h := List.all_eq_true.mp h1 c hc
  rcases Bool.eq_false_or_eq_true (isCode c) with hi | hi
  · exact h2 c (List.mem_filter.mpr ⟨hc, hi⟩)
  · simpa [hi] using h
set_option maxRecDepth 65536 in
theorem w_c0 : (Jvm.Cond.code x code maxLocals ret).before args0 about1 = true := code_word (m := ⟨1, 1⟩) (meth := k1m1) (c := k1c1) (by decide +kernel) rfl rfl rfl (by decide +kernel)
set_option maxRecDepth 65536 in
theorem w_c1 : (Jvm.Cond.code ({ cls := "com/example/tuplewise/tuplewise/Trail", name := "<init>", desc := "()V" } : Jvm.MethodName) prog_24_method_1_code (1 : Nat) (Option.none : Option Jvm.ClassFile.FieldType)).before args0 about1 = true := code_word (m := ⟨3, 0⟩) (meth := k3m0) (c := k3c0) (by decide +kernel) rfl rfl rfl (by decide +kernel)
set_option maxRecDepth 65536 in
theorem w_c2 : (Jvm.Cond.code ({ cls := "java/lang/Object", name := "<init>", desc := "()V" } : Jvm.MethodName) object_method_1_code (1 : Nat) (Option.none : Option Jvm.ClassFile.FieldType)).before args0 about1 = true := code_word (m := ⟨0, 0⟩) (meth := k0m0) (c := k0c0) (by decide +kernel) rfl rfl rfl (by decide +kernel)
set_option maxRecDepth 65536 in
theorem w_c3 : (Jvm.Cond.code ({ cls := "com/example/tuplewise/tuplewise/SparseBitSet", name := "<init>", desc := "([JLcom/example/tuplewise/tuplewise/Trail;)V" } : Jvm.MethodName) prog_17_method_2_code (6 : Nat) (Option.none : Option Jvm.ClassFile.FieldType)).before args0 about1 = true := code_word (m := ⟨2, 0⟩) (meth := k2m0) (c := k2c0) (by decide +kernel) rfl rfl rfl (by decide +kernel)
set_option maxRecDepth 65536 in
theorem w_c4 : (Jvm.Cond.code ({ cls := "com/example/tuplewise/tuplewise/Trail", name := "keepLongs", desc := "([J)I" } : Jvm.MethodName) prog_24_method_4_code (2 : Nat) (Option.some Jvm.ClassFile.FieldType.int)).before args0 about1 = true := code_word (m := ⟨3, 2⟩) (meth := k3m2) (c := k3c2) (by decide +kernel) rfl rfl rfl (by decide +kernel)
set_option maxRecDepth 65536 in
theorem w_c5 : (Jvm.Cond.code ({ cls := "com/example/tuplewise/tuplewise/Trail", name := "newSlot", desc := "(I)I" } : Jvm.MethodName) prog_24_method_2_code (2 : Nat) (Option.some Jvm.ClassFile.FieldType.int)).before args0 about1 = true := code_word (m := ⟨3, 1⟩) (meth := k3m1) (c := k3c1) (by decide +kernel) rfl rfl rfl (by decide +kernel)
set_option maxRecDepth 65536 in
theorem w_c6 : (Jvm.Cond.code ({ cls := "com/example/tuplewise/tuplewise/SparseBitSet", name := "contains", desc := "(I)Z" } : Jvm.MethodName) prog_17_method_8_code (2 : Nat) (Option.some Jvm.ClassFile.FieldType.boolean)).before args0 about1 = true := code_word (m := ⟨2, 1⟩) (meth := k2m1) (c := k2c1) (by decide +kernel) rfl rfl rfl (by decide +kernel)
def codes1 : List Jvm.Cond := [Jvm.Cond.code x code maxLocals ret, Jvm.Cond.code ({ cls := "com/example/tuplewise/tuplewise/Trail", name := "<init>", desc := "()V" } : Jvm.MethodName) prog_24_method_1_code (1 : Nat) (Option.none : Option Jvm.ClassFile.FieldType), Jvm.Cond.code ({ cls := "java/lang/Object", name := "<init>", desc := "()V" } : Jvm.MethodName) object_method_1_code (1 : Nat) (Option.none : Option Jvm.ClassFile.FieldType), Jvm.Cond.code ({ cls := "com/example/tuplewise/tuplewise/SparseBitSet", name := "<init>", desc := "([JLcom/example/tuplewise/tuplewise/Trail;)V" } : Jvm.MethodName) prog_17_method_2_code (6 : Nat) (Option.none : Option Jvm.ClassFile.FieldType), Jvm.Cond.code ({ cls := "com/example/tuplewise/tuplewise/Trail", name := "keepLongs", desc := "([J)I" } : Jvm.MethodName) prog_24_method_4_code (2 : Nat) (Option.some Jvm.ClassFile.FieldType.int), Jvm.Cond.code ({ cls := "com/example/tuplewise/tuplewise/Trail", name := "newSlot", desc := "(I)I" } : Jvm.MethodName) prog_24_method_2_code (2 : Nat) (Option.some Jvm.ClassFile.FieldType.int), Jvm.Cond.code ({ cls := "com/example/tuplewise/tuplewise/SparseBitSet", name := "contains", desc := "(I)Z" } : Jvm.MethodName) prog_17_method_8_code (2 : Nat) (Option.some Jvm.ClassFile.FieldType.boolean)]
set_option maxRecDepth 65536 in
theorem codes_eq : words1.filter isCode = codes1 := rfl
theorem w_codes : ∀ c ∈ words1.filter isCode, c.before args0 about1 = true := by
  rw [codes_eq]
  intro c hc
  simp only [codes1, List.mem_cons, List.not_mem_nil, or_false] at hc
  rcases hc with rfl | rfl | rfl | rfl | rfl | rfl | rfl
  · exact w_c0
  · exact w_c1
  · exact w_c2
  · exact w_c3
  · exact w_c4
  · exact w_c5
  · exact w_c6
set_option maxRecDepth 65536 in
theorem w_t1 : (words1.take 24).all (fun c => isCode c || c.before args0 about1) = true := by decide +kernel
set_option maxRecDepth 65536 in
theorem w_t2 : ((words1.drop 24).take 24).all (fun c => isCode c || c.before args0 about1) = true := by decide +kernel
set_option maxRecDepth 65536 in
theorem w_t3 : (((words1.drop 24).drop 24).take 24).all (fun c => isCode c || c.before args0 about1) = true := by decide +kernel
set_option maxRecDepth 65536 in
theorem w_t4 : (((words1.drop 24).drop 24).drop 24).all (fun c => isCode c || c.before args0 about1) = true := by decide +kernel
theorem w_tables : (allAtoms (Jvm.Cond.code x code maxLocals ret :: tables_1)).before args0 about1 = true := by
  rw [allAtoms_all]
  show words1.all (fun c => c.before args0 about1) = true
  refine all_split ?_ w_codes
  rw [← List.take_append_drop 24 words1, List.all_append, w_t1, ← List.take_append_drop 24 (words1.drop 24), List.all_append, w_t2, ← List.take_append_drop 24 ((words1.drop 24).drop 24), List.all_append, w_t3, w_t4]
  rfl
set_option maxRecDepth 65536 in
theorem w_case : (Jvm.Cond.and given_1 narrow_1).before args0 about1 = true := by decide +kernel
theorem w_applies : (headSpec (Jvm.Cond.code x code maxLocals ret :: tables_1) room_1).applies x e0.platform about1 = true :=
  (Spec.applies_iff w_frames).mpr ⟨w_running, w_runnable, w_alone, w_named, w_hears, w_ripe, w_room, w_tables⟩
theorem atStart : AtStart classFile x code maxLocals ret World_1 tables_1 room_1 Calls_1 rest_1 Pre_1 launch0 p0 e0 about1 theMethod args0 below0 :=
  ⟨lists_1, trivial, launch0.admits_env _ _ _, launch0.least_env, fairChoices_fair.cas, fairChoices_fair.clock, w_frames, w_args, w_heap, w_applies, trivial, trivial, w_case⟩
end start1
theorem witness_1 : WitnessClaimed_1 := ⟨start1.p0, start1.e0, start1.about1, start1.theMethod, start1.args0, start1.below0, start1.atStart⟩
end Jvm.Pilot.@@N@@
