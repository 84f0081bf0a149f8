import JvmDerived
import JvmDerived.Pilot.@@N@@Statement
import JvmDerived.Pilot.@@N@@Code
set_option linter.unusedVariables false
set_option linter.unusedSimpArgs false
namespace Jvm
abbrev jv (x : Int64) : Slot := .val (.long x)
end Jvm
namespace Jvm.RoadKit
open Sem ClassFile Op Lib Jvm.Stand Jvm.Free Jvm.LawKit
section Own
variable {p : Program} {l : Launch} {e : Env} {R : Room} {s : State} {m : MethodId} {args : Array Value} {below : List Frame} {meth : Method} {c : Code} {T : State} {locs : List Loc} {cells slots : Nat} {Z : State} {h h' : Heap} {a b : Addr} {ty : FieldType} {ws : List Addr}
/-- from the state S the run comes to an end that Q allows -/
def Go (p : Program) (e : Env) (below : List Frame) (s : State) (Q : Option Value → Heap → List Loc → Prop) (K N : Nat) (S : State) : Prop :=
  ∃ (t : State) (o : Outcome), Steps p.tables e below S t ∧ t.status = .running ∧ Ended t below o ∧ ∃ v L, o = .returned v ∧ Q v t.heap L ∧ FrameEnd s o t L K N
variable {Q : Option Value → Heap → List Loc → Prop} {K N : Nat} {S S' : State}
theorem gs (h : ∀ t, Steps p.tables e below S' t → Steps p.tables e below S t) (k : Go p e below s Q K N S') : Go p e below s Q K N S := by
  obtain ⟨t, o, a, b⟩ := k
  exact ⟨t, o, h t a, b⟩
theorem gt (h : Steps p.tables e below S S') (k : Go p e below s Q K N S') : Go p e below s Q K N S := gs (fun _ => h.trans) k
theorem goEnd (X : Stand p l e R s m args below meth c T locs cells slots) {v : Option Value} (hlocks : meth.locks = false) (hv : meth.sig.returnType = none → v = none)
    (hs : ∀ fs, (∀ (f : JFrame) (acts : List Action), f.method = m → f.locked = none → f.entered = [] → (doReturn e (T.setTop f) acts v).1 = T.setFrames fs) → Steps p.tables e below S (T.setFrames fs))
    (hQ : Q v T.heap locs) (hk : cells ≤ K) (hn : slots ≤ N) : Go p e below s Q K N S := by
  obtain ⟨fs, hr, hrun, hended, hW, hsame⟩ := X.leave (v := v) hv hlocks
  exact ⟨_, _, hs fs hr, hrun, hended, v, locs, rfl, hQ, ⟨_, rfl⟩, hW, hsame.mono hk hn⟩
theorem goV (X : Stand p l e R s m args below meth c T locs cells slots) (hx : p.tables.exec = Jvm.exec) (hlocks : meth.locks = false) (hret : meth.sig.returnType = none) {pc : Nat} {Ls : Array Slot} (hd : decode c.code pc = .ok (.return_, 1)) (hQ : Q none T.heap locs) (hk : cells ≤ K) (hn : slots ≤ N) :
    Go p e below s Q K N (T.setTop (mkF m pc Ls [])) := goEnd X hlocks (fun _ => rfl) (fun _ hr => X.returnOut hx hret hd hr) hQ hk hn
theorem goW (X : Stand p l e R s m args below meth c T locs cells slots) (hx : p.tables.exec = Jvm.exec) (hlocks : meth.locks = false) {t : FieldType} (hret : meth.sig.returnType = some t) {pc : Nat} {Ls : Array Slot} {w : Value} {i : Instr} {rest : List Value} (hn0 : narrow t w = w)
    (hi : (i = .ireturn ∧ (t = .int ∨ t = .boolean ∨ t = .byte ∨ t = .char ∨ t = .short) ∧ ∃ z, w = .int z) ∨ (i = .lreturn ∧ t = .long ∧ ∃ z, w = .long z) ∨ (i = .dreturn ∧ t = .double ∧ ∃ z, w = .double z) ∨ (i = .freturn ∧ t = .float ∧ ∃ z, w = .float z) ∨ (i = .areturn ∧ t.isReference = true ∧ w.isRef = true))
    (hd : decode c.code pc = .ok (i, 1)) (hQ : Q (some w) T.heap locs) (hk : cells ≤ K) (hn : slots ≤ N) : Go p e below s Q K N (T.setTop (mkF m pc Ls (w :: rest))) :=
  goEnd X hlocks (fun q => by rw [hret] at q; cases q) (fun _ hr => retOut X hx hret hn0 hi hd hr) hQ hk hn
theorem goI (X : Stand p l e R s m args below meth c T locs cells slots) (hx : p.tables.exec = Jvm.exec) (hlocks : meth.locks = false) (hret : meth.sig.returnType = some .int) {pc : Nat} {Ls : Array Slot} {w : Int32} {rest : List Value} (hd : decode c.code pc = .ok (.ireturn, 1)) (hQ : Q (some (.int w)) T.heap locs) (hk : cells ≤ K) (hn : slots ≤ N) :
    Go p e below s Q K N (T.setTop (mkF m pc Ls (.int w :: rest))) := goW X hx hlocks hret rfl (Or.inl ⟨rfl, Or.inl rfl, w, rfl⟩) hd hQ hk hn
theorem goJ (X : Stand p l e R s m args below meth c T locs cells slots) (hx : p.tables.exec = Jvm.exec) (hlocks : meth.locks = false) (hret : meth.sig.returnType = some .long) {pc : Nat} {Ls : Array Slot} {w : Int64} {rest : List Value} (hd : decode c.code pc = .ok (.lreturn, 1)) (hQ : Q (some (.long w)) T.heap locs) (hk : cells ≤ K) (hn : slots ≤ N) :
    Go p e below s Q K N (T.setTop (mkF m pc Ls (.long w :: rest))) := goW X hx hlocks hret rfl (Or.inr (Or.inl ⟨rfl, rfl, w, rfl⟩)) hd hQ hk hn
theorem goR (X : Stand p l e R s m args below meth c T locs cells slots) (hx : p.tables.exec = Jvm.exec) (hlocks : meth.locks = false) {t : FieldType} (hret : meth.sig.returnType = some t) (ht : t.isReference = true) {pc : Nat} {Ls : Array Slot} {w : Value} (hw : w.isRef = true) {rest : List Value} (hd : decode c.code pc = .ok (.areturn, 1)) (hQ : Q (some w) T.heap locs) (hk : cells ≤ K) (hn : slots ≤ N) :
    Go p e below s Q K N (T.setTop (mkF m pc Ls (w :: rest))) :=
  goW X hx hlocks hret (by cases t <;> simp [FieldType.isReference] at ht <;> rfl) (Or.inr (Or.inr (Or.inr (Or.inr ⟨rfl, ht, hw⟩)))) hd hQ hk hn
theorem goB (X : Stand p l e R s m args below meth c T locs cells slots) (hx : p.tables.exec = Jvm.exec) (hlocks : meth.locks = false) {t : FieldType} (hret : meth.sig.returnType = some t) (ht : t = .boolean ∨ t = .byte ∨ t = .char ∨ t = .short) {pc : Nat} {Ls : Array Slot} {z w : Int32} {rest : List Value} (hz : nar t z = w) (hd : decode c.code pc = .ok (.ireturn, 1)) (hQ : Q (some (.int w)) T.heap locs) (hk : cells ≤ K) (hn : slots ≤ N) :
    Go p e below s Q K N (T.setTop (mkF m pc Ls (.int z :: rest))) := by
  subst hz
  exact goEnd X hlocks (fun q => by rw [hret] at q; cases q) (fun _ hr => retN X hx hret ht hd hr) hQ hk hn
/-- an array of n places; the place i holds f i -/
def Arf (Z : State) (h : Heap) (a : Addr) (ty : FieldType) (n : Nat) (f : Nat → Value) : Prop := ∃ c : Cell, Arr Z h a c ty ∧ c.slots.size = n ∧ n < 2 ^ 31 ∧ ∀ i, i < n → c.slots[i]? = some (f i)
def updv (f : Nat → Value) (j : Nat) (v : Value) : Nat → Value := fun i => if i = j then v else f i
variable {n : Nat} {f g : Nat → Value} {sl : Nat} {v : Value}
theorem Arf.lt (F : Arf Z h a ty n f) : a < h.size := by obtain ⟨c, A, -⟩ := F; exact A.lt
theorem Arf.ext (F : Arf Z h a ty n f) (E : Ext h h') : Arf Z h' a ty n f := by obtain ⟨c, A, r⟩ := F; exact ⟨c, A.ext E, r⟩
theorem Arf.other (F : Arf Z h b ty n f) (W : Wr h h' a sl v) (q : b ≠ a) : Arf Z h' b ty n f := by obtain ⟨c, A, r⟩ := F; exact ⟨c, A.other W q, r⟩
theorem Arf.keep (F : Arf Z h a ty n f) (K : Keep h h' ws) (q : a ∉ ws) : Arf Z h' a ty n f := by obtain ⟨c, A, r⟩ := F; exact ⟨c, ⟨K.2.1 a c A.1 q, A.2⟩, r⟩
theorem Arf.congr (F : Arf Z h a ty n f) (q : ∀ i, i < n → f i = g i) : Arf Z h a ty n g := by
  obtain ⟨c, A, r1, r2, r3⟩ := F
  exact ⟨c, A, r1, r2, fun i hi => by rw [← q i hi]; exact r3 i hi⟩
theorem clampLt (z : Int32) : z.toNatClampNeg < 2 ^ 31 := by
  have h1 := z.toInt_lt
  have h2 : z.toNatClampNeg = z.toInt.toNat := rfl
  omega
theorem clampOf {j : Int32} (h0 : 0 ≤ j.toInt) : (j.toNatClampNeg : Int) = j.toInt := by
  have h2 : j.toNatClampNeg = j.toInt.toNat := rfl
  omega
theorem Arf.new {k : ClassId} {z : Int32} (A : Arr Z h a (newA k ty z) ty) : Arf Z h a ty z.toNatClampNeg (fun _ => defaultValue ty) := by
  refine ⟨_, A, sz_new _ _ _, clampLt z, fun i hi => ?_⟩
  simp [newA, hi]
theorem Arf.set (F : Arf Z h a ty n f) {j : Nat} (W : Wr h h' a j v) (hj : j < n) : Arf Z h' a ty n (updv f j v) := by
  obtain ⟨c, A, r1, r2, r3⟩ := F
  refine ⟨_, A.same W, by rw [sz_set]; exact r1, r2, fun i hi => ?_⟩
  by_cases q : i = j
  · subst q
    simp [Cell.setSlot, updv, r1, hi]
  · have q' : ¬ j = i := fun x => q x.symm
    simp [Cell.setSlot, updv, q, Array.getElem?_setIfInBounds_ne q', r3 i hi]
theorem inI {cl : Cell} (S : cl.slots.size = n) {j : Int32} (hj : 0 ≤ j.toInt ∧ j.toInt < n) : ¬ (j < 0 ∨ cl.slots.size ≤ j.toNatClampNeg) := by
  have q := clampOf hj.1
  rintro (h1 | h1)
  · rw [Int32.lt_iff_toInt_lt] at h1
    have : (0 : Int32).toInt = 0 := rfl
    omega
  · omega
theorem stIf (X : Stand p l e R s m args below meth c T locs cells slots) (hx : p.tables.exec = Jvm.exec) (hZ : Z.Warmed39 s.vm) (eT : T.heap = h) (F : Arf Z h a .int n f) {j x : Int32} (hj : 0 ≤ j.toInt ∧ j.toInt < n) {g : JFrame} (hg : g.method = m) {rest : List Value} (hs : g.stack = .int x :: .int j :: .ref a :: rest) (hd : decode c.code g.pc = .ok (.iastore, 1)) :
    ∃ T' h', Stand p l e R s m args below meth c T' (locs ++ [⟨a, j.toNatClampNeg⟩]) cells slots ∧ T'.heap = h' ∧ Wr h h' a j.toNatClampNeg (.int x) ∧ Arf Z h' a .int n (updv f j.toNatClampNeg (.int x)) ∧ ∀ target, Steps p.tables e below (T'.setTop { g with pc := g.pc + 1, stack := rest }) target → Steps p.tables e below (T.setTop g) target := by
  obtain ⟨cl, A, r1, r2, r3⟩ := id F
  obtain ⟨T', h', X', e', W, st⟩ := stI X hx hZ eT A (j := j) (x := x) (inI r1 hj) hg hs hd
  have q := clampOf hj.1
  exact ⟨T', h', X', e', W, F.set W (by omega), st⟩
theorem stJf (X : Stand p l e R s m args below meth c T locs cells slots) (hx : p.tables.exec = Jvm.exec) (hZ : Z.Warmed39 s.vm) (eT : T.heap = h) (F : Arf Z h a .long n f) {j : Int32} {x : Int64} (hj : 0 ≤ j.toInt ∧ j.toInt < n) {g : JFrame} (hg : g.method = m) {rest : List Value} (hs : g.stack = .long x :: .int j :: .ref a :: rest) (hd : decode c.code g.pc = .ok (.lastore, 1)) :
    ∃ T' h', Stand p l e R s m args below meth c T' (locs ++ [⟨a, j.toNatClampNeg⟩]) cells slots ∧ T'.heap = h' ∧ Wr h h' a j.toNatClampNeg (.long x) ∧ Arf Z h' a .long n (updv f j.toNatClampNeg (.long x)) ∧ ∀ target, Steps p.tables e below (T'.setTop { g with pc := g.pc + 1, stack := rest }) target → Steps p.tables e below (T.setTop g) target := by
  obtain ⟨cl, A, r1, r2, r3⟩ := id F
  obtain ⟨T', h', X', e', W, st⟩ := stJ X hx hZ eT A (j := j) (x := x) (inI r1 hj) hg hs hd
  have q := clampOf hj.1
  exact ⟨T', h', X', e', W, F.set W (by omega), st⟩
theorem stBf (X : Stand p l e R s m args below meth c T locs cells slots) (hx : p.tables.exec = Jvm.exec) (hZ : Z.Warmed39 s.vm) (eT : T.heap = h) (F : Arf Z h a .byte n f) {j x : Int32} (hj : 0 ≤ j.toInt ∧ j.toInt < n) {g : JFrame} (hg : g.method = m) {rest : List Value} (hs : g.stack = .int x :: .int j :: .ref a :: rest) (hd : decode c.code g.pc = .ok (.bastore, 1)) :
    ∃ T' h', Stand p l e R s m args below meth c T' (locs ++ [⟨a, j.toNatClampNeg⟩]) cells slots ∧ T'.heap = h' ∧ Wr h h' a j.toNatClampNeg (.int (nar .byte x)) ∧ Arf Z h' a .byte n (updv f j.toNatClampNeg (.int (nar .byte x))) ∧ ∀ target, Steps p.tables e below (T'.setTop { g with pc := g.pc + 1, stack := rest }) target → Steps p.tables e below (T.setTop g) target := by
  obtain ⟨cl, A, r1, r2, r3⟩ := id F
  obtain ⟨T', h', X', e', W, st⟩ := stB X hx hZ eT A (j := j) (x := x) (inI r1 hj) hg hs hd
  have q := clampOf hj.1
  exact ⟨T', h', X', e', W, F.set W (by omega), st⟩
theorem stZf (X : Stand p l e R s m args below meth c T locs cells slots) (hx : p.tables.exec = Jvm.exec) (hZ : Z.Warmed39 s.vm) (eT : T.heap = h) (F : Arf Z h a .boolean n f) {j x : Int32} (hj : 0 ≤ j.toInt ∧ j.toInt < n) {g : JFrame} (hg : g.method = m) {rest : List Value} (hs : g.stack = .int x :: .int j :: .ref a :: rest) (hd : decode c.code g.pc = .ok (.bastore, 1)) :
    ∃ T' h', Stand p l e R s m args below meth c T' (locs ++ [⟨a, j.toNatClampNeg⟩]) cells slots ∧ T'.heap = h' ∧ Wr h h' a j.toNatClampNeg (.int (nar .boolean x)) ∧ Arf Z h' a .boolean n (updv f j.toNatClampNeg (.int (nar .boolean x))) ∧ ∀ target, Steps p.tables e below (T'.setTop { g with pc := g.pc + 1, stack := rest }) target → Steps p.tables e below (T.setTop g) target := by
  obtain ⟨cl, A, r1, r2, r3⟩ := id F
  obtain ⟨T', h', X', e', W, st⟩ := stZ X hx hZ eT A (j := j) (x := x) (inI r1 hj) hg hs hd
  have q := clampOf hj.1
  exact ⟨T', h', X', e', W, F.set W (by omega), st⟩
theorem stCf (X : Stand p l e R s m args below meth c T locs cells slots) (hx : p.tables.exec = Jvm.exec) (hZ : Z.Warmed39 s.vm) (eT : T.heap = h) (F : Arf Z h a .char n f) {j x : Int32} (hj : 0 ≤ j.toInt ∧ j.toInt < n) {g : JFrame} (hg : g.method = m) {rest : List Value} (hs : g.stack = .int x :: .int j :: .ref a :: rest) (hd : decode c.code g.pc = .ok (.castore, 1)) :
    ∃ T' h', Stand p l e R s m args below meth c T' (locs ++ [⟨a, j.toNatClampNeg⟩]) cells slots ∧ T'.heap = h' ∧ Wr h h' a j.toNatClampNeg (.int (nar .char x)) ∧ Arf Z h' a .char n (updv f j.toNatClampNeg (.int (nar .char x))) ∧ ∀ target, Steps p.tables e below (T'.setTop { g with pc := g.pc + 1, stack := rest }) target → Steps p.tables e below (T.setTop g) target := by
  obtain ⟨cl, A, r1, r2, r3⟩ := id F
  obtain ⟨T', h', X', e', W, st⟩ := stC X hx hZ eT A (j := j) (x := x) (inI r1 hj) hg hs hd
  have q := clampOf hj.1
  exact ⟨T', h', X', e', W, F.set W (by omega), st⟩
theorem stRf (X : Stand p l e R s m args below meth c T locs cells slots) (hx : p.tables.exec = Jvm.exec) (hZ : Z.Warmed39 s.vm) (eT : T.heap = h) (F : Arf Z h a ty n f) (hty : ty.isReference = true) {j : Int32} {v : Value} (hv : Sto Z h a v) (hj : 0 ≤ j.toInt ∧ j.toInt < n) {g : JFrame} (hg : g.method = m) {rest : List Value} (hs : g.stack = v :: .int j :: .ref a :: rest) (hd : decode c.code g.pc = .ok (.aastore, 1)) :
    ∃ T' h', Stand p l e R s m args below meth c T' (locs ++ [⟨a, j.toNatClampNeg⟩]) cells slots ∧ T'.heap = h' ∧ Wr h h' a j.toNatClampNeg v ∧ Arf Z h' a ty n (updv f j.toNatClampNeg v) ∧ ∀ target, Steps p.tables e below (T'.setTop { g with pc := g.pc + 1, stack := rest }) target → Steps p.tables e below (T.setTop g) target := by
  obtain ⟨cl, A, r1, r2, r3⟩ := id F
  obtain ⟨T', h', X', e', W, st⟩ := stR X hx hZ eT A (j := j) (v := v) (inI r1 hj) hty hv hg hs hd
  have q := clampOf hj.1
  exact ⟨T', h', X', e', W, F.set W (by omega), st⟩
theorem ldIf (X : Stand p l e R s m args below meth c T locs cells slots) (hx : p.tables.exec = Jvm.exec) (hZ : Z.Warmed39 s.vm) (eT : T.heap = h) (F : Arf Z h a .int n f) {j : Int32} {v : Value} (hj : 0 ≤ j.toInt ∧ j.toInt < n) (hv : f j.toNatClampNeg = v) {g : JFrame} (hg : g.method = m) {rest : List Value} (hs : g.stack = .int j :: .ref a :: rest) (hd : decode c.code g.pc = .ok (.iaload, 1)) :
    ∀ target, Steps p.tables e below (T.setTop { g with pc := g.pc + 1, stack := v :: rest }) target → Steps p.tables e below (T.setTop g) target := by
  obtain ⟨cl, A, r1, r2, r3⟩ := F
  have q := clampOf hj.1
  exact fun t => X.iaload hx (by rw [eT]; exact A.1) (State.isArrayOf_alike hZ.alike A.2.1) A.2.2 (inI r1 hj) (by rw [← hv]; exact r3 _ (by omega)) hg hs hd t
theorem ldJf (X : Stand p l e R s m args below meth c T locs cells slots) (hx : p.tables.exec = Jvm.exec) (hZ : Z.Warmed39 s.vm) (eT : T.heap = h) (F : Arf Z h a .long n f) {j : Int32} {v : Value} (hj : 0 ≤ j.toInt ∧ j.toInt < n) (hv : f j.toNatClampNeg = v) {g : JFrame} (hg : g.method = m) {rest : List Value} (hs : g.stack = .int j :: .ref a :: rest) (hd : decode c.code g.pc = .ok (.laload, 1)) :
    ∀ target, Steps p.tables e below (T.setTop { g with pc := g.pc + 1, stack := v :: rest }) target → Steps p.tables e below (T.setTop g) target := by
  obtain ⟨cl, A, r1, r2, r3⟩ := F
  have q := clampOf hj.1
  exact fun t => X.laload hx (by rw [eT]; exact A.1) (State.isArrayOf_alike hZ.alike A.2.1) A.2.2 (inI r1 hj) (by rw [← hv]; exact r3 _ (by omega)) hg hs hd t
theorem ldCf (X : Stand p l e R s m args below meth c T locs cells slots) (hx : p.tables.exec = Jvm.exec) (hZ : Z.Warmed39 s.vm) (eT : T.heap = h) (F : Arf Z h a .char n f) {j : Int32} {v : Value} (hj : 0 ≤ j.toInt ∧ j.toInt < n) (hv : f j.toNatClampNeg = v) {g : JFrame} (hg : g.method = m) {rest : List Value} (hs : g.stack = .int j :: .ref a :: rest) (hd : decode c.code g.pc = .ok (.caload, 1)) :
    ∀ target, Steps p.tables e below (T.setTop { g with pc := g.pc + 1, stack := v :: rest }) target → Steps p.tables e below (T.setTop g) target := by
  obtain ⟨cl, A, r1, r2, r3⟩ := F
  have q := clampOf hj.1
  exact fun t => X.caload hx (by rw [eT]; exact A.1) (State.isArrayOf_alike hZ.alike A.2.1) A.2.2 (inI r1 hj) (by rw [← hv]; exact r3 _ (by omega)) hg hs hd t
theorem ldBf (X : Stand p l e R s m args below meth c T locs cells slots) (hx : p.tables.exec = Jvm.exec) (hZ : Z.Warmed39 s.vm) (eT : T.heap = h) (F : Arf Z h a .byte n f) {j : Int32} {v : Value} (hj : 0 ≤ j.toInt ∧ j.toInt < n) (hv : f j.toNatClampNeg = v) {g : JFrame} (hg : g.method = m) {rest : List Value} (hs : g.stack = .int j :: .ref a :: rest) (hd : decode c.code g.pc = .ok (.baload, 1)) :
    ∀ target, Steps p.tables e below (T.setTop { g with pc := g.pc + 1, stack := v :: rest }) target → Steps p.tables e below (T.setTop g) target := by
  obtain ⟨cl, A, r1, r2, r3⟩ := F
  have q := clampOf hj.1
  exact fun t => X.baloadBytes hx (by rw [eT]; exact A.1) (State.isArrayOf_alike hZ.alike A.2.1) A.2.2 (inI r1 hj) (by rw [← hv]; exact r3 _ (by omega)) hg hs hd t
theorem ldZf (X : Stand p l e R s m args below meth c T locs cells slots) (hx : p.tables.exec = Jvm.exec) (hZ : Z.Warmed39 s.vm) (eT : T.heap = h) (F : Arf Z h a .boolean n f) {j : Int32} {v : Value} (hj : 0 ≤ j.toInt ∧ j.toInt < n) (hv : f j.toNatClampNeg = v) {g : JFrame} (hg : g.method = m) {rest : List Value} (hs : g.stack = .int j :: .ref a :: rest) (hd : decode c.code g.pc = .ok (.baload, 1)) :
    ∀ target, Steps p.tables e below (T.setTop { g with pc := g.pc + 1, stack := v :: rest }) target → Steps p.tables e below (T.setTop g) target := by
  obtain ⟨cl, A, r1, r2, r3⟩ := F
  have q := clampOf hj.1
  exact fun t => X.baloadBooleans hx (by rw [eT]; exact A.1) (State.isArrayOf_alike hZ.alike A.2.1) A.2.2 (inI r1 hj) (by rw [← hv]; exact r3 _ (by omega)) hg hs hd t
theorem ldRf (X : Stand p l e R s m args below meth c T locs cells slots) (hx : p.tables.exec = Jvm.exec) (hZ : Z.Warmed39 s.vm) (eT : T.heap = h) (F : Arf Z h a ty n f) (hty : ty.isReference = true) {j : Int32} {v : Value} (hj : 0 ≤ j.toInt ∧ j.toInt < n) (hv : f j.toNatClampNeg = v) {g : JFrame} (hg : g.method = m) {rest : List Value} (hs : g.stack = .int j :: .ref a :: rest) (hd : decode c.code g.pc = .ok (.aaload, 1)) :
    ∀ target, Steps p.tables e below (T.setTop { g with pc := g.pc + 1, stack := v :: rest }) target → Steps p.tables e below (T.setTop g) target := by
  obtain ⟨cl, A, r1, r2, r3⟩ := F
  have q := clampOf hj.1
  exact fun t => X.aaload hx (by rw [eT]; exact A.1) (State.isArrayOf_alike hZ.alike A.2.1) hty A.2.2 (inI r1 hj) (by rw [← hv]; exact r3 _ (by omega)) hg hs hd t
theorem stDf (X : Stand p l e R s m args below meth c T locs cells slots) (hx : p.tables.exec = Jvm.exec) (hZ : Z.Warmed39 s.vm) (eT : T.heap = h) (F : Arf Z h a .double n f) {j : Int32} {x : UInt64} (hj : 0 ≤ j.toInt ∧ j.toInt < n) {g : JFrame} (hg : g.method = m) {rest : List Value} (hs : g.stack = .double x :: .int j :: .ref a :: rest) (hd : decode c.code g.pc = .ok (.dastore, 1)) :
    ∃ T' h', Stand p l e R s m args below meth c T' (locs ++ [⟨a, j.toNatClampNeg⟩]) cells slots ∧ T'.heap = h' ∧ Wr h h' a j.toNatClampNeg (.double x) ∧ Arf Z h' a .double n (updv f j.toNatClampNeg (.double x)) ∧ ∀ target, Steps p.tables e below (T'.setTop { g with pc := g.pc + 1, stack := rest }) target → Steps p.tables e below (T.setTop g) target := by
  obtain ⟨cl, A, r1, r2, r3⟩ := id F
  obtain ⟨T', h', X', e', W, st⟩ := stD X hx hZ eT A (j := j) (x := x) (inI r1 hj) hg hs hd
  have q := clampOf hj.1
  exact ⟨T', h', X', e', W, F.set W (by omega), st⟩
theorem ldDf (X : Stand p l e R s m args below meth c T locs cells slots) (hx : p.tables.exec = Jvm.exec) (hZ : Z.Warmed39 s.vm) (eT : T.heap = h) (F : Arf Z h a .double n f) {j : Int32} {v : Value} (hj : 0 ≤ j.toInt ∧ j.toInt < n) (hv : f j.toNatClampNeg = v) {g : JFrame} (hg : g.method = m) {rest : List Value} (hs : g.stack = .int j :: .ref a :: rest) (hd : decode c.code g.pc = .ok (.daload, 1)) :
    ∀ target, Steps p.tables e below (T.setTop { g with pc := g.pc + 1, stack := v :: rest }) target → Steps p.tables e below (T.setTop g) target := by
  obtain ⟨cl, A, r1, r2, r3⟩ := F
  have q := clampOf hj.1
  exact fun t => X.daload hx (by rw [eT]; exact A.1) (State.isArrayOf_alike hZ.alike A.2.1) A.2.2 (inI r1 hj) (by rw [← hv]; exact r3 _ (by omega)) hg hs hd t
theorem lenf (X : Stand p l e R s m args below meth c T locs cells slots) (hx : p.tables.exec = Jvm.exec) (hZ : Z.Warmed39 s.vm) (eT : T.heap = h) (F : Arf Z h a ty n f) {z : Int32} (hz : n.toInt32 = z) {g : JFrame} (hg : g.method = m) {rest : List Value} (hs : g.stack = .ref a :: rest) (hd : decode c.code g.pc = .ok (.arraylength, 1)) :
    ∀ target, Steps p.tables e below (T.setTop { g with pc := g.pc + 1, stack := .int z :: rest }) target → Steps p.tables e below (T.setTop g) target := by
  obtain ⟨cl, A, r1, r2, r3⟩ := F
  subst hz r1
  exact fun t => X.arraylength hx (by rw [eT]; exact A.1) (State.isArrayOf_alike hZ.alike A.2.1) hg hs hd t
theorem toClamp {z : Int32} (q : 0 ≤ z.toInt) : z.toNatClampNeg.toInt32 = z := (back32 (fun h => by rw [Int32.lt_iff_toInt_lt] at h; have : (0 : Int32).toInt = 0 := rfl; omega)).1
theorem refCat {v : Value} (h : v.isRef = true) : v.category = 1 := by rcases ref_cases h with rfl | ⟨_, rfl⟩ <;> rfl
/-- an array that takes every object of the class C -/
def Tak (Z : State) (h : Heap) (a : Addr) (C : String) : Prop := ∃ (cell : Cell) (k kc : Class) (comp : ClassId) (t : FieldType), h[a]? = some cell ∧ Z.vm.classes[cell.cls]? = some k ∧ k.kind = .array comp t ∧ Z.vm.classes[comp]? = some kc ∧ Z.vm.findClass C = some comp
variable {C : String}
theorem Tak.ext (F : Tak Z h a C) (E : Ext h h') : Tak Z h' a C := by obtain ⟨cell, k, kc, comp, t, h1, r⟩ := F; exact ⟨cell, k, kc, comp, t, E.2 _ _ h1, r⟩
theorem Tak.wr (F : Tak Z h a C) (W : Wr h h' b sl v) : Tak Z h' a C := by
  obtain ⟨cell, k, kc, comp, t, h1, h2, r⟩ := F
  obtain ⟨c', e1, e2, -⟩ := wr_at W h1
  exact ⟨c', k, kc, comp, t, e1, by rw [e2]; exact h2, r⟩
theorem Tak.keep (F : Tak Z h a C) (K : Keep h h' ws) : Tak Z h' a C := by
  obtain ⟨cell, k, kc, comp, t, h1, h2, r⟩ := F
  obtain ⟨c', e1, e2, -⟩ := K.2.2 _ _ h1
  exact ⟨c', k, kc, comp, t, e1, by rw [e2]; exact h2, r⟩
theorem Tak.sto (F : Tak Z h a C) {y : Addr} (I : Ins Z h y C true) : Sto Z h a (.ref y) := by
  obtain ⟨cell, k, kc, comp, t, h1, h2, h3, h4, h5⟩ := F
  obtain ⟨cv, cT, g1, g2, g3⟩ := I
  cases h5.symm.trans g2
  simp only [Bool.and_eq_true, Bool.not_eq_true'] at g3
  have hv : ∃ kv, Z.vm.classes[cv.cls]? = some kv := by
    cases q : Z.vm.classes[cv.cls]? with
    | some kv => exact ⟨kv, rfl⟩
    | none =>
      by_cases e : cv.cls = comp
      · rw [e, h4] at q; cases q
      · have := g3.2
        simp [Vm.assignable, Vm.assignableAux, e, q] at this
  obtain ⟨kv, hkv⟩ := hv
  exact Or.inr ⟨cell, cv, k, kv, kc, comp, t, y, h1, h2, h3, h4, rfl, g1, g3.1, hkv, g3.2⟩
theorem Tak.of {cA : ClassId} {n : Int32} (A : Arr Z h a (newA cA ty n) ty) (O : Ovr Z cA C) : Tak Z h a C := by
  obtain ⟨k, comp, o1, o2, o3⟩ := O
  obtain ⟨kc, q, -⟩ := Vm.findClass_spec o3
  exact ⟨_, k, kc, comp, _, A.1, o1, o2, q, o3⟩
theorem Tak.ofA {cA : ClassId} {n : Int32} {ty' : FieldType} (A : Arr Z h a (newA cA ty n) ty) (O : OvrA Z cA ty' C) : Tak Z h a C := by
  obtain ⟨k, comp, o1, o2, o3⟩ := O
  obtain ⟨kc, q, -⟩ := Vm.findClass_spec o3
  exact ⟨_, k, kc, comp, _, A.1, o1, o2, q, o3⟩
theorem own_eqI {t : Term} {k : Int32} {args : Array Value} {first s : State} {o : Option Outcome} {idx : List Nat} (h : (Cond.eq t (.int k)).value args first o s idx = some true) : t.eval args first o idx s = some (.int k) := by
  simp only [Cond.value, Term.eval] at h
  cases ht : t.eval args first o idx s with
  | none => simp [ht] at h
  | some x => cases x <;> simp [ht] at h ⊢ <;> exact h
end Own
end Jvm.RoadKit
namespace Jvm.RoadKit
open Sem ClassFile Op Lib Jvm.Stand Jvm.Free Jvm.LawKit
section OwnC
variable {p : Program} {l : Launch} {e : Env} {R : Room} {s : State} {m : MethodId} {args : Array Value} {below : List Frame} {meth : Method} {c : Code} {T : State} {locs : List Loc} {cells slots : Nat} {Z : State} {h h' : Heap} {a b : Addr} {ty : FieldType} {n : Nat} {f f' : Nat → Value}
theorem own_selP {s : State} {args args' : Array Value} {y z : MethodName} {c : ClassId} {K : String} (hown : s.vm.findClass y.cls = some c) (hsel : (Cond.selects K z z).before args' s = true) (hz : z.cls = y.cls) (hp : (Cond.privateMethod y).before args s = true) (hi : (Cond.instanceMethod y).before args s = true)
    (hy : y.cls ≠ "java/lang/invoke/MethodHandle" ∧ y.cls ≠ "java/lang/invoke/VarHandle") : (Cond.selects y.cls y y).before args s = true := by
  obtain ⟨c2, r, m2, q1, q2, q3, q4, kP, q5, q6⟩ := Cond.selects_spec hsel
  have e : m2.cls = c := Option.some.inj ((findClass_of_methodNamed q3).symm.trans (by rw [hz]; exact hown))
  rw [e] at q5
  exact selects_self_of_private hown q5 q6 (Cond.privateMethod_at hp) hi hy
theorem own_getM (f : Nat → Value) {n i : Nat} (hi : i < n) (d : Value) : ((List.range n).map f).getD i d = f i := by
  rw [List.getD_eq_getElem?_getD]; simp [hi]
theorem own_toArv (A : Arf Z h a ty n f) (hfit : ∀ i, i < n → fits ty (f i) = true) : ∃ k, Arv Z h a k ty n.toInt32 ((List.range n).map f) .null := by
  obtain ⟨cl, A1, r1, r2, r3⟩ := A
  have zt : (n.toInt32).toInt = n := len_toInt r2
  have zc : (n.toInt32).toNatClampNeg = n := by show (n.toInt32).toInt.toNat = n; rw [zt]; rfl
  refine ⟨cl.cls, cl, A1, rfl, by rw [zc]; exact r1, fun q => ?_, fun j hj => ?_, fun j hj => ?_⟩
  · rw [Int32.lt_iff_toInt_lt, zt] at q; have k0 : (0 : Int32).toInt = 0 := rfl; omega
  · rw [own_getM f (by omega)]; exact r3 j (by omega)
  · rw [own_getM f (by omega)]; exact hfit j (by omega)
/-- System.arraycopy within one array -/
theorem own_cp (X : Stand p l e R s m args below meth c T locs cells slots) (hx : p.tables.exec = Jvm.exec) (hZ : Z.Warmed39 s.vm) {a0 : Array Value} {own : String} {index : Nat} (hown : s.vm.findClass own = some m.cls)
    (w1 : (Cond.methodLink own index Jvm.Stand.acN).before a0 Z = true) (w2 : (Cond.native Jvm.Stand.acN).before a0 Z = true) (w3 : (Cond.static Jvm.Stand.acN).before a0 Z = true) (w4 : (Cond.initialized "java/lang/System").before a0 Z = true) (eT : T.heap = h)
    (A : Arf Z h a ty n f) (hfit : ∀ i, i < n → fits ty (f i) = true) {sp dp nn : Int32} {S D K : Nat} (hty : refKind ty = false ∨ (refKind ty = true ∧ K = 0)) (h1 : ¬ sp < 0) (h2 : ¬ dp < 0) (h3 : ¬ nn < 0) (g1 : sp.toNatClampNeg = S) (g2 : dp.toNatClampNeg = D) (g3 : nn.toNatClampNeg = K) (h4 : S + K ≤ n) (h5 : D + K ≤ n)
    (hf' : ∀ i, i < n → f' i = if D ≤ i ∧ i < D + K then f (S + (i - D)) else f i) {n0 : Nat} (N : Fr n0 locs) (ge : n0 ≤ a)
    {g : JFrame} (hg : g.method = m) (hsize : g.locals.size = c.maxLocals) {rest : List Value} (hs : g.stack = .int nn :: .int dp :: .ref a :: .int sp :: .ref a :: rest) (hd : decode c.code g.pc = .ok (.invokestatic index, 3))
    (hf : 1 ≤ R.frames) {W : Nat} (hW : 2 * g.monitorRoom + (rest.map fun v => v.category).sum ≤ W) (hlo : W + (nativeFrameWords "java/lang/System" "arraycopy" 5 + 11) ≤ R.locals) :
    ∃ T' h' L, Stand p l e R s m args below meth c T' L cells slots ∧ T'.heap = h' ∧ Fr n0 L ∧ Keep h h' [a] ∧ Arf Z h' a ty n f' ∧
      ∀ target, Steps p.tables e below (T'.setTop { g with pc := g.pc + 3, stack := rest }) target → Steps p.tables e below (T.setTop g) target := by
  obtain ⟨cl0, -, -, r2, -⟩ := id A
  obtain ⟨k, AV⟩ := own_toArv A hfit
  have zt : (n.toInt32).toInt = n := len_toInt r2
  have zc : (n.toInt32).toNatClampNeg = n := by show (n.toInt32).toInt.toNat = n; rw [zt]; rfl
  obtain ⟨T', h', L, X', e', N', KK, B, st⟩ := cpA X hx hZ hown w1 w2 w3 w4 eT (sp := sp) (dp := dp) (nn := nn) AV AV (us := (List.range nn.toNatClampNeg).map fun i => ((List.range n).map f).getD (sp.toNatClampNeg + i) .null)
    (by rcases hty with q | ⟨q, q'⟩
        · exact Or.inl ⟨rfl, q⟩
        · refine Or.inr ⟨q, q, ?_⟩
          rw [g3, q']; exact trivial) h1 h2 h3 (by rw [g1, g3, zc]; exact h4) (by rw [g2, g3, zc]; exact h5) rfl (by rw [g2, g3]; simpa using h5) N ge hg hsize hs hd hf hW hlo
  refine ⟨T', h', L, X', e', N', KK, ?_, st⟩
  obtain ⟨c2, A2, -, S2, -, H2, -⟩ := B
  rw [zc] at S2
  refine ⟨c2, A2, S2, r2, fun i hi => ?_⟩
  rw [H2 i (by omega), g1, g2, g3, hf' i hi, List.getD_eq_getElem?_getD]
  congr 1
  by_cases c1 : i < D
  · rw [if_neg (by omega), List.append_assoc, List.getElem?_append_left (by simp; omega)]
    simp [c1, hi]
  · by_cases c3 : i < D + K
    · rw [if_pos ⟨by omega, c3⟩, List.append_assoc, List.getElem?_append_right (by simp; omega), List.getElem?_append_left (by simp; omega)]
      have q : S + (i - D) < n := by omega
      have q2 : i - min D n < K := by omega
      have q3 : min D n = D := by omega
      simp [q3, q2, q, own_getM]
      rw [q3] at q2
      simp [q2, q]
    · rw [if_neg (by omega), List.getElem?_append_right (by simp; omega)]
      simp
      have q : D + K + (i - (min D n + K)) = i := by omega
      simp [q, hi]
end OwnC
end Jvm.RoadKit
namespace Jvm.FP.Core
def own_sh (k : Nat) : Datum → Datum
  | .fin s c q => .fin s c (q + k)
  | .nan => .nan
  | .inf s => .inf s
def own_fr (k : Nat) (i : Int) (a : UInt64) : Prop := Whole i (own_sh k (val64 a))
theorem own_cancel {c d x y a b : Nat} (h : c * 2 ^ a = d * 2 ^ b) (e : x + b = y + a) : c * 2 ^ x = d * 2 ^ y := by
  have p : 0 < 2 ^ (a + b) := Nat.two_pow_pos _
  refine Nat.eq_of_mul_eq_mul_right p ?_
  calc c * 2 ^ x * 2 ^ (a + b) = (c * 2 ^ a) * 2 ^ (x + b) := by simp only [Nat.pow_add]; ac_rfl
    _ = (d * 2 ^ b) * 2 ^ (y + a) := by rw [h, e]
    _ = d * 2 ^ y * 2 ^ (a + b) := by simp only [Nat.pow_add]; ac_rfl
theorem own_shP (k : Nat) (x y : Datum) : exactProduct (own_sh k x) y = own_sh k (exactProduct x y) := by
  cases x <;> cases y <;> simp only [own_sh, exactProduct] <;> first | (split <;> rfl) | (congr 1; omega) | rfl
theorem own_shS (k : Nat) (x y : Datum) : exactSum (own_sh k x) (own_sh k y) = own_sh k (exactSum x y) := by
  cases x <;> cases y <;> simp only [own_sh, exactSum]
  · split <;> rfl
  · rename_i s c q t d r
    have e1 : min (q + (k : Int)) (r + k) = min q r + k := by omega
    have u : sumUnits s c (q + k) t d (r + k) (min q r + k) = sumUnits s c q t d r (min q r) := by
      unfold sumUnits inUnits
      rw [show q + (k : Int) - (min q r + k) = q - min q r by omega, show r + (k : Int) - (min q r + k) = r - min q r by omega]
    rw [e1, u]
theorem own_shN (k : Nat) (x : Datum) : negate (own_sh k x) = own_sh k (negate x) := by cases x <;> rfl
theorem own_shO (k : Nat) (x y : Datum) : order (own_sh k x) (own_sh k y) = order x y := by
  cases x <;> cases y <;> simp only [own_sh, order]
  rename_i s c q t d r
  have e1 : min (q + (k : Int)) (r + k) = min q r + k := by omega
  unfold inUnits
  rw [e1, show q + (k : Int) - (min q r + k) = q - min q r by omega, show r + (k : Int) - (min q r + k) = r - min q r by omega]
theorem own_norm {s : Bool} {n c : Nat} {q : Int} (hn : n ≠ 0) (h : fits b64 (.fin s c q)) (hv : n * 2 ^ (0 - q).toNat = c * 1 * 2 ^ (q - 0).toNat) {k : Nat} (hk : k ≤ 100) : fits b64 (.fin s c (q - k)) := by
  obtain ⟨h1, h2, h3, h4⟩ := h
  have m1 : b64.qmin = -1074 := by decide
  have m2 : b64.qmax = 971 := by decide
  have m3 : (b64.p) = 53 := rfl
  rw [m1] at h2 h4
  rw [m2] at h3
  have hq : -53 ≤ q := by
    refine Int.not_lt.mp fun hlt => ?_
    have e1 : (q - 0).toNat = 0 := by omega
    have e2 : 53 ≤ (0 - q).toNat := by omega
    rw [e1, Nat.pow_zero, Nat.mul_one, Nat.mul_one] at hv
    rw [m3, ← hv] at h1
    have := Nat.pow_le_pow_right (n := 2) (by decide) e2
    have : 1 * 2 ^ 53 ≤ n * 2 ^ (0 - q).toNat := Nat.mul_le_mul (by omega) this
    omega
  exact ⟨h1, by rw [m1]; omega, by rw [m2]; omega, Or.inr (h4.resolve_left (by omega))⟩
theorem own_frR {k : Nat} (hk : k ≤ 100) {i : Int} (hi : i.natAbs ≤ 2 ^ 53) {d : Datum} (h : Whole i (own_sh k d)) : Whole i (own_sh k (round b64 d)) := by
  cases d with
  | nan => exact h.elim
  | inf => exact h.elim
  | fin s c q =>
    by_cases h0 : i = 0
    · have hc : c = 0 := (whole_zero h).mpr h0
      subst hc h0
      show Whole 0 (own_sh k (roundRatio b64 s 0 1 q))
      unfold roundRatio
      rw [if_pos rfl]
      show signed s (0 * _) = 0 * _
      rw [Nat.zero_mul, Int.zero_mul, signed_zero]
    · obtain ⟨c', q', hfit, hv⟩ := natFit good_b64 wide_b64 s (n := i.natAbs) hi
      have e1 : round b64 (.fin s c (q + k)) = .fin s c' q' := by
        rw [round_whole h, roundRatio_exact good_b64 (by decide) hfit hv]
      have w1 := whole_round good_b64 wide_b64 (show i.natAbs ≤ 2 ^ b64.p from hi) h
      have e2 : round b64 (.fin s c q) = .fin s c' (q' - k) := by
        refine roundRatio_exact good_b64 (by decide) (own_norm (by omega) hfit hv hk) ?_
        have a1 := whole_natAbs h
        rw [Nat.mul_one] at hv ⊢
        have a2 : c * 2 ^ ((q + k).toNat + (0 - q').toNat) = c' * 2 ^ ((q' - 0).toNat + (-(q + k)).toNat) := by
          rw [Nat.pow_add, ← Nat.mul_assoc, a1, Nat.pow_add, ← Nat.mul_assoc, ← hv]; ac_rfl
        exact own_cancel a2 (by omega)
      rw [e2]
      show Whole i (.fin s c' (q' - k + k))
      rw [show q' - (k : Int) + k = q' by omega, ← e1]
      exact w1
theorem own_frD {k : Nat} (hk : k ≤ 100) {i : Int} (hi : i.natAbs ≤ 2 ^ 53) (h0 : i ≠ 0) {a b : UInt64} (ha : DInt i a) (hb : DInt (2 ^ k : Nat) b) : own_fr k i (ddiv a b) := by
  unfold own_fr
  rw [val64_ddiv]
  unfold DInt at ha hb
  generalize val64 a = x at ha
  generalize val64 b = y at hb
  cases x with
  | nan => exact ha.elim
  | inf => exact ha.elim
  | fin s c q =>
  cases y with
  | nan => exact hb.elim
  | inf => exact hb.elim
  | fin t d r =>
    have p2 := Nat.two_pow_pos k
    have hd : d ≠ 0 := fun z => by have := (whole_zero hb).mp z; omega
    have ht : t = false := by rw [whole_sign hb (by omega)]; exact decide_eq_false (by omega)
    subst ht
    show Whole i (own_sh k (if d = 0 then _ else roundRatio b64 (s != false) c d (q - r)))
    rw [if_neg hd, show (s != false) = s by cases s <;> rfl]
    obtain ⟨c', q', hfit, hv⟩ := natFit good_b64 wide_b64 s (n := i.natAbs) hi
    have e1 : round b64 (.fin s c q) = .fin s c' q' := by
      rw [round_whole ha, roundRatio_exact good_b64 (by decide) hfit hv]
    have w1 := whole_round good_b64 wide_b64 (show i.natAbs ≤ 2 ^ b64.p from hi) ha
    have e2 : roundRatio b64 s c d (q - r) = .fin s c' (q' - k) := by
      refine roundRatio_exact good_b64 (by omega) (own_norm (by omega) hfit hv hk) ?_
      have a1 := whole_natAbs ha
      have a3 := whole_natAbs hb
      rw [Int.natAbs_natCast] at a3
      rw [Nat.mul_one] at hv
      have a2 : c * 2 ^ (q.toNat + (0 - q').toNat) = c' * 2 ^ ((q' - 0).toNat + (-q).toNat) := by
        rw [Nat.pow_add, ← Nat.mul_assoc, a1, Nat.pow_add, ← Nat.mul_assoc, ← hv]; ac_rfl
      have a4 : c * 2 ^ (q.toNat + (0 - q').toNat + r.toNat) = (c' * d) * 2 ^ ((q' - 0).toNat + (-q).toNat + r.toNat + r.toNat - 0) * 1 ∨ True := Or.inr trivial
      have p3 : 0 < 2 ^ r.toNat := Nat.two_pow_pos _
      refine Nat.eq_of_mul_eq_mul_right p3 ?_
      have g1 : c' * d * 2 ^ (q' - ↑k - (q - r)).toNat * 2 ^ r.toNat = c' * 2 ^ (k + (-r).toNat + (q' - ↑k - (q - r)).toNat) := by
        calc c' * d * 2 ^ (q' - ↑k - (q - r)).toNat * 2 ^ r.toNat = c' * (d * 2 ^ r.toNat) * 2 ^ (q' - ↑k - (q - r)).toNat := by ac_rfl
          _ = c' * (2 ^ k * 2 ^ (-r).toNat) * 2 ^ (q' - ↑k - (q - r)).toNat := by rw [a3]
          _ = _ := by simp only [Nat.pow_add]; ac_rfl
      rw [g1, Nat.mul_assoc, ← Nat.pow_add]
      exact own_cancel a2 (by omega)
    rw [e2]
    show Whole i (.fin s c' (q' - k + k))
    rw [show q' - (k : Int) + k = q' by omega, ← e1]
    exact w1
theorem own_frM {k : Nat} (hk : k ≤ 100) {i j : Int} (hij : (i * j).natAbs ≤ 2 ^ 53) {a b : UInt64} (ha : own_fr k i a) (hb : DInt j b) : own_fr k (i * j) (dmul a b) := by
  unfold own_fr
  rw [val64_dmul]
  refine own_frR hk hij ?_
  rw [← own_shP]
  exact whole_product ha hb
theorem own_frS {k : Nat} (hk : k ≤ 100) {i j : Int} (hij : (i - j).natAbs ≤ 2 ^ 53) {a b : UInt64} (ha : own_fr k i a) (hb : own_fr k j b) : own_fr k (i - j) (dsub a b) := by
  unfold own_fr
  rw [val64_dsub]
  refine own_frR hk hij ?_
  rw [← own_shS, ← own_shN]
  exact whole_sum ha (whole_negate hb)
theorem own_frC {k : Nat} {i j : Int} {a b : UInt64} (ha : own_fr k i a) (hb : own_fr k j b) : dcmp a b = some (compare i j) := by
  show order (val64 a) (val64 b) = _
  rw [← own_shO k]
  exact order_whole ha hb
theorem own_fr0 (k : Nat) : own_fr k 0 dconst0 := by
  unfold own_fr
  rw [val64_dconst0]
  show signed false (0 * _) = 0 * _
  rw [Nat.zero_mul, Int.zero_mul, signed_zero]
theorem own_fr1 (k : Nat) : own_fr k (2 ^ k : Nat) dconst1 := by
  unfold own_fr
  rw [val64_dconst1]
  show ((2 ^ 52 * 2 ^ ((-52 : Int) + k).toNat : Nat) : Int) = ((2 ^ k : Nat) : Int) * ((2 ^ (-((-52 : Int) + k)).toNat : Nat) : Int)
  rw [← Int.natCast_mul, ← Nat.pow_add, ← Nat.pow_add]
  congr 2
  omega
theorem own_cancelLe {c d x y a b : Nat} (h : d * 2 ^ b ≤ c * 2 ^ a) (e : x + b = y + a) : d * 2 ^ y ≤ c * 2 ^ x := by
  have p : 0 < 2 ^ (a + b) := Nat.two_pow_pos _
  refine Nat.le_of_mul_le_mul_right (c := 2 ^ (a + b)) ?_ p
  calc d * 2 ^ y * 2 ^ (a + b) = (d * 2 ^ b) * 2 ^ (y + a) := by simp only [Nat.pow_add]; ac_rfl
    _ ≤ (c * 2 ^ a) * 2 ^ (y + a) := Nat.mul_le_mul_right _ h
    _ = (c * 2 ^ a) * 2 ^ (x + b) := by rw [e]
    _ = c * 2 ^ x * 2 ^ (a + b) := by simp only [Nat.pow_add]; ac_rfl
def own_V1 : Datum := .fin false (2 ^ 52) (-52)
theorem own_V1f : fits b64 own_V1 := by have h := val64_fits dconst1; rw [val64_dconst1] at h; exact h
theorem own_V1z : zmag b64 own_V1 = 1 * 2 ^ 1074 := by
  show 2 ^ 52 * 2 ^ ((-52 : Int) - b64.qmin).toNat = 1 * 2 ^ 1074
  rw [show ((-52 : Int) - b64.qmin).toNat = 1022 by decide, ← Nat.pow_add, Nat.one_mul]
/-- what is at least one rounds to at least one -/
theorem own_ge1 (s : Bool) {c : Nat} {q : Int} (h : 1 * 2 ^ (-q).toNat ≤ c * 2 ^ q.toNat) : zmag b64 own_V1 ≤ zmag b64 (roundRatio b64 s c 1 q) := by
  have m1 : b64.qmin = -1074 := by decide
  refine zmag_roundRatio_ge good_b64 (e0 := min q (-1074)) (by decide) own_V1f (by rw [m1]; omega) (by omega) ?_
  rw [own_V1z, m1, Nat.mul_one, Nat.mul_assoc, ← Nat.pow_add]
  exact own_cancelLe h (by omega)
theorem own_gt {a : UInt64} (hn : val64 a ≠ .nan) (h : sgn (val64 a) = false) (hz : 0 < zmag b64 (val64 a)) : dcmp a dconst0 = some .gt := by
  refine dcmp_gt.mpr ⟨hn, (by rw [val64_dconst0]; exact fun q => (by cases q)), ?_⟩
  rw [show zval b64 (val64 dconst0) = 0 from zval64_zero]
  unfold zval
  rw [h]
  show (0 : Int) < ((zmag b64 (val64 a) : Nat) : Int)
  omega
theorem own_ngt {a : UInt64} (h : sgn (val64 a) = true ∨ zmag b64 (val64 a) = 0) : ¬ dcmp a dconst0 = some .gt := fun q => by
  obtain ⟨-, -, q⟩ := dcmp_gt.mp q
  rw [show zval b64 (val64 dconst0) = 0 from zval64_zero] at q
  unfold zval signed at q
  rcases h with h | h
  · rw [h, if_pos rfl] at q; omega
  · rw [h] at q; split at q <;> omega
theorem own_rr (s : Bool) (c : Nat) (q : Int) : round b64 (.fin s c q) ≠ .nan ∧ sgn (round b64 (.fin s c q)) = s := by
  show roundRatio b64 s c 1 q ≠ .nan ∧ sgn (roundRatio b64 s c 1 q) = s
  rcases roundRatio_cases b64 s c 1 q with ⟨c', q', e⟩ | e <;> rw [e]
  · exact ⟨fun z => (by cases z), rfl⟩
  · exact ⟨fun z => (by cases z), rfl⟩
def own_c3 : UInt64 := 4599075939470750515
theorem own_c3v : val64 own_c3 = .fin false 5404319552844595 (-54) := by decide +kernel
/-- 0.3 times a whole number -/
theorem own_p3 (p : Int32) : ∃ (s : Bool) (c : Nat) (q : Int), Whole p.toInt (.fin s c q) ∧ val64 (dmul own_c3 (i2d p)) = roundRatio b64 s (5404319552844595 * c) 1 (-54 + q) := by
  have h := i2d_int p
  unfold DInt at h
  rw [val64_dmul, own_c3v]
  generalize val64 (i2d p) = x at h
  cases x with
  | nan => exact h.elim
  | inf => exact h.elim
  | fin s c q => exact ⟨s, c, q, h, by cases s <;> rfl⟩
theorem own_p3n (p : Int32) : val64 (dmul own_c3 (i2d p)) ≠ .nan := by
  obtain ⟨s, c, q, -, e⟩ := own_p3 p
  rw [e]; exact roundRatio_ne_nan _ _ _ _ _
theorem own_p3d (p : Int32) : val64 (dsub dconst1 (dmul own_c3 (i2d p))) ≠ .nan := by
  obtain ⟨s, c, q, -, e⟩ := own_p3 p
  rw [val64_dsub, val64_dconst1, e]
  rcases roundRatio_cases b64 s (5404319552844595 * c) 1 (-54 + q) with ⟨c', q', e'⟩ | e' <;> rw [e']
  · exact (own_rr _ _ _).1
  · exact fun z => (by cases z)
theorem own_p3neg {p : Int32} (h : p.toInt < 0) : dcmp (dsub dconst1 (dmul own_c3 (i2d p))) dconst0 = some .gt := by
  have hn := own_p3d p
  obtain ⟨s, c, q, hw, e⟩ := own_p3 p
  have hs : s = true := by rw [whole_sign hw (by omega)]; exact decide_eq_true h
  subst hs
  rw [val64_dsub, val64_dconst1, e] at hn
  have key : sgn (round b64 (exactSum (.fin false (2 ^ 52) (-52)) (negate (roundRatio b64 true (5404319552844595 * c) 1 (-54 + q))))) = false ∧ 0 < zmag b64 (round b64 (exactSum (.fin false (2 ^ 52) (-52)) (negate (roundRatio b64 true (5404319552844595 * c) 1 (-54 + q))))) := by
    rcases roundRatio_cases b64 true (5404319552844595 * c) 1 (-54 + q) with ⟨c', q', e'⟩ | e' <;> rw [e']
    · obtain ⟨v, hv⟩ : ∃ v, v = sumUnits false (2 ^ 52) (-52) false c' q' (min (-52) q') := ⟨_, rfl⟩
      have hv2 : v = ((2 ^ 52 * 2 ^ ((-52 : Int) - min (-52) q').toNat : Nat) : Int) + ((c' * 2 ^ (q' - min (-52) q').toNat : Nat) : Int) := hv
      have p1 : 0 < 2 ^ 52 * 2 ^ ((-52 : Int) - min (-52) q').toNat := Nat.mul_pos (Nat.two_pow_pos _) (Nat.two_pow_pos _)
      show sgn (round b64 (.fin (sumSign false false (sumUnits false (2 ^ 52) (-52) false c' q' (min (-52) q'))) (sumUnits false (2 ^ 52) (-52) false c' q' (min (-52) q')).natAbs (min (-52) q'))) = false ∧ _
      have es : exactSum (.fin false (2 ^ 52) (-52)) (negate (.fin true c' q')) = .fin false v.natAbs (min (-52) q') := by
        show Datum.fin (sumSign false false (sumUnits false (2 ^ 52) (-52) false c' q' (min (-52) q'))) (sumUnits false (2 ^ 52) (-52) false c' q' (min (-52) q')).natAbs (min (-52) q') = _
        rw [← hv]
        unfold sumSign
        rw [if_neg (by omega), show decide (v < 0) = false from decide_eq_false (by omega)]
      rw [es]
      refine ⟨?_, Nat.lt_of_lt_of_le ?_ (own_ge1 false (c := v.natAbs) (q := min (-52) q') ?_)⟩
      · show sgn (round b64 (.fin (sumSign false false (sumUnits false (2 ^ 52) (-52) false c' q' (min (-52) q'))) (sumUnits false (2 ^ 52) (-52) false c' q' (min (-52) q')).natAbs (min (-52) q'))) = false
        rw [show Datum.fin (sumSign false false (sumUnits false (2 ^ 52) (-52) false c' q' (min (-52) q'))) (sumUnits false (2 ^ 52) (-52) false c' q' (min (-52) q')).natAbs (min (-52) q') = .fin false v.natAbs (min (-52) q') from es]
        exact (own_rr _ _ _).2
      · rw [own_V1z, Nat.one_mul]; exact Nat.two_pow_pos _
      · have z : (min (-52) q').toNat = 0 := by omega
        rw [z, Nat.pow_zero, Nat.mul_one, Nat.one_mul]
        have y : 2 ^ 52 * 2 ^ ((-52 : Int) - min (-52) q').toNat = 2 ^ (-(min (-52) q')).toNat := by rw [← Nat.pow_add]; congr 1; omega
        omega
    · exact ⟨rfl, Nat.mul_pos (tails_pos _) (Nat.two_pow_pos _)⟩
  refine own_gt (by rw [val64_dsub, val64_dconst1, e]; exact hn) (by rw [val64_dsub, val64_dconst1, e]; exact key.1) (by rw [val64_dsub, val64_dconst1, e]; exact key.2)
theorem own_p3big {p : Int32} (h : 4 ≤ p.toInt) : ¬ dcmp (dsub dconst1 (dmul own_c3 (i2d p))) dconst0 = some .gt := by
  obtain ⟨s, c, q, hw, e⟩ := own_p3 p
  have hs : s = false := by rw [whole_sign hw (by omega)]; exact decide_eq_false (by omega)
  subst hs
  have hge : zmag b64 own_V1 ≤ zmag b64 (roundRatio b64 false (5404319552844595 * c) 1 (-54 + q)) := by
    refine own_ge1 false ?_
    have a1 := whole_natAbs hw
    have a2 : 1 * 2 ^ (54 + (-q).toNat) ≤ 5404319552844595 * c * 2 ^ q.toNat := by
      rw [Nat.mul_assoc, a1, Nat.one_mul, Nat.pow_add, ← Nat.mul_assoc]
      refine Nat.mul_le_mul_right _ ?_
      have : 5404319552844595 * 4 ≤ 5404319552844595 * p.toInt.natAbs := Nat.mul_le_mul_left _ (by omega)
      omega
    exact own_cancelLe a2 (by omega)
  have hfit := roundRatio_fits good_b64 false (5404319552844595 * c) (B := 1) (by decide) (-54 + q)
  refine own_ngt ?_
  rw [val64_dsub, val64_dconst1, e]
  rcases roundRatio_cases b64 false (5404319552844595 * c) 1 (-54 + q) with ⟨c', q', e'⟩ | e' <;> rw [e'] at hge hfit ⊢
  · have m1 : b64.qmin = -1074 := by decide
    have f2 : b64.qmin ≤ q' := hfit.2.1
    rw [m1] at f2
    obtain ⟨v, hv⟩ : ∃ v, v = sumUnits false (2 ^ 52) (-52) true c' q' (min (-52) q') := ⟨_, rfl⟩
    have hv2 : v = ((2 ^ 52 * 2 ^ ((-52 : Int) - min (-52) q').toNat : Nat) : Int) + -((c' * 2 ^ (q' - min (-52) q').toNat : Nat) : Int) := hv
    have hle : 2 ^ 52 * 2 ^ ((-52 : Int) - min (-52) q').toNat ≤ c' * 2 ^ (q' - min (-52) q').toNat := by
      have g : 2 ^ 52 * 2 ^ ((-52 : Int) - b64.qmin).toNat ≤ c' * 2 ^ (q' - b64.qmin).toNat := hge
      rw [m1] at g
      exact own_cancelLe g (by omega)
    have es : exactSum (.fin false (2 ^ 52) (-52)) (negate (.fin false c' q')) = .fin (sumSign false true v) v.natAbs (min (-52) q') := by rw [hv]; rfl
    rw [es]
    by_cases h0 : v = 0
    · right
      rw [h0]
      show zmag b64 (roundRatio b64 _ 0 1 _) = 0
      unfold roundRatio
      rw [if_pos rfl]
      show 0 * _ = 0
      rw [Nat.zero_mul]
    · left
      rw [(own_rr _ _ _).2]
      unfold sumSign
      rw [if_neg h0]
      exact decide_eq_true (by omega)
  · exact Or.inl rfl
theorem own_p3s : ∀ p : Fin 4, dcmp (dsub dconst1 (dmul own_c3 (i2d (Int32.ofNat p.val)))) dconst0 = some .gt := by decide +kernel
theorem own_p3iff (p : Int32) : dcmp (dsub dconst1 (dmul own_c3 (i2d p))) dconst0 = some .gt ↔ p < 4 := by
  have k4 : (4 : Int32).toInt = 4 := rfl
  rw [Int32.lt_iff_toInt_lt, k4]
  constructor
  · intro h
    exact Int.not_le.mp fun z => own_p3big z h
  · intro h
    by_cases z : p.toInt < 0
    · exact own_p3neg z
    · have e : p = Int32.ofNat (⟨p.toInt.toNat, by omega⟩ : Fin 4).val := by
        rw [← Int32.toInt_inj]
        show p.toInt = (Int32.ofNat p.toInt.toNat).toInt
        rw [Int32.toInt_ofNat_of_lt (by omega)]
        omega
      rw [e]
      exact own_p3s _
theorem own_frn {k : Nat} {i : Int} {a : UInt64} (h : own_fr k i a) : val64 a ≠ .nan := fun z => by
  unfold own_fr at h; rw [z] at h; exact h
/-- m / 2^k, its product with a whole number and one less that -/
theorem own_dk {k : Nat} (h1 : k ≤ 20) {m d p : Int32} (hd : d.toInt = (2 ^ k : Nat)) (hm : 1 ≤ m.toInt) (hm2 : m.toInt < d.toInt) :
    own_fr k m.toInt (ddiv (i2d m) (i2d d)) ∧ own_fr k (m.toInt * p.toInt) (dmul (ddiv (i2d m) (i2d d)) (i2d p)) ∧ own_fr k ((2 ^ k : Nat) - m.toInt * p.toInt) (dsub dconst1 (dmul (ddiv (i2d m) (i2d d)) (i2d p))) := by
  have hp : (2 : Nat) ^ k ≤ 2 ^ 20 := Nat.pow_le_pow_right (by decide) h1
  have r1 := p.toInt_lt
  have r2 := p.le_toInt
  have hd2 := i2d_int d
  rw [hd] at hd2 hm2
  have a1 := own_frD (k := k) (by omega) (i := m.toInt) (by omega) (by omega) (i2d_int m) hd2
  have mp : (m.toInt * p.toInt).natAbs ≤ 2 ^ 20 * 2 ^ 31 := by
    rw [Int.natAbs_mul]
    exact Nat.mul_le_mul (by omega) (by omega)
  have a2 := own_frM (k := k) (by omega) (i := m.toInt) (j := p.toInt) (by omega) a1 (i2d_int p)
  exact ⟨a1, a2, own_frS (by omega) (by omega) (own_fr1 k) a2⟩
theorem own_dk1 {k : Nat} (h1 : k ≤ 20) {m d : Int32} (hd : d.toInt = (2 ^ k : Nat)) (hm : 1 ≤ m.toInt) (hm2 : m.toInt < d.toInt) : dcmp (ddiv (i2d m) (i2d d)) dconst0 = some .gt ∧ dcmp (ddiv (i2d m) (i2d d)) dconst1 = some .lt := by
  obtain ⟨a1, -, -⟩ := own_dk (p := 0) h1 hd hm hm2
  rw [own_frC a1 (own_fr0 k), own_frC a1 (own_fr1 k)]
  rw [hd] at hm2
  exact ⟨congrArg some ((compare_gt_iff _ _).mpr (by omega)), congrArg some ((compare_lt_iff _ _).mpr hm2)⟩
theorem own_dk2 {k : Nat} (h1 : k ≤ 20) {m d p : Int32} (hd : d.toInt = (2 ^ k : Nat)) (hm : 1 ≤ m.toInt) (hm2 : m.toInt < d.toInt) : dcmp (dsub dconst1 (dmul (ddiv (i2d m) (i2d d)) (i2d p))) dconst0 = some .gt ↔ m.toInt * p.toInt < d.toInt := by
  obtain ⟨-, -, a3⟩ := own_dk (p := p) h1 hd hm hm2
  rw [own_frC a3 (own_fr0 k), Option.some.injEq, compare_gt_iff, hd]
  omega
end Jvm.FP.Core
namespace Jvm.Pilot.@@N@@
open Jvm Jvm.ClassFile Sem Op Lib Jvm.Free Jvm.Stand Jvm.LawKit Jvm.RoadKit Bundle Jvm.Pilot.@@N@@.Jvm.D
theorem pd_0 : parseMethodDescriptor "(I)D" = some ⟨[.int], some .double⟩ := by decide +kernel
theorem pd_1 : parseMethodDescriptor "(D)V" = some ⟨[.double], none⟩ := by decide +kernel
theorem pd_2 : parseMethodDescriptor "(I)Z" = some ⟨[.int], some .boolean⟩ := by decide +kernel
theorem own_nn {x : UInt64} (h : FP.Core.val64 x ≠ .nan) : Jvm.Free.Fl.NoNaN64 x := Jvm.Free.Fl.noNaN64_no.mpr (by
  cases q : FP.Core.dIsNaN x
  · rfl
  · exact absurd ((FP.Core.dIsNaN_iff x).mp q) h)
theorem own_den (x : Int32) {d : Int32} (h : (1 : Int32) <<< (((1 : Int32) + ((x &&& (2147483647 : Int32)) % (20 : Int32))) &&& 31) = d) : ∃ k : Nat, k ≤ 20 ∧ d.toInt = (2 ^ k : Nat) ∧ 2 ≤ 2 ^ k := by
  have e1 := c_mask x 2147483647 31 (by decide) (by decide)
  have e2 := c_irem (x &&& 2147483647) 20 20 rfl
  have e3 := c_iadd 1 ((x &&& 2147483647) % 20)
  have r3 := rng32 (1 + (x &&& 2147483647) % 20)
  have k1 : (1 : Int32).toInt = 1 := rfl
  generalize hz : (1 : Int32) + (x &&& 2147483647) % 20 = z at *
  have hz1 : 1 ≤ z.toInt ∧ z.toInt ≤ 20 := by omega
  have key : ∀ n : Fin 20, ((1 : Int32) <<< ((Int32.ofNat (n.val + 1)) &&& 31)).toInt = ((2 ^ (n.val + 1) : Nat) : Int) := by decide +kernel
  obtain ⟨n, hn⟩ : ∃ n : Fin 20, z = Int32.ofNat (n.val + 1) := ⟨⟨z.toInt.toNat - 1, by omega⟩, by
    rw [← Int32.toInt_inj]
    show z.toInt = (Int32.ofNat (z.toInt.toNat - 1 + 1)).toInt
    rw [Int32.toInt_ofNat_of_lt (by omega)]
    omega⟩
  refine ⟨n.val + 1, by omega, ?_, ?_⟩
  · rw [← h, hn]; exact key n
  · have := Nat.pow_le_pow_right (n := 2) (by decide) (show 1 ≤ n.val + 1 by omega); omega
theorem own_d1 {d : Int32} {k : Nat} (h : d.toInt = (2 ^ k : Nat)) (h2 : 2 ≤ 2 ^ k) : ¬ (d - 1 = (0 : Int32)) := fun q => by
  have e := c_isub d 1
  have q2 := congrArg Int32.toInt q
  have k1 : (1 : Int32).toInt = 1 := rfl
  have k0 : (0 : Int32).toInt = 0 := rfl
  have r := rng32 d
  omega
theorem own_m (x : Int32) {d m : Int32} {k : Nat} (h : d.toInt = (2 ^ k : Nat)) (h2 : 2 ≤ 2 ^ k) (hm : (1 : Int32) + ((x &&& (2147483647 : Int32)) % (d - 1)) = m) : 1 ≤ m.toInt ∧ m.toInt < d.toInt := by
  have e1 := c_mask x 2147483647 31 (by decide) (by decide)
  have e := c_isub d 1
  have k1 : (1 : Int32).toInt = 1 := rfl
  have r := rng32 d
  have r1 := rng32 (d - 1)
  have ed : (d - 1).toInt = d.toInt - 1 := by omega
  have e2 := c_iremV (x &&& 2147483647) (d - 1)
  have e3 := c_iadd 1 ((x &&& 2147483647) % (d - 1))
  have r3 := rng32 (1 + (x &&& 2147483647) % (d - 1))
  rw [hm] at e3 r3
  have e4 := e2.1 (by omega) (by omega)
  omega
theorem own_mp {m d p : Int32} {k : Nat} (h1 : 1 ≤ m.toInt) (h2 : m.toInt < d.toInt) (hd : d.toInt = (2 ^ k : Nat)) (hk : k ≤ 20) : lcmpW (m.toInt64 * p.toInt64) d.toInt64 < (0 : Int32) ↔ m.toInt * p.toInt < d.toInt := by
  rw [lw_lt, Int64.lt_iff_toInt_lt, c_i2l]
  have e : (m.toInt64 * p.toInt64).toInt = m.toInt * p.toInt := by
    rw [Int64.toInt_mul, c_i2l, c_i2l]
    have hp : (2 : Nat) ^ k ≤ 2 ^ 20 := Nat.pow_le_pow_right (by decide) hk
    have r1 := p.toInt_lt
    have r2 := p.le_toInt
    have mp : (m.toInt * p.toInt).natAbs ≤ 2 ^ 20 * 2 ^ 31 := by
      rw [Int.natAbs_mul]
      exact Nat.mul_le_mul (by omega) (by omega)
    rw [Int.bmod_eq_of_le] <;> omega
  rw [e]
theorem d1_0 : decode prog_6_method_1_code 0 = .ok (.aload_n 0, 1) := by decide +kernel
theorem d1_1 : decode prog_6_method_1_code 1 = .ok (.invokespecial 1, 3) := by decide +kernel
theorem d1_4 : decode prog_6_method_1_code 4 = .ok (.dload_n 1, 1) := by decide +kernel
theorem d1_5 : decode prog_6_method_1_code 5 = .ok (.dconst 0, 1) := by decide +kernel
theorem d1_6 : decode prog_6_method_1_code 6 = .ok (.dcmp .l, 1) := by decide +kernel
theorem d1_7 : decode prog_6_method_1_code 7 = .ok (.ifCond .le 9, 3) := by decide +kernel
theorem d1_10 : decode prog_6_method_1_code 10 = .ok (.dload_n 1, 1) := by decide +kernel
theorem d1_11 : decode prog_6_method_1_code 11 = .ok (.dconst 1, 1) := by decide +kernel
theorem d1_12 : decode prog_6_method_1_code 12 = .ok (.dcmp .g, 1) := by decide +kernel
theorem d1_13 : decode prog_6_method_1_code 13 = .ok (.ifCond .lt 17, 3) := by decide +kernel
theorem d1_16 : decode prog_6_method_1_code 16 = .ok (.new 7, 3) := by decide +kernel
theorem d1_19 : decode prog_6_method_1_code 19 = .ok (.dup, 1) := by decide +kernel
theorem d1_20 : decode prog_6_method_1_code 20 = .ok (.dload_n 1, 1) := by decide +kernel
theorem d1_21 : decode prog_6_method_1_code 21 = .ok (.invokedynamic 9, 5) := by decide +kernel
theorem d1_26 : decode prog_6_method_1_code 26 = .ok (.invokespecial 13, 3) := by decide +kernel
theorem d1_29 : decode prog_6_method_1_code 29 = .ok (.athrow, 1) := by decide +kernel
theorem d1_30 : decode prog_6_method_1_code 30 = .ok (.aload_n 0, 1) := by decide +kernel
theorem d1_31 : decode prog_6_method_1_code 31 = .ok (.dload_n 1, 1) := by decide +kernel
theorem d1_32 : decode prog_6_method_1_code 32 = .ok (.putfield 16, 3) := by decide +kernel
theorem d1_35 : decode prog_6_method_1_code 35 = .ok (.return_, 1) := by decide +kernel
theorem pn_1 : plainName "com/example/seshat/seshat/DistanceConstraint" = true := by first | (simp [plainName, overriddenIn]; done) | decide +kernel
def QrmIni (Z : State) (r0 : Addr) (p1 : UInt64) (h0 : Heap) (n0 : Nat) (v : Option Value) (h : Heap) (L : List Loc) : Prop := v = none ∧ Fr n0 L ∧ Keep h0 h [r0] ∧ Fld Z h r0 "com/example/seshat/seshat/DistanceConstraint" "decay" "D" (.double p1)
set_option maxRecDepth 65536 in
set_option maxHeartbeats 40000000 in
theorem rmIni (l : Launch) (Z : State) (a0 : Array Value) (hw : ∀ d ∈ tables_1, d.before a0 Z = true) (ws : List Jvm.Cond) (r0 : Addr) (p1 : UInt64) (h0 : Heap) (n0 : Nat) (Z0 : n0 ≤ h0.size) (F_decay_r0 : Fld Z h0 r0 "com/example/seshat/seshat/DistanceConstraint" "decay" "D" (.double (0 : UInt64))) (E_r0 : Exa Z h0 r0 "com/example/seshat/seshat/DistanceConstraint") (ge_r0 : n0 ≤ r0) (h1 : FP.dcmp p1 (0 : UInt64) = some .gt) (h2 : FP.dcmp p1 (4607182418800017408 : UInt64) = some .lt) :
    MetFree l (⟨"com/example/seshat/seshat/DistanceConstraint", "<init>", "(D)V"⟩ : MethodName) (head1 (Jvm.Cond.code (⟨"com/example/seshat/seshat/DistanceConstraint", "<init>", "(D)V"⟩ : MethodName) prog_6_method_1_code 3 none :: ws) ({ frames := 1, cells := 0, slots := 0, locals := 12 } : Room)) (fun a U => a = #[(.ref r0), (.double p1)] ∧ Z.Warmed39 U.vm ∧ U.heap = h0) (fun _ _ _ _ _ => True) (fun _ U o U' => ∃ v L, o = .returned v ∧ QrmIni Z r0 p1 h0 n0 v U'.heap L ∧ FrameEnd U o U' L ({ frames := 1, cells := 0, slots := 0, locals := 12 } : Room).cells ({ frames := 1, cells := 0, slots := 0, locals := 12 } : Room).slots) := by
  refine MetFree.of_bodySF (plainFor_of_name pn_1) hisR ?_
  intro p e s m args below meth c s₁ Bd hml0 hP hK
  obtain ⟨rfl, hZ, hh⟩ := hP
  have hx := Bd.exec
  have hby := Bd.bytes
  have hml : c.maxLocals = 3 := hml0
  have hown : s.vm.findClass "com/example/seshat/seshat/DistanceConstraint" = some m.cls := findClass_of_methodNamed Bd.named
  have hnm := (name_of_methodNamed Bd.named Bd.method).1
  have X0 : Stand p l e ({ frames := 1, cells := 0, slots := 0, locals := 12 } : Room) s m #[(.ref r0), (.double p1)] below meth c s₁ [] 0 0 := Stand.of_body Bd
  have e0 : s₁.heap = h0 := by rw [← hh, Bd.state]; rfl
  have N0 := Fr.nil n0
  have ZZ := Z0
  have KK : Keep h0 h0 [r0] := Keep.refl h0 _
  show Go p e below s (QrmIni Z r0 p1 h0 n0) 0 0 (s₁.setTop (entryFrame m #[(.ref r0), (.double p1)] 3))
  generalize hQQ : (QrmIni Z r0 p1 h0 n0) = QQ
  refine gs (fun t k => castTop (g' := (mkF m 0 #[rv r0, .val (.double p1), .second] [])) (by first | (simp [entryFrame, mkF, argsToLocals, Value.category, maxLocals]; done) | rfl) k) ?_
  show Go p e below s QQ 0 0 (s₁.setTop (mkF m 0 #[rv r0, .val (.double p1), .second] []))
  refine gs (fun t => XS.aloadN X0.here hx rfl (hb hby d1_0) rfl rfl) ?_
  show Go p e below s QQ 0 0 (s₁.setTop (mkF m 1 #[rv r0, .val (.double p1), .second] [(.ref r0)]))
  obtain ⟨T1, X1, e1, st1⟩ := initO X0 hx hZ hown (hw _ (List.mem_of_getElem? (i := 7) rfl)) (hw _ (List.mem_of_getElem? (i := 8) rfl)) (hw _ (List.mem_of_getElem? (i := 9) rfl)) e0 (g := (mkF m 1 #[rv r0, .val (.double p1), .second] [(.ref r0)])) rfl (by rw [hml]; rfl) rfl (hb hby d1_1) (by decide) (W := 0) (by show 2 * 0 + _ ≤ _; exact Nat.le_of_eq rfl) (by decide)
  refine gs st1 ?_
  show Go p e below s QQ 0 0 (T1.setTop (mkF m 4 #[rv r0, .val (.double p1), .second] []))
  refine gs (fun t => XS.dloadN X1.here hx rfl (hb hby d1_4) rfl) ?_
  show Go p e below s QQ 0 0 (T1.setTop (mkF m 5 #[rv r0, .val (.double p1), .second] [(.double p1)]))
  refine gs (fun t => XS.dconst0 X1.here hx rfl (v := (0 : UInt64)) (hb hby d1_5) (by first | rfl | decide +kernel)) ?_
  show Go p e below s QQ 0 0 (T1.setTop (mkF m 6 #[rv r0, .val (.double p1), .second] [(.double (0 : UInt64)), (.double p1)]))
  refine gs (fun t => XS.dcmpS X1.here hx rfl (v := (1 : Int32)) (hb hby d1_6) rfl (by rw [h1]; rfl)) ?_
  show Go p e below s QQ 0 0 (T1.setTop (mkF m 7 #[rv r0, .val (.double p1), .second] [(.int (1 : Int32))]))
  refine gs (fun t => XS.ifNo X1.here hx rfl (hb hby d1_7) rfl ((if0 _ _).trans (tlt (by decide : (0 : Int32) < (1 : Int32))).2.2.2)) ?_
  show Go p e below s QQ 0 0 (T1.setTop (mkF m 10 #[rv r0, .val (.double p1), .second] []))
  refine gs (fun t => XS.dloadN X1.here hx rfl (hb hby d1_10) rfl) ?_
  show Go p e below s QQ 0 0 (T1.setTop (mkF m 11 #[rv r0, .val (.double p1), .second] [(.double p1)]))
  refine gs (fun t => XS.dconst1 X1.here hx rfl (v := (4607182418800017408 : UInt64)) (hb hby d1_11) (by first | rfl | decide +kernel)) ?_
  show Go p e below s QQ 0 0 (T1.setTop (mkF m 12 #[rv r0, .val (.double p1), .second] [(.double (4607182418800017408 : UInt64)), (.double p1)]))
  refine gs (fun t => XS.dcmpS X1.here hx rfl (v := (-1 : Int32)) (hb hby d1_12) rfl (by rw [h2]; rfl)) ?_
  show Go p e below s QQ 0 0 (T1.setTop (mkF m 13 #[rv r0, .val (.double p1), .second] [(.int (-1 : Int32))]))
  refine gs (fun t => XS.ifYes X1.here hx rfl (pc0 := 13) (pc' := 30) rfl (hb hby d1_13) rfl ((if0 _ _).trans (tlt (by decide : (-1 : Int32) < (0 : Int32))).1) (by decide) (by decide)) ?_
  show Go p e below s QQ 0 0 (T1.setTop (mkF m 30 #[rv r0, .val (.double p1), .second] []))
  refine gs (fun t => XS.aloadN X1.here hx rfl (hb hby d1_30) rfl rfl) ?_
  show Go p e below s QQ 0 0 (T1.setTop (mkF m 31 #[rv r0, .val (.double p1), .second] [(.ref r0)]))
  refine gs (fun t => XS.dloadN X1.here hx rfl (hb hby d1_31) rfl) ?_
  show Go p e below s QQ 0 0 (T1.setTop (mkF m 32 #[rv r0, .val (.double p1), .second] [(.double p1), (.ref r0)]))
  obtain ⟨T2, h2, X2, e2, W2, st2⟩ := putF X1 hx hZ hown (host := "") (Or.inl (hw _ (List.mem_of_getElem? (i := 10) rfl))) Via.refl e1 F_decay_r0 E_r0 (Or.inr ⟨(hw _ (List.mem_of_getElem? (i := 11) rfl)), rfl, hnm⟩) (hw _ (List.mem_of_getElem? (i := 2) rfl)) (ty := .double) (by decide) rfl rfl (g := (mkF m 32 #[rv r0, .val (.double p1), .second] [(.double p1), (.ref r0)])) rfl rfl (hb hby d1_32)
  replace N0 := Fr.snoc X2 N0 ge_r0
  refine gs st2 ?_
  show Go p e below s QQ 0 0 (T2.setTop (mkF m 35 #[rv r0, .val (.double p1), .second] []))
  replace F_decay_r0 := F_decay_r0.same W2
  replace E_r0 := E_r0.wr W2
  replace ZZ : n0 ≤ h2.size := by rw [W2.size]; exact ZZ
  replace KK := KK.wr W2 (Or.inl (by simp))
  exact goV X2 hx Bd.notSynchronized Bd.returns (hb hby d1_35) (by rw [← hQQ, e2]; exact ⟨rfl, N0, KK, F_decay_r0⟩) (by decide) (by decide)
theorem d4_0 : decode prog_6_method_4_code 0 = .ok (.dconst 1, 1) := by decide +kernel
theorem d4_1 : decode prog_6_method_4_code 1 = .ok (.aload_n 0, 1) := by decide +kernel
theorem d4_2 : decode prog_6_method_4_code 2 = .ok (.getfield 16, 3) := by decide +kernel
theorem d4_5 : decode prog_6_method_4_code 5 = .ok (.iload_n 1, 1) := by decide +kernel
theorem d4_6 : decode prog_6_method_4_code 6 = .ok (.i2d, 1) := by decide +kernel
theorem d4_7 : decode prog_6_method_4_code 7 = .ok (.dmul, 1) := by decide +kernel
theorem d4_8 : decode prog_6_method_4_code 8 = .ok (.dsub, 1) := by decide +kernel
theorem d4_9 : decode prog_6_method_4_code 9 = .ok (.dreturn, 1) := by decide +kernel
theorem pn_4 : plainName "com/example/seshat/seshat/DistanceConstraint" = true := by first | (simp [plainName, overriddenIn]; done) | decide +kernel
def QrmFac (Z : State) (r0 : Addr) (p1 : Int32) (dd : UInt64) (h0 : Heap) (n0 : Nat) (v : Option Value) (h : Heap) (L : List Loc) : Prop := v = some (.double (FP.dsub (4607182418800017408 : UInt64) (FP.dmul dd (FP.i2d p1)))) ∧ Fr n0 L ∧ h = h0
set_option maxRecDepth 65536 in
set_option maxHeartbeats 40000000 in
theorem rmFac (l : Launch) (Z : State) (a0 : Array Value) (hw : ∀ d ∈ tables_1, d.before a0 Z = true) (ws : List Jvm.Cond) (r0 : Addr) (p1 : Int32) (dd : UInt64) (h0 : Heap) (n0 : Nat) (Z0 : n0 ≤ h0.size) (F_decay_r0 : Fld Z h0 r0 "com/example/seshat/seshat/DistanceConstraint" "decay" "D" (.double dd)) (hn1 : Jvm.Free.Fl.NoNaN64 (FP.dmul dd (FP.i2d p1))) (hn2 : Jvm.Free.Fl.NoNaN64 (FP.dsub (4607182418800017408 : UInt64) (FP.dmul dd (FP.i2d p1)))) :
    MetFree l (⟨"com/example/seshat/seshat/DistanceConstraint", "factor", "(I)D"⟩ : MethodName) (head1 (Jvm.Cond.code (⟨"com/example/seshat/seshat/DistanceConstraint", "factor", "(I)D"⟩ : MethodName) prog_6_method_4_code 2 (some .double) :: ws) ({ frames := 0, cells := 0, slots := 0, locals := 0 } : Room)) (fun a U => a = #[(.ref r0), (.int p1)] ∧ Z.Warmed39 U.vm ∧ U.heap = h0) (fun _ _ _ _ _ => True) (fun _ U o U' => ∃ v L, o = .returned v ∧ QrmFac Z r0 p1 dd h0 n0 v U'.heap L ∧ FrameEnd U o U' L ({ frames := 0, cells := 0, slots := 0, locals := 0 } : Room).cells ({ frames := 0, cells := 0, slots := 0, locals := 0 } : Room).slots) := by
  refine MetFree.of_bodySF (plainFor_of_name pn_4) hisR ?_
  intro p e s m args below meth c s₁ Bd hml0 hP hK
  obtain ⟨rfl, hZ, hh⟩ := hP
  have hx := Bd.exec
  have hby := Bd.bytes
  have hml : c.maxLocals = 2 := hml0
  have hown : s.vm.findClass "com/example/seshat/seshat/DistanceConstraint" = some m.cls := findClass_of_methodNamed Bd.named
  have hnm := (name_of_methodNamed Bd.named Bd.method).1
  have X0 : Stand p l e ({ frames := 0, cells := 0, slots := 0, locals := 0 } : Room) s m #[(.ref r0), (.int p1)] below meth c s₁ [] 0 0 := Stand.of_body Bd
  have e0 : s₁.heap = h0 := by rw [← hh, Bd.state]; rfl
  have N0 := Fr.nil n0
  have ZZ := Z0
  show Go p e below s (QrmFac Z r0 p1 dd h0 n0) 0 0 (s₁.setTop (entryFrame m #[(.ref r0), (.int p1)] 2))
  generalize hQQ : (QrmFac Z r0 p1 dd h0 n0) = QQ
  refine gs (fun t k => castTop (g' := (mkF m 0 #[rv r0, iv p1] [])) (by first | (simp [entryFrame, mkF, argsToLocals, Value.category, maxLocals]; done) | rfl) k) ?_
  show Go p e below s QQ 0 0 (s₁.setTop (mkF m 0 #[rv r0, iv p1] []))
  refine gs (fun t => XS.dconst1 X0.here hx rfl (v := (4607182418800017408 : UInt64)) (hb hby d4_0) (by first | rfl | decide +kernel)) ?_
  show Go p e below s QQ 0 0 (s₁.setTop (mkF m 1 #[rv r0, iv p1] [(.double (4607182418800017408 : UInt64))]))
  refine gs (fun t => XS.aloadN X0.here hx rfl (hb hby d4_1) rfl rfl) ?_
  show Go p e below s QQ 0 0 (s₁.setTop (mkF m 2 #[rv r0, iv p1] [(.ref r0), (.double (4607182418800017408 : UInt64))]))
  obtain ⟨T3, X3, e3, st3⟩ := getF X0 hx hZ hown (host := "") (Or.inl (hw _ (List.mem_of_getElem? (i := 10) rfl))) Via.refl e0 F_decay_r0 (g := (mkF m 2 #[rv r0, iv p1] [(.ref r0), (.double (4607182418800017408 : UInt64))])) rfl rfl (hb hby d4_2)
  refine gs st3 ?_
  show Go p e below s QQ 0 0 (T3.setTop (mkF m 5 #[rv r0, iv p1] [(.double dd), (.double (4607182418800017408 : UInt64))]))
  refine gs (fun t => XS.iloadN X3.here hx rfl (hb hby d4_5) rfl) ?_
  show Go p e below s QQ 0 0 (T3.setTop (mkF m 6 #[rv r0, iv p1] [(.int p1), (.double dd), (.double (4607182418800017408 : UInt64))]))
  refine gs (fun t => XS.i2dS X3.here hx rfl (v := (FP.i2d p1)) (hb hby d4_6) rfl rfl) ?_
  show Go p e below s QQ 0 0 (T3.setTop (mkF m 7 #[rv r0, iv p1] [(.double (FP.i2d p1)), (.double dd), (.double (4607182418800017408 : UInt64))]))
  refine gs (fun t => XS.dmulS X3.here hx rfl (v := (FP.dmul dd (FP.i2d p1))) (hb hby d4_7) rfl hn1 rfl) ?_
  show Go p e below s QQ 0 0 (T3.setTop (mkF m 8 #[rv r0, iv p1] [(.double (FP.dmul dd (FP.i2d p1))), (.double (4607182418800017408 : UInt64))]))
  refine gs (fun t => XS.dsubS X3.here hx rfl (v := (FP.dsub (4607182418800017408 : UInt64) (FP.dmul dd (FP.i2d p1)))) (hb hby d4_8) rfl hn2 rfl) ?_
  show Go p e below s QQ 0 0 (T3.setTop (mkF m 9 #[rv r0, iv p1] [(.double (FP.dsub (4607182418800017408 : UInt64) (FP.dmul dd (FP.i2d p1))))]))
  exact goW X3 hx Bd.notSynchronized Bd.returns rfl (Or.inr (Or.inr (Or.inl ⟨rfl, rfl, _, rfl⟩))) (hb hby d4_9) (by rw [← hQQ, e3]; exact ⟨rfl, N0, rfl⟩) (by decide) (by decide)
theorem d3_0 : decode prog_6_method_2_code 0 = .ok (.aload_n 0, 1) := by decide +kernel
theorem d3_1 : decode prog_6_method_2_code 1 = .ok (.iload_n 1, 1) := by decide +kernel
theorem d3_2 : decode prog_6_method_2_code 2 = .ok (.invokevirtual 22, 3) := by decide +kernel
theorem d3_5 : decode prog_6_method_2_code 5 = .ok (.dconst 0, 1) := by decide +kernel
theorem d3_6 : decode prog_6_method_2_code 6 = .ok (.dcmp .l, 1) := by decide +kernel
theorem d3_7 : decode prog_6_method_2_code 7 = .ok (.ifCond .le 7, 3) := by decide +kernel
theorem d3_10 : decode prog_6_method_2_code 10 = .ok (.iconst 1, 1) := by decide +kernel
theorem d3_11 : decode prog_6_method_2_code 11 = .ok (.goto 4, 3) := by decide +kernel
theorem d3_14 : decode prog_6_method_2_code 14 = .ok (.iconst 0, 1) := by decide +kernel
theorem d3_15 : decode prog_6_method_2_code 15 = .ok (.ireturn, 1) := by decide +kernel
theorem pn_3 : plainName "com/example/seshat/seshat/DistanceConstraint" = true := by first | (simp [plainName, overriddenIn]; done) | decide +kernel
def QrmSp1 (Z : State) (r0 : Addr) (p1 : Int32) (dd : UInt64) (h0 : Heap) (n0 : Nat) (v : Option Value) (h : Heap) (L : List Loc) : Prop := v = some (.int 1) ∧ Fr n0 L ∧ h = h0
set_option maxRecDepth 65536 in
set_option maxHeartbeats 40000000 in
theorem rmSp1 (l : Launch) (Z : State) (a0 : Array Value) (hw : ∀ d ∈ tables_1, d.before a0 Z = true) (ws : List Jvm.Cond) (r0 : Addr) (p1 : Int32) (dd : UInt64) (h0 : Heap) (n0 : Nat) (Z0 : n0 ≤ h0.size) (F_decay_r0 : Fld Z h0 r0 "com/example/seshat/seshat/DistanceConstraint" "decay" "D" (.double dd)) (E_r0 : Exa Z h0 r0 "com/example/seshat/seshat/DistanceConstraint") (hn1 : Jvm.Free.Fl.NoNaN64 (FP.dmul dd (FP.i2d p1))) (hn2 : Jvm.Free.Fl.NoNaN64 (FP.dsub (4607182418800017408 : UInt64) (FP.dmul dd (FP.i2d p1)))) (hq : FP.dcmp (FP.dsub (4607182418800017408 : UInt64) (FP.dmul dd (FP.i2d p1))) (0 : UInt64) = some .gt) :
    MetFree l (⟨"com/example/seshat/seshat/DistanceConstraint", "spreadsAt", "(I)Z"⟩ : MethodName) (head1 (Jvm.Cond.code (⟨"com/example/seshat/seshat/DistanceConstraint", "spreadsAt", "(I)Z"⟩ : MethodName) prog_6_method_2_code 2 (some .boolean) :: ws) ({ frames := 1, cells := 0, slots := 0, locals := 13 } : Room)) (fun a U => a = #[(.ref r0), (.int p1)] ∧ Z.Warmed39 U.vm ∧ U.heap = h0) (fun _ _ _ _ _ => True) (fun _ U o U' => ∃ v L, o = .returned v ∧ QrmSp1 Z r0 p1 dd h0 n0 v U'.heap L ∧ FrameEnd U o U' L ({ frames := 1, cells := 0, slots := 0, locals := 13 } : Room).cells ({ frames := 1, cells := 0, slots := 0, locals := 13 } : Room).slots) := by
  refine MetFree.of_bodySF (plainFor_of_name pn_3) hisR ?_
  intro p e s m args below meth c s₁ Bd hml0 hP hK
  obtain ⟨rfl, hZ, hh⟩ := hP
  have hx := Bd.exec
  have hby := Bd.bytes
  have hml : c.maxLocals = 2 := hml0
  have hown : s.vm.findClass "com/example/seshat/seshat/DistanceConstraint" = some m.cls := findClass_of_methodNamed Bd.named
  have hnm := (name_of_methodNamed Bd.named Bd.method).1
  have X0 : Stand p l e ({ frames := 1, cells := 0, slots := 0, locals := 13 } : Room) s m #[(.ref r0), (.int p1)] below meth c s₁ [] 0 0 := Stand.of_body Bd
  have e0 : s₁.heap = h0 := by rw [← hh, Bd.state]; rfl
  have N0 := Fr.nil n0
  have ZZ := Z0
  show Go p e below s (QrmSp1 Z r0 p1 dd h0 n0) 0 0 (s₁.setTop (entryFrame m #[(.ref r0), (.int p1)] 2))
  generalize hQQ : (QrmSp1 Z r0 p1 dd h0 n0) = QQ
  refine gs (fun t k => castTop (g' := (mkF m 0 #[rv r0, iv p1] [])) (by first | (simp [entryFrame, mkF, argsToLocals, Value.category, maxLocals]; done) | rfl) k) ?_
  show Go p e below s QQ 0 0 (s₁.setTop (mkF m 0 #[rv r0, iv p1] []))
  refine gs (fun t => XS.aloadN X0.here hx rfl (hb hby d3_0) rfl rfl) ?_
  show Go p e below s QQ 0 0 (s₁.setTop (mkF m 1 #[rv r0, iv p1] [(.ref r0)]))
  refine gs (fun t => XS.iloadN X0.here hx rfl (hb hby d3_1) rfl) ?_
  show Go p e below s QQ 0 0 (s₁.setTop (mkF m 2 #[rv r0, iv p1] [(.int p1), (.ref r0)]))
  obtain ⟨cq4, q4, q4'⟩ := E_r0.cell
  obtain ⟨_, _, ⟨T4, L4, k4, n4⟩, -, X4, ⟨Lc4, hQ4, l4, y4, z4⟩, st4⟩ := X0.privateBack hx (y := (⟨"com/example/seshat/seshat/DistanceConstraint", "factor", "(I)D"⟩ : MethodName)) hown (mvT hZ (hw _ (List.mem_of_getElem? (i := 17) rfl))) (mvT hZ (hw _ (List.mem_of_getElem? (i := 18) rfl))) (own_selP hown (mvT hZ (hw _ (List.mem_of_getElem? (i := 15) rfl)) (args := #[])) rfl (mvP hZ (hw _ (List.mem_of_getElem? (i := 19) rfl))) (mvT hZ (hw _ (List.mem_of_getElem? (i := 18) rfl))) (by decide)) (Cond.privateMethod_at (mvP hZ (hw _ (List.mem_of_getElem? (i := 19) rfl)) (args := #[]))) (mvT hZ (hw _ (List.mem_of_getElem? (i := 20) rfl))) (by decide) (backOf (W := 0) (rmFac l Z a0 hw [] r0 p1 dd h0 n0 ZZ F_decay_r0 hn1 hn2) hZ (hw _ (List.mem_of_getElem? (i := 20) rfl)) (hw _ (List.mem_of_getElem? (i := 3) rfl)) (by decide) (by decide)) (g := (mkF m 2 #[rv r0, iv p1] [(.int p1), (.ref r0)])) rfl (by rw [hml]; rfl) (Steps.refl _) (a := r0) (by rw [e0]; exact q4) q4' (argsL := [(.int p1)]) (rest := []) (lenOf pd_0 rfl) rfl (by show 2 * 0 + _ ≤ _; exact Nat.le_of_eq rfl) (hb hby d3_2) (fun _ _ => ⟨rfl, e0, (by decide : 0 + 0 ≤ _), (by decide : 0 + 0 ≤ _)⟩)
  dsimp only [Pt.U, Pt.locs, Pt.cells, Pt.slots] at X4 l4 y4 z4 st4 hQ4
  subst l4 y4 z4
  obtain ⟨rfl, N4q, e4⟩ := hQ4
  replace N0 := Fr.app N0 N4q
  refine gt st4 ?_
  show Go p e below s QQ 0 0 (T4.setTop (mkF m 5 #[rv r0, iv p1] [(.double (FP.dsub (4607182418800017408 : UInt64) (FP.dmul dd (FP.i2d p1))))]))
  refine gs (fun t => XS.dconst0 X4.here hx rfl (v := (0 : UInt64)) (hb hby d3_5) (by first | rfl | decide +kernel)) ?_
  show Go p e below s QQ 0 0 (T4.setTop (mkF m 6 #[rv r0, iv p1] [(.double (0 : UInt64)), (.double (FP.dsub (4607182418800017408 : UInt64) (FP.dmul dd (FP.i2d p1))))]))
  refine gs (fun t => XS.dcmpS X4.here hx rfl (v := (1 : Int32)) (hb hby d3_6) rfl (by rw [hq]; rfl)) ?_
  show Go p e below s QQ 0 0 (T4.setTop (mkF m 7 #[rv r0, iv p1] [(.int (1 : Int32))]))
  refine gs (fun t => XS.ifNo X4.here hx rfl (hb hby d3_7) rfl ((if0 _ _).trans (tlt (by decide : (0 : Int32) < (1 : Int32))).2.2.2)) ?_
  show Go p e below s QQ 0 0 (T4.setTop (mkF m 10 #[rv r0, iv p1] []))
  refine gs (fun t => XS.iconst X4.here hx rfl (hb hby d3_10)) ?_
  show Go p e below s QQ 0 0 (T4.setTop (mkF m 11 #[rv r0, iv p1] [(.int (1 : Int32))]))
  refine gs (fun t => XS.goto X4.here hx rfl (pc0 := 11) (pc' := 15) rfl (hb hby d3_11) (by decide) (by decide)) ?_
  show Go p e below s QQ 0 0 (T4.setTop (mkF m 15 #[rv r0, iv p1] [(.int (1 : Int32))]))
  exact goB X4 hx Bd.notSynchronized Bd.returns (by simp) (w := (1 : Int32)) (by first | rfl | decide) (hb hby d3_15) (by rw [← hQQ, e4]; exact ⟨rfl, N0, rfl⟩) (by decide) (by decide)
def QrmSp0 (Z : State) (r0 : Addr) (p1 : Int32) (dd : UInt64) (h0 : Heap) (n0 : Nat) (v : Option Value) (h : Heap) (L : List Loc) : Prop := v = some (.int 0) ∧ Fr n0 L ∧ h = h0
set_option maxRecDepth 65536 in
set_option maxHeartbeats 40000000 in
theorem rmSp0 (l : Launch) (Z : State) (a0 : Array Value) (hw : ∀ d ∈ tables_1, d.before a0 Z = true) (ws : List Jvm.Cond) (r0 : Addr) (p1 : Int32) (dd : UInt64) (h0 : Heap) (n0 : Nat) (Z0 : n0 ≤ h0.size) (F_decay_r0 : Fld Z h0 r0 "com/example/seshat/seshat/DistanceConstraint" "decay" "D" (.double dd)) (E_r0 : Exa Z h0 r0 "com/example/seshat/seshat/DistanceConstraint") (hn1 : Jvm.Free.Fl.NoNaN64 (FP.dmul dd (FP.i2d p1))) (hn2 : Jvm.Free.Fl.NoNaN64 (FP.dsub (4607182418800017408 : UInt64) (FP.dmul dd (FP.i2d p1)))) (hq : ¬ FP.dcmp (FP.dsub (4607182418800017408 : UInt64) (FP.dmul dd (FP.i2d p1))) (0 : UInt64) = some .gt) :
    MetFree l (⟨"com/example/seshat/seshat/DistanceConstraint", "spreadsAt", "(I)Z"⟩ : MethodName) (head1 (Jvm.Cond.code (⟨"com/example/seshat/seshat/DistanceConstraint", "spreadsAt", "(I)Z"⟩ : MethodName) prog_6_method_2_code 2 (some .boolean) :: ws) ({ frames := 1, cells := 0, slots := 0, locals := 13 } : Room)) (fun a U => a = #[(.ref r0), (.int p1)] ∧ Z.Warmed39 U.vm ∧ U.heap = h0) (fun _ _ _ _ _ => True) (fun _ U o U' => ∃ v L, o = .returned v ∧ QrmSp0 Z r0 p1 dd h0 n0 v U'.heap L ∧ FrameEnd U o U' L ({ frames := 1, cells := 0, slots := 0, locals := 13 } : Room).cells ({ frames := 1, cells := 0, slots := 0, locals := 13 } : Room).slots) := by
  refine MetFree.of_bodySF (plainFor_of_name pn_3) hisR ?_
  intro p e s m args below meth c s₁ Bd hml0 hP hK
  obtain ⟨rfl, hZ, hh⟩ := hP
  have hx := Bd.exec
  have hby := Bd.bytes
  have hml : c.maxLocals = 2 := hml0
  have hown : s.vm.findClass "com/example/seshat/seshat/DistanceConstraint" = some m.cls := findClass_of_methodNamed Bd.named
  have hnm := (name_of_methodNamed Bd.named Bd.method).1
  have X0 : Stand p l e ({ frames := 1, cells := 0, slots := 0, locals := 13 } : Room) s m #[(.ref r0), (.int p1)] below meth c s₁ [] 0 0 := Stand.of_body Bd
  have e0 : s₁.heap = h0 := by rw [← hh, Bd.state]; rfl
  have N0 := Fr.nil n0
  have ZZ := Z0
  show Go p e below s (QrmSp0 Z r0 p1 dd h0 n0) 0 0 (s₁.setTop (entryFrame m #[(.ref r0), (.int p1)] 2))
  generalize hQQ : (QrmSp0 Z r0 p1 dd h0 n0) = QQ
  refine gs (fun t k => castTop (g' := (mkF m 0 #[rv r0, iv p1] [])) (by first | (simp [entryFrame, mkF, argsToLocals, Value.category, maxLocals]; done) | rfl) k) ?_
  show Go p e below s QQ 0 0 (s₁.setTop (mkF m 0 #[rv r0, iv p1] []))
  refine gs (fun t => XS.aloadN X0.here hx rfl (hb hby d3_0) rfl rfl) ?_
  show Go p e below s QQ 0 0 (s₁.setTop (mkF m 1 #[rv r0, iv p1] [(.ref r0)]))
  refine gs (fun t => XS.iloadN X0.here hx rfl (hb hby d3_1) rfl) ?_
  show Go p e below s QQ 0 0 (s₁.setTop (mkF m 2 #[rv r0, iv p1] [(.int p1), (.ref r0)]))
  obtain ⟨cq5, q5, q5'⟩ := E_r0.cell
  obtain ⟨_, _, ⟨T5, L5, k5, n5⟩, -, X5, ⟨Lc5, hQ5, l5, y5, z5⟩, st5⟩ := X0.privateBack hx (y := (⟨"com/example/seshat/seshat/DistanceConstraint", "factor", "(I)D"⟩ : MethodName)) hown (mvT hZ (hw _ (List.mem_of_getElem? (i := 17) rfl))) (mvT hZ (hw _ (List.mem_of_getElem? (i := 18) rfl))) (own_selP hown (mvT hZ (hw _ (List.mem_of_getElem? (i := 15) rfl)) (args := #[])) rfl (mvP hZ (hw _ (List.mem_of_getElem? (i := 19) rfl))) (mvT hZ (hw _ (List.mem_of_getElem? (i := 18) rfl))) (by decide)) (Cond.privateMethod_at (mvP hZ (hw _ (List.mem_of_getElem? (i := 19) rfl)) (args := #[]))) (mvT hZ (hw _ (List.mem_of_getElem? (i := 20) rfl))) (by decide) (backOf (W := 0) (rmFac l Z a0 hw [] r0 p1 dd h0 n0 ZZ F_decay_r0 hn1 hn2) hZ (hw _ (List.mem_of_getElem? (i := 20) rfl)) (hw _ (List.mem_of_getElem? (i := 3) rfl)) (by decide) (by decide)) (g := (mkF m 2 #[rv r0, iv p1] [(.int p1), (.ref r0)])) rfl (by rw [hml]; rfl) (Steps.refl _) (a := r0) (by rw [e0]; exact q5) q5' (argsL := [(.int p1)]) (rest := []) (lenOf pd_0 rfl) rfl (by show 2 * 0 + _ ≤ _; exact Nat.le_of_eq rfl) (hb hby d3_2) (fun _ _ => ⟨rfl, e0, (by decide : 0 + 0 ≤ _), (by decide : 0 + 0 ≤ _)⟩)
  dsimp only [Pt.U, Pt.locs, Pt.cells, Pt.slots] at X5 l5 y5 z5 st5 hQ5
  subst l5 y5 z5
  obtain ⟨rfl, N5q, e5⟩ := hQ5
  replace N0 := Fr.app N0 N5q
  refine gt st5 ?_
  show Go p e below s QQ 0 0 (T5.setTop (mkF m 5 #[rv r0, iv p1] [(.double (FP.dsub (4607182418800017408 : UInt64) (FP.dmul dd (FP.i2d p1))))]))
  refine gs (fun t => XS.dconst0 X5.here hx rfl (v := (0 : UInt64)) (hb hby d3_5) (by first | rfl | decide +kernel)) ?_
  show Go p e below s QQ 0 0 (T5.setTop (mkF m 6 #[rv r0, iv p1] [(.double (0 : UInt64)), (.double (FP.dsub (4607182418800017408 : UInt64) (FP.dmul dd (FP.i2d p1))))]))
  refine gs (fun t => XS.dcmpS X5.here hx rfl (v := (FP.cmpInt (-1) (FP.dcmp (FP.dsub (4607182418800017408 : UInt64) (FP.dmul dd (FP.i2d p1))) (0 : UInt64)))) (hb hby d3_6) rfl (cmpV_l _)) ?_
  show Go p e below s QQ 0 0 (T5.setTop (mkF m 7 #[rv r0, iv p1] [(.int (FP.cmpInt (-1) (FP.dcmp (FP.dsub (4607182418800017408 : UInt64) (FP.dmul dd (FP.i2d p1))) (0 : UInt64))))]))
  refine gs (fun t => XS.ifYes X5.here hx rfl (pc0 := 7) (pc' := 14) rfl (hb hby d3_7) rfl ((if0 _ _).trans (flt (fun q => hq ((FP.Core.cmpInt_l_gt _).mp q) : ¬ ((0 : Int32) < (FP.cmpInt (-1) (FP.dcmp (FP.dsub (4607182418800017408 : UInt64) (FP.dmul dd (FP.i2d p1))) (0 : UInt64)))))).2.2.2) (by decide) (by decide)) ?_
  show Go p e below s QQ 0 0 (T5.setTop (mkF m 14 #[rv r0, iv p1] []))
  refine gs (fun t => XS.iconst X5.here hx rfl (hb hby d3_14)) ?_
  show Go p e below s QQ 0 0 (T5.setTop (mkF m 15 #[rv r0, iv p1] [(.int (0 : Int32))]))
  exact goB X5 hx Bd.notSynchronized Bd.returns (by simp) (w := (0 : Int32)) (by first | rfl | decide) (hb hby d3_15) (by rw [← hQQ, e5]; exact ⟨rfl, N0, rfl⟩) (by decide) (by decide)
theorem pn_0 : plainName "com/example/seshat/seshat/DistanceConstraintSpreadsAtPinLaw" = true := by first | (simp [plainName, overriddenIn]; done) | decide +kernel
def Qrm0 (Z : State) (p0 : Int32) (p1 : Int32) (p2 : Int32) (p3 : Int32) (h0 : Heap) (n0 : Nat) (v : Option Value) (h : Heap) (L : List Loc) : Prop := v = some (.int 1) ∧ Fr n0 L
set_option maxRecDepth 65536 in
set_option maxHeartbeats 40000000 in
theorem rm0 (l : Launch) (Z : State) (a0 : Array Value) (hw : ∀ d ∈ tables_1, d.before a0 Z = true) (ws : List Jvm.Cond) (p0 : Int32) (p1 : Int32) (p2 : Int32) (p3 : Int32) (h0 : Heap) (n0 : Nat) (Z0 : n0 ≤ h0.size) :
    MetFree l x (head1 (Jvm.Cond.code x code maxLocals ret :: ws) room_1) (fun a U => a = #[(.int p0), (.int p1), (.int p2), (.int p3)] ∧ Z.Warmed39 U.vm ∧ U.heap = h0) (fun _ _ _ _ _ => True) (fun _ U o U' => ∃ v L, o = .returned v ∧ Qrm0 Z p0 p1 p2 p3 h0 n0 v U'.heap L ∧ FrameEnd U o U' L room_1.cells room_1.slots) := by
  refine MetFree.of_bodySF (plainFor_of_name pn_0) hisR ?_
  intro p e s m args below meth c s₁ Bd hml0 hP hK
  obtain ⟨rfl, hZ, hh⟩ := hP
  have hx := Bd.exec
  have hby := Bd.bytes
  have hml : c.maxLocals = 11 := hml0
  have hown : s.vm.findClass "com/example/seshat/seshat/DistanceConstraintSpreadsAtPinLaw" = some m.cls := findClass_of_methodNamed Bd.named
  have hnm := (name_of_methodNamed Bd.named Bd.method).1
  have X0 : Stand p l e room_1 s m #[(.int p0), (.int p1), (.int p2), (.int p3)] below meth c s₁ [] 0 0 := Stand.of_body Bd
  have e0 : s₁.heap = h0 := by rw [← hh, Bd.state]; rfl
  have N0 := Fr.nil n0
  have ZZ := Z0
  show Go p e below s (Qrm0 Z p0 p1 p2 p3 h0 n0) room_1.cells room_1.slots (s₁.setTop (entryFrame m #[(.int p0), (.int p1), (.int p2), (.int p3)] maxLocals))
  generalize hQQ : (Qrm0 Z p0 p1 p2 p3 h0 n0) = QQ
  refine gs (fun t k => castTop (g' := (mkF m 0 #[iv p0, iv p1, iv p2, iv p3, .unset, .unset, .unset, .unset, .unset, .unset, .unset] [])) (by first | (simp [entryFrame, mkF, argsToLocals, Value.category, maxLocals]; done) | rfl) k) ?_
  show Go p e below s QQ room_1.cells room_1.slots (s₁.setTop (mkF m 0 #[iv p0, iv p1, iv p2, iv p3, .unset, .unset, .unset, .unset, .unset, .unset, .unset] []))
  refine gs (fun t => XS.iloadN X0.here hx rfl (hb hby at_0) rfl) ?_
  show Go p e below s QQ room_1.cells room_1.slots (s₁.setTop (mkF m 1 #[iv p0, iv p1, iv p2, iv p3, .unset, .unset, .unset, .unset, .unset, .unset, .unset] [(.int p3)]))
  refine gs (fun t => XS.iconst X0.here hx rfl (hb hby at_1)) ?_
  show Go p e below s QQ room_1.cells room_1.slots (s₁.setTop (mkF m 2 #[iv p0, iv p1, iv p2, iv p3, .unset, .unset, .unset, .unset, .unset, .unset, .unset] [(.int (3 : Int32)), (.int p3)]))
  refine gs (fun t => XS.iand X0.here hx rfl (hb hby at_2) rfl) ?_
  show Go p e below s QQ room_1.cells room_1.slots (s₁.setTop (mkF m 3 #[iv p0, iv p1, iv p2, iv p3, .unset, .unset, .unset, .unset, .unset, .unset, .unset] [(.int (p3 &&& (3 : Int32)))]))
  by_cases hsel : (p3 &&& (3 : Int32)) = (0 : Int32)
  · skip
    refine gs (fun t => XS.ifNo X0.here hx rfl (hb hby at_3) rfl ((if0 _ _).trans (teq hsel).2)) ?_
    show Go p e below s QQ room_1.cells room_1.slots (s₁.setTop (mkF m 6 #[iv p0, iv p1, iv p2, iv p3, .unset, .unset, .unset, .unset, .unset, .unset, .unset] []))
    obtain ⟨T6, h6, X6, e6, E6, A6, D6, -, st6⟩ := newO X0 hx hZ hown (hw _ (List.mem_of_getElem? (i := 1) rfl)) (hw _ (List.mem_of_getElem? (i := 2) rfl)) (hw _ (List.mem_of_getElem? (i := 3) rfl)) e0 (g := (mkF m 6 #[iv p0, iv p1, iv p2, iv p3, .unset, .unset, .unset, .unset, .unset, .unset, .unset] [])) rfl (hb hby at_6) (by decide) (by decide)
    obtain ⟨b6, g6⟩ : ∃ z, z = h0.size := ⟨_, rfl⟩
    rw [← g6] at A6 D6 st6
    have ge_b6 : n0 ≤ b6 := by rw [g6]; exact ZZ
    refine gs st6 ?_
    show Go p e below s QQ room_1.cells room_1.slots (T6.setTop (mkF m 9 #[iv p0, iv p1, iv p2, iv p3, .unset, .unset, .unset, .unset, .unset, .unset, .unset] [(.ref b6)]))
    replace ZZ := Nat.le_trans ZZ E6.1
    have Ex_b6 := A6
    have F_decay_b6 : Fld Z h6 b6 "com/example/seshat/seshat/DistanceConstraint" "decay" "D" (.double (0 : UInt64)) := D6 (Or.inr (hw _ (List.mem_of_getElem? (i := 11) rfl))) (ty := .double) (by decide)
    refine gs (fun t => XS.dup X6.here hx rfl (hb hby at_9) rfl rfl) ?_
    show Go p e below s QQ room_1.cells room_1.slots (T6.setTop (mkF m 10 #[iv p0, iv p1, iv p2, iv p3, .unset, .unset, .unset, .unset, .unset, .unset, .unset] [(.ref b6), (.ref b6)]))
    refine gs (fun t => X6.ldc2DoubleC hx hown (mvT hZ (hw _ (List.mem_of_getElem? (i := 21) rfl))) (g := (mkF m 10 #[iv p0, iv p1, iv p2, iv p3, .unset, .unset, .unset, .unset, .unset, .unset, .unset] [(.ref b6), (.ref b6)])) rfl (hb hby at_10) t) ?_
    show Go p e below s QQ room_1.cells room_1.slots (T6.setTop (mkF m 13 #[iv p0, iv p1, iv p2, iv p3, .unset, .unset, .unset, .unset, .unset, .unset, .unset] [(.double (4599075939470750515 : UInt64)), (.ref b6), (.ref b6)]))
    obtain ⟨_, _, ⟨T7, L7, k7, n7⟩, -, X7, ⟨Lc7, hQ7, l7, y7, z7⟩, st7⟩ := X6.specialBack hx (y := (⟨"com/example/seshat/seshat/DistanceConstraint", "<init>", "(D)V"⟩ : MethodName)) rfl hown (mvT hZ (hw _ (List.mem_of_getElem? (i := 4) rfl))) (mvT hZ (hw _ (List.mem_of_getElem? (i := 5) rfl))) (mvT hZ (hw _ (List.mem_of_getElem? (i := 6) rfl))) (by decide) (backOf (W := 1) (rmIni l Z a0 hw [] b6 (4599075939470750515 : UInt64) h6 n0 ZZ F_decay_b6 Ex_b6 ge_b6 (by decide +kernel) (by decide +kernel)) hZ (hw _ (List.mem_of_getElem? (i := 6) rfl)) (hw _ (List.mem_of_getElem? (i := 3) rfl)) (by decide) (by decide)) (g := (mkF m 13 #[iv p0, iv p1, iv p2, iv p3, .unset, .unset, .unset, .unset, .unset, .unset, .unset] [(.double (4599075939470750515 : UInt64)), (.ref b6), (.ref b6)])) rfl (by rw [hml]; rfl) (Steps.refl _) (a := b6) (argsL := [(.double (4599075939470750515 : UInt64))]) (rest := [(.ref b6)]) (lenOf pd_1 rfl) rfl (by show 2 * 0 + _ ≤ _; exact Nat.le_of_eq rfl) (hb hby at_13) (fun _ _ => ⟨rfl, e6, (by decide : 1 + 0 ≤ _), (by decide : 1 + 0 ≤ _)⟩)
    dsimp only [Pt.U, Pt.locs, Pt.cells, Pt.slots] at X7 l7 y7 z7 st7 hQ7
    subst l7 y7 z7
    obtain ⟨rfl, N7q, K7, F7⟩ := hQ7
    replace N0 := Fr.app N0 N7q
    refine gt st7 ?_
    show Go p e below s QQ room_1.cells room_1.slots (T7.setTop (mkF m 16 #[iv p0, iv p1, iv p2, iv p3, .unset, .unset, .unset, .unset, .unset, .unset, .unset] [(.ref b6)]))
    replace Ex_b6 := Ex_b6.keep K7
    replace ZZ := Nat.le_trans ZZ K7.1
    refine gs (fun t => XS.astore X7.here hx rfl (hb hby at_16) rfl rfl (l' := #[iv p0, iv p1, iv p2, iv p3, rv b6, .unset, .unset, .unset, .unset, .unset, .unset]) rfl) ?_
    show Go p e below s QQ room_1.cells room_1.slots (T7.setTop (mkF m 18 #[iv p0, iv p1, iv p2, iv p3, rv b6, .unset, .unset, .unset, .unset, .unset, .unset] []))
    refine gs (fun t => XS.iloadN X7.here hx rfl (hb hby at_18) rfl) ?_
    show Go p e below s QQ room_1.cells room_1.slots (T7.setTop (mkF m 19 #[iv p0, iv p1, iv p2, iv p3, rv b6, .unset, .unset, .unset, .unset, .unset, .unset] [(.int p2)]))
    refine gs (fun t => XS.iconst X7.here hx rfl (hb hby at_19)) ?_
    show Go p e below s QQ room_1.cells room_1.slots (T7.setTop (mkF m 20 #[iv p0, iv p1, iv p2, iv p3, rv b6, .unset, .unset, .unset, .unset, .unset, .unset] [(.int (4 : Int32)), (.int p2)]))
    by_cases hp : p2 < (4 : Int32)
    · skip
      refine gs (fun t => XS.icmpNo X7.here hx rfl (hb hby at_20) rfl (tlt hp).2.1) ?_
      show Go p e below s QQ room_1.cells room_1.slots (T7.setTop (mkF m 23 #[iv p0, iv p1, iv p2, iv p3, rv b6, .unset, .unset, .unset, .unset, .unset, .unset] []))
      refine gs (fun t => XS.iconst X7.here hx rfl (hb hby at_23)) ?_
      show Go p e below s QQ room_1.cells room_1.slots (T7.setTop (mkF m 24 #[iv p0, iv p1, iv p2, iv p3, rv b6, .unset, .unset, .unset, .unset, .unset, .unset] [(.int (1 : Int32))]))
      refine gs (fun t => XS.goto X7.here hx rfl (pc0 := 24) (pc' := 28) rfl (hb hby at_24) (by decide) (by decide)) ?_
      show Go p e below s QQ room_1.cells room_1.slots (T7.setTop (mkF m 28 #[iv p0, iv p1, iv p2, iv p3, rv b6, .unset, .unset, .unset, .unset, .unset, .unset] [(.int (1 : Int32))]))
      refine gs (fun t => XS.istore X7.here hx rfl (hb hby at_28) rfl (l' := #[iv p0, iv p1, iv p2, iv p3, rv b6, iv 1, .unset, .unset, .unset, .unset, .unset]) rfl) ?_
      show Go p e below s QQ room_1.cells room_1.slots (T7.setTop (mkF m 30 #[iv p0, iv p1, iv p2, iv p3, rv b6, iv 1, .unset, .unset, .unset, .unset, .unset] []))
      refine gs (fun t => XS.aload X7.here hx rfl (hb hby at_30) rfl rfl) ?_
      show Go p e below s QQ room_1.cells room_1.slots (T7.setTop (mkF m 32 #[iv p0, iv p1, iv p2, iv p3, rv b6, iv 1, .unset, .unset, .unset, .unset, .unset] [(.ref b6)]))
      refine gs (fun t => XS.iloadN X7.here hx rfl (hb hby at_32) rfl) ?_
      show Go p e below s QQ room_1.cells room_1.slots (T7.setTop (mkF m 33 #[iv p0, iv p1, iv p2, iv p3, rv b6, iv 1, .unset, .unset, .unset, .unset, .unset] [(.int p2), (.ref b6)]))
      obtain ⟨cq8, kq8, q8a, q8b, q8c⟩ := isOf hZ rfl Ex_b6
      obtain ⟨_, _, ⟨T8, L8, k8, n8⟩, -, X8, ⟨Lc8, hQ8, l8, y8, z8⟩, st8⟩ := X7.virtualBack hx (y := (⟨"com/example/seshat/seshat/DistanceConstraint", "spreadsAt", "(I)Z"⟩ : MethodName)) (z := (⟨"com/example/seshat/seshat/DistanceConstraint", "spreadsAt", "(I)Z"⟩ : MethodName)) hown (mvT hZ (hw _ (List.mem_of_getElem? (i := 12) rfl))) (mvT hZ (hw _ (List.mem_of_getElem? (i := 13) rfl))) (notFace_of_selects (args := #[]) (mvT hZ (hw _ (List.mem_of_getElem? (i := 15) rfl)))) (mvT hZ (hw _ (List.mem_of_getElem? (i := 15) rfl))) (mvT hZ (hw _ (List.mem_of_getElem? (i := 14) rfl))) (by decide) (backOf (W := 0) (rmSp1 l Z a0 hw [] b6 p2 (4599075939470750515 : UInt64) T7.heap n0 ZZ F7 Ex_b6 (own_nn (FP.Core.own_p3n p2)) (own_nn (FP.Core.own_p3d p2)) ((FP.Core.own_p3iff p2).mpr hp)) hZ (hw _ (List.mem_of_getElem? (i := 16) rfl)) (hw _ (List.mem_of_getElem? (i := 3) rfl)) (by decide) (by decide)) q8a q8c (g := (mkF m 33 #[iv p0, iv p1, iv p2, iv p3, rv b6, iv 1, .unset, .unset, .unset, .unset, .unset] [(.int p2), (.ref b6)])) rfl (by rw [hml]; rfl) (Steps.refl _) (argsL := [(.int p2)]) (rest := []) (lenOf pd_2 rfl) rfl (by show 2 * 0 + _ ≤ _; exact Nat.le_of_eq rfl) (hb hby at_33) (fun _ _ => ⟨rfl, rfl, (by decide : 1 + 0 ≤ _), (by decide : 1 + 0 ≤ _)⟩)
      dsimp only [Pt.U, Pt.locs, Pt.cells, Pt.slots] at X8 l8 y8 z8 st8 hQ8
      subst l8 y8 z8
      obtain ⟨rfl, N8q, e8⟩ := hQ8
      replace N0 := Fr.app N0 N8q
      refine gt st8 ?_
      show Go p e below s QQ room_1.cells room_1.slots (T8.setTop (mkF m 36 #[iv p0, iv p1, iv p2, iv p3, rv b6, iv 1, .unset, .unset, .unset, .unset, .unset] [(.int (1 : Int32))]))
      refine gs (fun t => XS.iload X8.here hx rfl (hb hby at_36) rfl) ?_
      show Go p e below s QQ room_1.cells room_1.slots (T8.setTop (mkF m 38 #[iv p0, iv p1, iv p2, iv p3, rv b6, iv 1, .unset, .unset, .unset, .unset, .unset] [(.int (1 : Int32)), (.int (1 : Int32))]))
      refine gs (fun t => XS.icmpNo X8.here hx rfl (hb hby at_38) rfl (teq (by decide : (1 : Int32) = (1 : Int32))).2) ?_
      show Go p e below s QQ room_1.cells room_1.slots (T8.setTop (mkF m 41 #[iv p0, iv p1, iv p2, iv p3, rv b6, iv 1, .unset, .unset, .unset, .unset, .unset] []))
      refine gs (fun t => XS.iconst X8.here hx rfl (hb hby at_41)) ?_
      show Go p e below s QQ room_1.cells room_1.slots (T8.setTop (mkF m 42 #[iv p0, iv p1, iv p2, iv p3, rv b6, iv 1, .unset, .unset, .unset, .unset, .unset] [(.int (1 : Int32))]))
      refine gs (fun t => XS.goto X8.here hx rfl (pc0 := 42) (pc' := 46) rfl (hb hby at_42) (by decide) (by decide)) ?_
      show Go p e below s QQ room_1.cells room_1.slots (T8.setTop (mkF m 46 #[iv p0, iv p1, iv p2, iv p3, rv b6, iv 1, .unset, .unset, .unset, .unset, .unset] [(.int (1 : Int32))]))
      exact goB X8 hx Bd.notSynchronized Bd.returns (by simp) (w := (1 : Int32)) (by first | rfl | decide) (hb hby at_46) (by rw [← hQQ, e8]; exact ⟨rfl, N0⟩) (by decide) (by decide)
    · skip
      refine gs (fun t => XS.icmpYes X7.here hx rfl (pc0 := 20) (pc' := 27) rfl (hb hby at_20) rfl (flt hp).2.1 (by decide) (by decide)) ?_
      show Go p e below s QQ room_1.cells room_1.slots (T7.setTop (mkF m 27 #[iv p0, iv p1, iv p2, iv p3, rv b6, .unset, .unset, .unset, .unset, .unset, .unset] []))
      refine gs (fun t => XS.iconst X7.here hx rfl (hb hby at_27)) ?_
      show Go p e below s QQ room_1.cells room_1.slots (T7.setTop (mkF m 28 #[iv p0, iv p1, iv p2, iv p3, rv b6, .unset, .unset, .unset, .unset, .unset, .unset] [(.int (0 : Int32))]))
      refine gs (fun t => XS.istore X7.here hx rfl (hb hby at_28) rfl (l' := #[iv p0, iv p1, iv p2, iv p3, rv b6, iv 0, .unset, .unset, .unset, .unset, .unset]) rfl) ?_
      show Go p e below s QQ room_1.cells room_1.slots (T7.setTop (mkF m 30 #[iv p0, iv p1, iv p2, iv p3, rv b6, iv 0, .unset, .unset, .unset, .unset, .unset] []))
      refine gs (fun t => XS.aload X7.here hx rfl (hb hby at_30) rfl rfl) ?_
      show Go p e below s QQ room_1.cells room_1.slots (T7.setTop (mkF m 32 #[iv p0, iv p1, iv p2, iv p3, rv b6, iv 0, .unset, .unset, .unset, .unset, .unset] [(.ref b6)]))
      refine gs (fun t => XS.iloadN X7.here hx rfl (hb hby at_32) rfl) ?_
      show Go p e below s QQ room_1.cells room_1.slots (T7.setTop (mkF m 33 #[iv p0, iv p1, iv p2, iv p3, rv b6, iv 0, .unset, .unset, .unset, .unset, .unset] [(.int p2), (.ref b6)]))
      obtain ⟨cq9, kq9, q9a, q9b, q9c⟩ := isOf hZ rfl Ex_b6
      obtain ⟨_, _, ⟨T9, L9, k9, n9⟩, -, X9, ⟨Lc9, hQ9, l9, y9, z9⟩, st9⟩ := X7.virtualBack hx (y := (⟨"com/example/seshat/seshat/DistanceConstraint", "spreadsAt", "(I)Z"⟩ : MethodName)) (z := (⟨"com/example/seshat/seshat/DistanceConstraint", "spreadsAt", "(I)Z"⟩ : MethodName)) hown (mvT hZ (hw _ (List.mem_of_getElem? (i := 12) rfl))) (mvT hZ (hw _ (List.mem_of_getElem? (i := 13) rfl))) (notFace_of_selects (args := #[]) (mvT hZ (hw _ (List.mem_of_getElem? (i := 15) rfl)))) (mvT hZ (hw _ (List.mem_of_getElem? (i := 15) rfl))) (mvT hZ (hw _ (List.mem_of_getElem? (i := 14) rfl))) (by decide) (backOf (W := 0) (rmSp0 l Z a0 hw [] b6 p2 (4599075939470750515 : UInt64) T7.heap n0 ZZ F7 Ex_b6 (own_nn (FP.Core.own_p3n p2)) (own_nn (FP.Core.own_p3d p2)) (fun q => hp ((FP.Core.own_p3iff p2).mp q))) hZ (hw _ (List.mem_of_getElem? (i := 16) rfl)) (hw _ (List.mem_of_getElem? (i := 3) rfl)) (by decide) (by decide)) q9a q9c (g := (mkF m 33 #[iv p0, iv p1, iv p2, iv p3, rv b6, iv 0, .unset, .unset, .unset, .unset, .unset] [(.int p2), (.ref b6)])) rfl (by rw [hml]; rfl) (Steps.refl _) (argsL := [(.int p2)]) (rest := []) (lenOf pd_2 rfl) rfl (by show 2 * 0 + _ ≤ _; exact Nat.le_of_eq rfl) (hb hby at_33) (fun _ _ => ⟨rfl, rfl, (by decide : 1 + 0 ≤ _), (by decide : 1 + 0 ≤ _)⟩)
      dsimp only [Pt.U, Pt.locs, Pt.cells, Pt.slots] at X9 l9 y9 z9 st9 hQ9
      subst l9 y9 z9
      obtain ⟨rfl, N9q, e9⟩ := hQ9
      replace N0 := Fr.app N0 N9q
      refine gt st9 ?_
      show Go p e below s QQ room_1.cells room_1.slots (T9.setTop (mkF m 36 #[iv p0, iv p1, iv p2, iv p3, rv b6, iv 0, .unset, .unset, .unset, .unset, .unset] [(.int (0 : Int32))]))
      refine gs (fun t => XS.iload X9.here hx rfl (hb hby at_36) rfl) ?_
      show Go p e below s QQ room_1.cells room_1.slots (T9.setTop (mkF m 38 #[iv p0, iv p1, iv p2, iv p3, rv b6, iv 0, .unset, .unset, .unset, .unset, .unset] [(.int (0 : Int32)), (.int (0 : Int32))]))
      refine gs (fun t => XS.icmpNo X9.here hx rfl (hb hby at_38) rfl (teq (by decide : (0 : Int32) = (0 : Int32))).2) ?_
      show Go p e below s QQ room_1.cells room_1.slots (T9.setTop (mkF m 41 #[iv p0, iv p1, iv p2, iv p3, rv b6, iv 0, .unset, .unset, .unset, .unset, .unset] []))
      refine gs (fun t => XS.iconst X9.here hx rfl (hb hby at_41)) ?_
      show Go p e below s QQ room_1.cells room_1.slots (T9.setTop (mkF m 42 #[iv p0, iv p1, iv p2, iv p3, rv b6, iv 0, .unset, .unset, .unset, .unset, .unset] [(.int (1 : Int32))]))
      refine gs (fun t => XS.goto X9.here hx rfl (pc0 := 42) (pc' := 46) rfl (hb hby at_42) (by decide) (by decide)) ?_
      show Go p e below s QQ room_1.cells room_1.slots (T9.setTop (mkF m 46 #[iv p0, iv p1, iv p2, iv p3, rv b6, iv 0, .unset, .unset, .unset, .unset, .unset] [(.int (1 : Int32))]))
      exact goB X9 hx Bd.notSynchronized Bd.returns (by simp) (w := (1 : Int32)) (by first | rfl | decide) (hb hby at_46) (by rw [← hQQ, e9]; exact ⟨rfl, N0⟩) (by decide) (by decide)
  · skip
    refine gs (fun t => XS.ifYes X0.here hx rfl (pc0 := 3) (pc' := 47) rfl (hb hby at_3) rfl ((if0 _ _).trans (feq hsel).2) (by decide) (by decide)) ?_
    show Go p e below s QQ room_1.cells room_1.slots (s₁.setTop (mkF m 47 #[iv p0, iv p1, iv p2, iv p3, .unset, .unset, .unset, .unset, .unset, .unset, .unset] []))
    refine gs (fun t => XS.iconst X0.here hx rfl (hb hby at_47)) ?_
    show Go p e below s QQ room_1.cells room_1.slots (s₁.setTop (mkF m 48 #[iv p0, iv p1, iv p2, iv p3, .unset, .unset, .unset, .unset, .unset, .unset, .unset] [(.int (1 : Int32))]))
    refine gs (fun t => XS.iloadN X0.here hx rfl (hb hby at_48) rfl) ?_
    show Go p e below s QQ room_1.cells room_1.slots (s₁.setTop (mkF m 49 #[iv p0, iv p1, iv p2, iv p3, .unset, .unset, .unset, .unset, .unset, .unset, .unset] [(.int p0), (.int (1 : Int32))]))
    refine gs (fun t => X0.ldcInt hx hown (mvT hZ (hw _ (List.mem_of_getElem? (i := 0) rfl))) (g := (mkF m 49 #[iv p0, iv p1, iv p2, iv p3, .unset, .unset, .unset, .unset, .unset, .unset, .unset] [(.int p0), (.int (1 : Int32))])) rfl (hb hby at_49) t) ?_
    show Go p e below s QQ room_1.cells room_1.slots (s₁.setTop (mkF m 51 #[iv p0, iv p1, iv p2, iv p3, .unset, .unset, .unset, .unset, .unset, .unset, .unset] [(.int (2147483647 : Int32)), (.int p0), (.int (1 : Int32))]))
    refine gs (fun t => XS.iand X0.here hx rfl (hb hby at_51) rfl) ?_
    show Go p e below s QQ room_1.cells room_1.slots (s₁.setTop (mkF m 52 #[iv p0, iv p1, iv p2, iv p3, .unset, .unset, .unset, .unset, .unset, .unset, .unset] [(.int (p0 &&& (2147483647 : Int32))), (.int (1 : Int32))]))
    refine gs (fun t => XS.bipush X0.here hx rfl (hb hby at_52)) ?_
    show Go p e below s QQ room_1.cells room_1.slots (s₁.setTop (mkF m 54 #[iv p0, iv p1, iv p2, iv p3, .unset, .unset, .unset, .unset, .unset, .unset, .unset] [(.int (20 : Int32)), (.int (p0 &&& (2147483647 : Int32))), (.int (1 : Int32))]))
    refine gs (fun t => iremM X0 hx (g := (mkF m 54 #[iv p0, iv p1, iv p2, iv p3, .unset, .unset, .unset, .unset, .unset, .unset, .unset] [(.int (20 : Int32)), (.int (p0 &&& (2147483647 : Int32))), (.int (1 : Int32))])) rfl (hb hby at_54) rfl (by decide)) ?_
    show Go p e below s QQ room_1.cells room_1.slots (s₁.setTop (mkF m 55 #[iv p0, iv p1, iv p2, iv p3, .unset, .unset, .unset, .unset, .unset, .unset, .unset] [(.int ((p0 &&& (2147483647 : Int32)) % (20 : Int32))), (.int (1 : Int32))]))
    refine gs (fun t => XS.iadd X0.here hx rfl (hb hby at_55) rfl) ?_
    show Go p e below s QQ room_1.cells room_1.slots (s₁.setTop (mkF m 56 #[iv p0, iv p1, iv p2, iv p3, .unset, .unset, .unset, .unset, .unset, .unset, .unset] [(.int ((1 : Int32) + ((p0 &&& (2147483647 : Int32)) % (20 : Int32))))]))
    refine gs (fun t => XS.istore X0.here hx rfl (hb hby at_56) rfl (l' := #[iv p0, iv p1, iv p2, iv p3, iv ((1 : Int32) + ((p0 &&& (2147483647 : Int32)) % (20 : Int32))), .unset, .unset, .unset, .unset, .unset, .unset]) rfl) ?_
    show Go p e below s QQ room_1.cells room_1.slots (s₁.setTop (mkF m 58 #[iv p0, iv p1, iv p2, iv p3, iv ((1 : Int32) + ((p0 &&& (2147483647 : Int32)) % (20 : Int32))), .unset, .unset, .unset, .unset, .unset, .unset] []))
    refine gs (fun t => XS.iconst X0.here hx rfl (hb hby at_58)) ?_
    show Go p e below s QQ room_1.cells room_1.slots (s₁.setTop (mkF m 59 #[iv p0, iv p1, iv p2, iv p3, iv ((1 : Int32) + ((p0 &&& (2147483647 : Int32)) % (20 : Int32))), .unset, .unset, .unset, .unset, .unset, .unset] [(.int (1 : Int32))]))
    refine gs (fun t => XS.iload X0.here hx rfl (hb hby at_59) rfl) ?_
    show Go p e below s QQ room_1.cells room_1.slots (s₁.setTop (mkF m 61 #[iv p0, iv p1, iv p2, iv p3, iv ((1 : Int32) + ((p0 &&& (2147483647 : Int32)) % (20 : Int32))), .unset, .unset, .unset, .unset, .unset, .unset] [(.int ((1 : Int32) + ((p0 &&& (2147483647 : Int32)) % (20 : Int32)))), (.int (1 : Int32))]))
    refine gs (fun t => XS.ishl X0.here hx rfl (hb hby at_61) rfl) ?_
    show Go p e below s QQ room_1.cells room_1.slots (s₁.setTop (mkF m 62 #[iv p0, iv p1, iv p2, iv p3, iv ((1 : Int32) + ((p0 &&& (2147483647 : Int32)) % (20 : Int32))), .unset, .unset, .unset, .unset, .unset, .unset] [(.int ((1 : Int32) <<< (((1 : Int32) + ((p0 &&& (2147483647 : Int32)) % (20 : Int32))) &&& 31)))]))
    generalize hden : ((1 : Int32) <<< (((1 : Int32) + ((p0 &&& (2147483647 : Int32)) % (20 : Int32))) &&& 31)) = den
    show Go p e below s QQ room_1.cells room_1.slots (s₁.setTop (mkF m 62 #[iv p0, iv p1, iv p2, iv p3, iv ((1 : Int32) + ((p0 &&& (2147483647 : Int32)) % (20 : Int32))), .unset, .unset, .unset, .unset, .unset, .unset] [(.int den)]))
    obtain ⟨kq, hk2, hdk, hk3⟩ := own_den p0 hden
    refine gs (fun t => XS.istore X0.here hx rfl (hb hby at_62) rfl (l' := #[iv p0, iv p1, iv p2, iv p3, iv ((1 : Int32) + ((p0 &&& (2147483647 : Int32)) % (20 : Int32))), iv den, .unset, .unset, .unset, .unset, .unset]) rfl) ?_
    show Go p e below s QQ room_1.cells room_1.slots (s₁.setTop (mkF m 64 #[iv p0, iv p1, iv p2, iv p3, iv ((1 : Int32) + ((p0 &&& (2147483647 : Int32)) % (20 : Int32))), iv den, .unset, .unset, .unset, .unset, .unset] []))
    refine gs (fun t => XS.iconst X0.here hx rfl (hb hby at_64)) ?_
    show Go p e below s QQ room_1.cells room_1.slots (s₁.setTop (mkF m 65 #[iv p0, iv p1, iv p2, iv p3, iv ((1 : Int32) + ((p0 &&& (2147483647 : Int32)) % (20 : Int32))), iv den, .unset, .unset, .unset, .unset, .unset] [(.int (1 : Int32))]))
    refine gs (fun t => XS.iloadN X0.here hx rfl (hb hby at_65) rfl) ?_
    show Go p e below s QQ room_1.cells room_1.slots (s₁.setTop (mkF m 66 #[iv p0, iv p1, iv p2, iv p3, iv ((1 : Int32) + ((p0 &&& (2147483647 : Int32)) % (20 : Int32))), iv den, .unset, .unset, .unset, .unset, .unset] [(.int p1), (.int (1 : Int32))]))
    refine gs (fun t => X0.ldcInt hx hown (mvT hZ (hw _ (List.mem_of_getElem? (i := 0) rfl))) (g := (mkF m 66 #[iv p0, iv p1, iv p2, iv p3, iv ((1 : Int32) + ((p0 &&& (2147483647 : Int32)) % (20 : Int32))), iv den, .unset, .unset, .unset, .unset, .unset] [(.int p1), (.int (1 : Int32))])) rfl (hb hby at_66) t) ?_
    show Go p e below s QQ room_1.cells room_1.slots (s₁.setTop (mkF m 68 #[iv p0, iv p1, iv p2, iv p3, iv ((1 : Int32) + ((p0 &&& (2147483647 : Int32)) % (20 : Int32))), iv den, .unset, .unset, .unset, .unset, .unset] [(.int (2147483647 : Int32)), (.int p1), (.int (1 : Int32))]))
    refine gs (fun t => XS.iand X0.here hx rfl (hb hby at_68) rfl) ?_
    show Go p e below s QQ room_1.cells room_1.slots (s₁.setTop (mkF m 69 #[iv p0, iv p1, iv p2, iv p3, iv ((1 : Int32) + ((p0 &&& (2147483647 : Int32)) % (20 : Int32))), iv den, .unset, .unset, .unset, .unset, .unset] [(.int (p1 &&& (2147483647 : Int32))), (.int (1 : Int32))]))
    refine gs (fun t => XS.iload X0.here hx rfl (hb hby at_69) rfl) ?_
    show Go p e below s QQ room_1.cells room_1.slots (s₁.setTop (mkF m 71 #[iv p0, iv p1, iv p2, iv p3, iv ((1 : Int32) + ((p0 &&& (2147483647 : Int32)) % (20 : Int32))), iv den, .unset, .unset, .unset, .unset, .unset] [(.int den), (.int (p1 &&& (2147483647 : Int32))), (.int (1 : Int32))]))
    refine gs (fun t => XS.iconst X0.here hx rfl (hb hby at_71)) ?_
    show Go p e below s QQ room_1.cells room_1.slots (s₁.setTop (mkF m 72 #[iv p0, iv p1, iv p2, iv p3, iv ((1 : Int32) + ((p0 &&& (2147483647 : Int32)) % (20 : Int32))), iv den, .unset, .unset, .unset, .unset, .unset] [(.int (1 : Int32)), (.int den), (.int (p1 &&& (2147483647 : Int32))), (.int (1 : Int32))]))
    refine gs (fun t => XS.isub X0.here hx rfl (hb hby at_72) rfl) ?_
    show Go p e below s QQ room_1.cells room_1.slots (s₁.setTop (mkF m 73 #[iv p0, iv p1, iv p2, iv p3, iv ((1 : Int32) + ((p0 &&& (2147483647 : Int32)) % (20 : Int32))), iv den, .unset, .unset, .unset, .unset, .unset] [(.int (den - (1 : Int32))), (.int (p1 &&& (2147483647 : Int32))), (.int (1 : Int32))]))
    refine gs (fun t => iremM X0 hx (g := (mkF m 73 #[iv p0, iv p1, iv p2, iv p3, iv ((1 : Int32) + ((p0 &&& (2147483647 : Int32)) % (20 : Int32))), iv den, .unset, .unset, .unset, .unset, .unset] [(.int (den - (1 : Int32))), (.int (p1 &&& (2147483647 : Int32))), (.int (1 : Int32))])) rfl (hb hby at_73) rfl (own_d1 hdk hk3)) ?_
    show Go p e below s QQ room_1.cells room_1.slots (s₁.setTop (mkF m 74 #[iv p0, iv p1, iv p2, iv p3, iv ((1 : Int32) + ((p0 &&& (2147483647 : Int32)) % (20 : Int32))), iv den, .unset, .unset, .unset, .unset, .unset] [(.int ((p1 &&& (2147483647 : Int32)) % (den - (1 : Int32)))), (.int (1 : Int32))]))
    refine gs (fun t => XS.iadd X0.here hx rfl (hb hby at_74) rfl) ?_
    show Go p e below s QQ room_1.cells room_1.slots (s₁.setTop (mkF m 75 #[iv p0, iv p1, iv p2, iv p3, iv ((1 : Int32) + ((p0 &&& (2147483647 : Int32)) % (20 : Int32))), iv den, .unset, .unset, .unset, .unset, .unset] [(.int ((1 : Int32) + ((p1 &&& (2147483647 : Int32)) % (den - (1 : Int32)))))]))
    generalize hmm : ((1 : Int32) + ((p1 &&& (2147483647 : Int32)) % (den - (1 : Int32)))) = mm
    show Go p e below s QQ room_1.cells room_1.slots (s₁.setTop (mkF m 75 #[iv p0, iv p1, iv p2, iv p3, iv ((1 : Int32) + ((p0 &&& (2147483647 : Int32)) % (20 : Int32))), iv den, .unset, .unset, .unset, .unset, .unset] [(.int mm)]))
    obtain ⟨hm1, hm2⟩ := own_m p1 hdk hk3 hmm
    refine gs (fun t => XS.istore X0.here hx rfl (hb hby at_75) rfl (l' := #[iv p0, iv p1, iv p2, iv p3, iv ((1 : Int32) + ((p0 &&& (2147483647 : Int32)) % (20 : Int32))), iv den, iv mm, .unset, .unset, .unset, .unset]) rfl) ?_
    show Go p e below s QQ room_1.cells room_1.slots (s₁.setTop (mkF m 77 #[iv p0, iv p1, iv p2, iv p3, iv ((1 : Int32) + ((p0 &&& (2147483647 : Int32)) % (20 : Int32))), iv den, iv mm, .unset, .unset, .unset, .unset] []))
    refine gs (fun t => XS.iload X0.here hx rfl (hb hby at_77) rfl) ?_
    show Go p e below s QQ room_1.cells room_1.slots (s₁.setTop (mkF m 79 #[iv p0, iv p1, iv p2, iv p3, iv ((1 : Int32) + ((p0 &&& (2147483647 : Int32)) % (20 : Int32))), iv den, iv mm, .unset, .unset, .unset, .unset] [(.int mm)]))
    refine gs (fun t => XS.i2dS X0.here hx rfl (v := (FP.i2d mm)) (hb hby at_79) rfl rfl) ?_
    show Go p e below s QQ room_1.cells room_1.slots (s₁.setTop (mkF m 80 #[iv p0, iv p1, iv p2, iv p3, iv ((1 : Int32) + ((p0 &&& (2147483647 : Int32)) % (20 : Int32))), iv den, iv mm, .unset, .unset, .unset, .unset] [(.double (FP.i2d mm))]))
    refine gs (fun t => XS.iload X0.here hx rfl (hb hby at_80) rfl) ?_
    show Go p e below s QQ room_1.cells room_1.slots (s₁.setTop (mkF m 82 #[iv p0, iv p1, iv p2, iv p3, iv ((1 : Int32) + ((p0 &&& (2147483647 : Int32)) % (20 : Int32))), iv den, iv mm, .unset, .unset, .unset, .unset] [(.int den), (.double (FP.i2d mm))]))
    refine gs (fun t => XS.i2dS X0.here hx rfl (v := (FP.i2d den)) (hb hby at_82) rfl rfl) ?_
    show Go p e below s QQ room_1.cells room_1.slots (s₁.setTop (mkF m 83 #[iv p0, iv p1, iv p2, iv p3, iv ((1 : Int32) + ((p0 &&& (2147483647 : Int32)) % (20 : Int32))), iv den, iv mm, .unset, .unset, .unset, .unset] [(.double (FP.i2d den)), (.double (FP.i2d mm))]))
    have HA := FP.Core.own_dk (p := p2) hk2 hdk hm1 hm2
    have HB := FP.Core.own_dk1 hk2 hdk hm1 hm2
    refine gs (fun t => XS.ddivS X0.here hx rfl (v := (FP.ddiv (FP.i2d mm) (FP.i2d den))) (hb hby at_83) rfl (own_nn (FP.Core.own_frn HA.1)) rfl) ?_
    show Go p e below s QQ room_1.cells room_1.slots (s₁.setTop (mkF m 84 #[iv p0, iv p1, iv p2, iv p3, iv ((1 : Int32) + ((p0 &&& (2147483647 : Int32)) % (20 : Int32))), iv den, iv mm, .unset, .unset, .unset, .unset] [(.double (FP.ddiv (FP.i2d mm) (FP.i2d den)))]))
    refine gs (fun t => XS.dstore X0.here hx rfl (hb hby at_84) rfl (l' := #[iv p0, iv p1, iv p2, iv p3, iv ((1 : Int32) + ((p0 &&& (2147483647 : Int32)) % (20 : Int32))), iv den, iv mm, .val (.double (FP.ddiv (FP.i2d mm) (FP.i2d den))), .second, .unset, .unset]) rfl) ?_
    show Go p e below s QQ room_1.cells room_1.slots (s₁.setTop (mkF m 86 #[iv p0, iv p1, iv p2, iv p3, iv ((1 : Int32) + ((p0 &&& (2147483647 : Int32)) % (20 : Int32))), iv den, iv mm, .val (.double (FP.ddiv (FP.i2d mm) (FP.i2d den))), .second, .unset, .unset] []))
    obtain ⟨T10, h10, X10, e10, E10, A10, D10, -, st10⟩ := newO X0 hx hZ hown (hw _ (List.mem_of_getElem? (i := 1) rfl)) (hw _ (List.mem_of_getElem? (i := 2) rfl)) (hw _ (List.mem_of_getElem? (i := 3) rfl)) e0 (g := (mkF m 86 #[iv p0, iv p1, iv p2, iv p3, iv ((1 : Int32) + ((p0 &&& (2147483647 : Int32)) % (20 : Int32))), iv den, iv mm, .val (.double (FP.ddiv (FP.i2d mm) (FP.i2d den))), .second, .unset, .unset] [])) rfl (hb hby at_86) (by decide) (by decide)
    obtain ⟨b10, g10⟩ : ∃ z, z = h0.size := ⟨_, rfl⟩
    rw [← g10] at A10 D10 st10
    have ge_b10 : n0 ≤ b10 := by rw [g10]; exact ZZ
    refine gs st10 ?_
    show Go p e below s QQ room_1.cells room_1.slots (T10.setTop (mkF m 89 #[iv p0, iv p1, iv p2, iv p3, iv ((1 : Int32) + ((p0 &&& (2147483647 : Int32)) % (20 : Int32))), iv den, iv mm, .val (.double (FP.ddiv (FP.i2d mm) (FP.i2d den))), .second, .unset, .unset] [(.ref b10)]))
    replace ZZ := Nat.le_trans ZZ E10.1
    have Ex_b10 := A10
    have F_decay_b10 : Fld Z h10 b10 "com/example/seshat/seshat/DistanceConstraint" "decay" "D" (.double (0 : UInt64)) := D10 (Or.inr (hw _ (List.mem_of_getElem? (i := 11) rfl))) (ty := .double) (by decide)
    refine gs (fun t => XS.dup X10.here hx rfl (hb hby at_89) rfl rfl) ?_
    show Go p e below s QQ room_1.cells room_1.slots (T10.setTop (mkF m 90 #[iv p0, iv p1, iv p2, iv p3, iv ((1 : Int32) + ((p0 &&& (2147483647 : Int32)) % (20 : Int32))), iv den, iv mm, .val (.double (FP.ddiv (FP.i2d mm) (FP.i2d den))), .second, .unset, .unset] [(.ref b10), (.ref b10)]))
    refine gs (fun t => XS.dload X10.here hx rfl (hb hby at_90) rfl) ?_
    show Go p e below s QQ room_1.cells room_1.slots (T10.setTop (mkF m 92 #[iv p0, iv p1, iv p2, iv p3, iv ((1 : Int32) + ((p0 &&& (2147483647 : Int32)) % (20 : Int32))), iv den, iv mm, .val (.double (FP.ddiv (FP.i2d mm) (FP.i2d den))), .second, .unset, .unset] [(.double (FP.ddiv (FP.i2d mm) (FP.i2d den))), (.ref b10), (.ref b10)]))
    obtain ⟨_, _, ⟨T11, L11, k11, n11⟩, -, X11, ⟨Lc11, hQ11, l11, y11, z11⟩, st11⟩ := X10.specialBack hx (y := (⟨"com/example/seshat/seshat/DistanceConstraint", "<init>", "(D)V"⟩ : MethodName)) rfl hown (mvT hZ (hw _ (List.mem_of_getElem? (i := 4) rfl))) (mvT hZ (hw _ (List.mem_of_getElem? (i := 5) rfl))) (mvT hZ (hw _ (List.mem_of_getElem? (i := 6) rfl))) (by decide) (backOf (W := 1) (rmIni l Z a0 hw [] b10 (FP.ddiv (FP.i2d mm) (FP.i2d den)) h10 n0 ZZ F_decay_b10 Ex_b10 ge_b10 HB.1 HB.2) hZ (hw _ (List.mem_of_getElem? (i := 6) rfl)) (hw _ (List.mem_of_getElem? (i := 3) rfl)) (by decide) (by decide)) (g := (mkF m 92 #[iv p0, iv p1, iv p2, iv p3, iv ((1 : Int32) + ((p0 &&& (2147483647 : Int32)) % (20 : Int32))), iv den, iv mm, .val (.double (FP.ddiv (FP.i2d mm) (FP.i2d den))), .second, .unset, .unset] [(.double (FP.ddiv (FP.i2d mm) (FP.i2d den))), (.ref b10), (.ref b10)])) rfl (by rw [hml]; rfl) (Steps.refl _) (a := b10) (argsL := [(.double (FP.ddiv (FP.i2d mm) (FP.i2d den)))]) (rest := [(.ref b10)]) (lenOf pd_1 rfl) rfl (by show 2 * 0 + _ ≤ _; exact Nat.le_of_eq rfl) (hb hby at_92) (fun _ _ => ⟨rfl, e10, (by decide : 1 + 0 ≤ _), (by decide : 1 + 0 ≤ _)⟩)
    dsimp only [Pt.U, Pt.locs, Pt.cells, Pt.slots] at X11 l11 y11 z11 st11 hQ11
    subst l11 y11 z11
    obtain ⟨rfl, N11q, K11, F11⟩ := hQ11
    replace N0 := Fr.app N0 N11q
    refine gt st11 ?_
    show Go p e below s QQ room_1.cells room_1.slots (T11.setTop (mkF m 95 #[iv p0, iv p1, iv p2, iv p3, iv ((1 : Int32) + ((p0 &&& (2147483647 : Int32)) % (20 : Int32))), iv den, iv mm, .val (.double (FP.ddiv (FP.i2d mm) (FP.i2d den))), .second, .unset, .unset] [(.ref b10)]))
    replace Ex_b10 := Ex_b10.keep K11
    replace ZZ := Nat.le_trans ZZ K11.1
    refine gs (fun t => XS.astore X11.here hx rfl (hb hby at_95) rfl rfl (l' := #[iv p0, iv p1, iv p2, iv p3, iv ((1 : Int32) + ((p0 &&& (2147483647 : Int32)) % (20 : Int32))), iv den, iv mm, .val (.double (FP.ddiv (FP.i2d mm) (FP.i2d den))), .second, rv b10, .unset]) rfl) ?_
    show Go p e below s QQ room_1.cells room_1.slots (T11.setTop (mkF m 97 #[iv p0, iv p1, iv p2, iv p3, iv ((1 : Int32) + ((p0 &&& (2147483647 : Int32)) % (20 : Int32))), iv den, iv mm, .val (.double (FP.ddiv (FP.i2d mm) (FP.i2d den))), .second, rv b10, .unset] []))
    refine gs (fun t => XS.iload X11.here hx rfl (hb hby at_97) rfl) ?_
    show Go p e below s QQ room_1.cells room_1.slots (T11.setTop (mkF m 99 #[iv p0, iv p1, iv p2, iv p3, iv ((1 : Int32) + ((p0 &&& (2147483647 : Int32)) % (20 : Int32))), iv den, iv mm, .val (.double (FP.ddiv (FP.i2d mm) (FP.i2d den))), .second, rv b10, .unset] [(.int mm)]))
    refine gs (fun t => XS.i2l X11.here hx rfl (hb hby at_99) rfl) ?_
    show Go p e below s QQ room_1.cells room_1.slots (T11.setTop (mkF m 100 #[iv p0, iv p1, iv p2, iv p3, iv ((1 : Int32) + ((p0 &&& (2147483647 : Int32)) % (20 : Int32))), iv den, iv mm, .val (.double (FP.ddiv (FP.i2d mm) (FP.i2d den))), .second, rv b10, .unset] [(.long (mm.toInt64))]))
    refine gs (fun t => XS.iloadN X11.here hx rfl (hb hby at_100) rfl) ?_
    show Go p e below s QQ room_1.cells room_1.slots (T11.setTop (mkF m 101 #[iv p0, iv p1, iv p2, iv p3, iv ((1 : Int32) + ((p0 &&& (2147483647 : Int32)) % (20 : Int32))), iv den, iv mm, .val (.double (FP.ddiv (FP.i2d mm) (FP.i2d den))), .second, rv b10, .unset] [(.int p2), (.long (mm.toInt64))]))
    refine gs (fun t => XS.i2l X11.here hx rfl (hb hby at_101) rfl) ?_
    show Go p e below s QQ room_1.cells room_1.slots (T11.setTop (mkF m 102 #[iv p0, iv p1, iv p2, iv p3, iv ((1 : Int32) + ((p0 &&& (2147483647 : Int32)) % (20 : Int32))), iv den, iv mm, .val (.double (FP.ddiv (FP.i2d mm) (FP.i2d den))), .second, rv b10, .unset] [(.long (p2.toInt64)), (.long (mm.toInt64))]))
    refine gs (fun t => XS.lmul X11.here hx rfl (hb hby at_102) rfl) ?_
    show Go p e below s QQ room_1.cells room_1.slots (T11.setTop (mkF m 103 #[iv p0, iv p1, iv p2, iv p3, iv ((1 : Int32) + ((p0 &&& (2147483647 : Int32)) % (20 : Int32))), iv den, iv mm, .val (.double (FP.ddiv (FP.i2d mm) (FP.i2d den))), .second, rv b10, .unset] [(.long ((mm.toInt64) * (p2.toInt64)))]))
    refine gs (fun t => XS.iload X11.here hx rfl (hb hby at_103) rfl) ?_
    show Go p e below s QQ room_1.cells room_1.slots (T11.setTop (mkF m 105 #[iv p0, iv p1, iv p2, iv p3, iv ((1 : Int32) + ((p0 &&& (2147483647 : Int32)) % (20 : Int32))), iv den, iv mm, .val (.double (FP.ddiv (FP.i2d mm) (FP.i2d den))), .second, rv b10, .unset] [(.int den), (.long ((mm.toInt64) * (p2.toInt64)))]))
    refine gs (fun t => XS.i2l X11.here hx rfl (hb hby at_105) rfl) ?_
    show Go p e below s QQ room_1.cells room_1.slots (T11.setTop (mkF m 106 #[iv p0, iv p1, iv p2, iv p3, iv ((1 : Int32) + ((p0 &&& (2147483647 : Int32)) % (20 : Int32))), iv den, iv mm, .val (.double (FP.ddiv (FP.i2d mm) (FP.i2d den))), .second, rv b10, .unset] [(.long (den.toInt64)), (.long ((mm.toInt64) * (p2.toInt64)))]))
    refine gs (fun t => XS.lcmp X11.here hx rfl (hb hby at_106) rfl) ?_
    show Go p e below s QQ room_1.cells room_1.slots (T11.setTop (mkF m 107 #[iv p0, iv p1, iv p2, iv p3, iv ((1 : Int32) + ((p0 &&& (2147483647 : Int32)) % (20 : Int32))), iv den, iv mm, .val (.double (FP.ddiv (FP.i2d mm) (FP.i2d den))), .second, rv b10, .unset] [(.int (lcmpW ((mm.toInt64) * (p2.toInt64)) (den.toInt64)))]))
    by_cases hp : (lcmpW ((mm.toInt64) * (p2.toInt64)) (den.toInt64)) < (0 : Int32)
    · skip
      refine gs (fun t => XS.ifNo X11.here hx rfl (hb hby at_107) rfl ((if0 _ _).trans (tlt hp).2.1)) ?_
      show Go p e below s QQ room_1.cells room_1.slots (T11.setTop (mkF m 110 #[iv p0, iv p1, iv p2, iv p3, iv ((1 : Int32) + ((p0 &&& (2147483647 : Int32)) % (20 : Int32))), iv den, iv mm, .val (.double (FP.ddiv (FP.i2d mm) (FP.i2d den))), .second, rv b10, .unset] []))
      refine gs (fun t => XS.iconst X11.here hx rfl (hb hby at_110)) ?_
      show Go p e below s QQ room_1.cells room_1.slots (T11.setTop (mkF m 111 #[iv p0, iv p1, iv p2, iv p3, iv ((1 : Int32) + ((p0 &&& (2147483647 : Int32)) % (20 : Int32))), iv den, iv mm, .val (.double (FP.ddiv (FP.i2d mm) (FP.i2d den))), .second, rv b10, .unset] [(.int (1 : Int32))]))
      refine gs (fun t => XS.goto X11.here hx rfl (pc0 := 111) (pc' := 115) rfl (hb hby at_111) (by decide) (by decide)) ?_
      show Go p e below s QQ room_1.cells room_1.slots (T11.setTop (mkF m 115 #[iv p0, iv p1, iv p2, iv p3, iv ((1 : Int32) + ((p0 &&& (2147483647 : Int32)) % (20 : Int32))), iv den, iv mm, .val (.double (FP.ddiv (FP.i2d mm) (FP.i2d den))), .second, rv b10, .unset] [(.int (1 : Int32))]))
      refine gs (fun t => XS.istore X11.here hx rfl (hb hby at_115) rfl (l' := #[iv p0, iv p1, iv p2, iv p3, iv ((1 : Int32) + ((p0 &&& (2147483647 : Int32)) % (20 : Int32))), iv den, iv mm, .val (.double (FP.ddiv (FP.i2d mm) (FP.i2d den))), .second, rv b10, iv 1]) rfl) ?_
      show Go p e below s QQ room_1.cells room_1.slots (T11.setTop (mkF m 117 #[iv p0, iv p1, iv p2, iv p3, iv ((1 : Int32) + ((p0 &&& (2147483647 : Int32)) % (20 : Int32))), iv den, iv mm, .val (.double (FP.ddiv (FP.i2d mm) (FP.i2d den))), .second, rv b10, iv 1] []))
      refine gs (fun t => XS.aload X11.here hx rfl (hb hby at_117) rfl rfl) ?_
      show Go p e below s QQ room_1.cells room_1.slots (T11.setTop (mkF m 119 #[iv p0, iv p1, iv p2, iv p3, iv ((1 : Int32) + ((p0 &&& (2147483647 : Int32)) % (20 : Int32))), iv den, iv mm, .val (.double (FP.ddiv (FP.i2d mm) (FP.i2d den))), .second, rv b10, iv 1] [(.ref b10)]))
      refine gs (fun t => XS.iloadN X11.here hx rfl (hb hby at_119) rfl) ?_
      show Go p e below s QQ room_1.cells room_1.slots (T11.setTop (mkF m 120 #[iv p0, iv p1, iv p2, iv p3, iv ((1 : Int32) + ((p0 &&& (2147483647 : Int32)) % (20 : Int32))), iv den, iv mm, .val (.double (FP.ddiv (FP.i2d mm) (FP.i2d den))), .second, rv b10, iv 1] [(.int p2), (.ref b10)]))
      obtain ⟨cq12, kq12, q12a, q12b, q12c⟩ := isOf hZ rfl Ex_b10
      obtain ⟨_, _, ⟨T12, L12, k12, n12⟩, -, X12, ⟨Lc12, hQ12, l12, y12, z12⟩, st12⟩ := X11.virtualBack hx (y := (⟨"com/example/seshat/seshat/DistanceConstraint", "spreadsAt", "(I)Z"⟩ : MethodName)) (z := (⟨"com/example/seshat/seshat/DistanceConstraint", "spreadsAt", "(I)Z"⟩ : MethodName)) hown (mvT hZ (hw _ (List.mem_of_getElem? (i := 12) rfl))) (mvT hZ (hw _ (List.mem_of_getElem? (i := 13) rfl))) (notFace_of_selects (args := #[]) (mvT hZ (hw _ (List.mem_of_getElem? (i := 15) rfl)))) (mvT hZ (hw _ (List.mem_of_getElem? (i := 15) rfl))) (mvT hZ (hw _ (List.mem_of_getElem? (i := 14) rfl))) (by decide) (backOf (W := 0) (rmSp1 l Z a0 hw [] b10 p2 (FP.ddiv (FP.i2d mm) (FP.i2d den)) T11.heap n0 ZZ F11 Ex_b10 (own_nn (FP.Core.own_frn HA.2.1)) (own_nn (FP.Core.own_frn HA.2.2)) ((FP.Core.own_dk2 hk2 hdk hm1 hm2).mpr ((own_mp hm1 hm2 hdk hk2).mp hp))) hZ (hw _ (List.mem_of_getElem? (i := 16) rfl)) (hw _ (List.mem_of_getElem? (i := 3) rfl)) (by decide) (by decide)) q12a q12c (g := (mkF m 120 #[iv p0, iv p1, iv p2, iv p3, iv ((1 : Int32) + ((p0 &&& (2147483647 : Int32)) % (20 : Int32))), iv den, iv mm, .val (.double (FP.ddiv (FP.i2d mm) (FP.i2d den))), .second, rv b10, iv 1] [(.int p2), (.ref b10)])) rfl (by rw [hml]; rfl) (Steps.refl _) (argsL := [(.int p2)]) (rest := []) (lenOf pd_2 rfl) rfl (by show 2 * 0 + _ ≤ _; exact Nat.le_of_eq rfl) (hb hby at_120) (fun _ _ => ⟨rfl, rfl, (by decide : 1 + 0 ≤ _), (by decide : 1 + 0 ≤ _)⟩)
      dsimp only [Pt.U, Pt.locs, Pt.cells, Pt.slots] at X12 l12 y12 z12 st12 hQ12
      subst l12 y12 z12
      obtain ⟨rfl, N12q, e12⟩ := hQ12
      replace N0 := Fr.app N0 N12q
      refine gt st12 ?_
      show Go p e below s QQ room_1.cells room_1.slots (T12.setTop (mkF m 123 #[iv p0, iv p1, iv p2, iv p3, iv ((1 : Int32) + ((p0 &&& (2147483647 : Int32)) % (20 : Int32))), iv den, iv mm, .val (.double (FP.ddiv (FP.i2d mm) (FP.i2d den))), .second, rv b10, iv 1] [(.int (1 : Int32))]))
      refine gs (fun t => XS.iload X12.here hx rfl (hb hby at_123) rfl) ?_
      show Go p e below s QQ room_1.cells room_1.slots (T12.setTop (mkF m 125 #[iv p0, iv p1, iv p2, iv p3, iv ((1 : Int32) + ((p0 &&& (2147483647 : Int32)) % (20 : Int32))), iv den, iv mm, .val (.double (FP.ddiv (FP.i2d mm) (FP.i2d den))), .second, rv b10, iv 1] [(.int (1 : Int32)), (.int (1 : Int32))]))
      refine gs (fun t => XS.icmpNo X12.here hx rfl (hb hby at_125) rfl (teq (by decide : (1 : Int32) = (1 : Int32))).2) ?_
      show Go p e below s QQ room_1.cells room_1.slots (T12.setTop (mkF m 128 #[iv p0, iv p1, iv p2, iv p3, iv ((1 : Int32) + ((p0 &&& (2147483647 : Int32)) % (20 : Int32))), iv den, iv mm, .val (.double (FP.ddiv (FP.i2d mm) (FP.i2d den))), .second, rv b10, iv 1] []))
      refine gs (fun t => XS.iconst X12.here hx rfl (hb hby at_128)) ?_
      show Go p e below s QQ room_1.cells room_1.slots (T12.setTop (mkF m 129 #[iv p0, iv p1, iv p2, iv p3, iv ((1 : Int32) + ((p0 &&& (2147483647 : Int32)) % (20 : Int32))), iv den, iv mm, .val (.double (FP.ddiv (FP.i2d mm) (FP.i2d den))), .second, rv b10, iv 1] [(.int (1 : Int32))]))
      refine gs (fun t => XS.goto X12.here hx rfl (pc0 := 129) (pc' := 133) rfl (hb hby at_129) (by decide) (by decide)) ?_
      show Go p e below s QQ room_1.cells room_1.slots (T12.setTop (mkF m 133 #[iv p0, iv p1, iv p2, iv p3, iv ((1 : Int32) + ((p0 &&& (2147483647 : Int32)) % (20 : Int32))), iv den, iv mm, .val (.double (FP.ddiv (FP.i2d mm) (FP.i2d den))), .second, rv b10, iv 1] [(.int (1 : Int32))]))
      exact goB X12 hx Bd.notSynchronized Bd.returns (by simp) (w := (1 : Int32)) (by first | rfl | decide) (hb hby at_133) (by rw [← hQQ, e12]; exact ⟨rfl, N0⟩) (by decide) (by decide)
    · skip
      refine gs (fun t => XS.ifYes X11.here hx rfl (pc0 := 107) (pc' := 114) rfl (hb hby at_107) rfl ((if0 _ _).trans (flt hp).2.1) (by decide) (by decide)) ?_
      show Go p e below s QQ room_1.cells room_1.slots (T11.setTop (mkF m 114 #[iv p0, iv p1, iv p2, iv p3, iv ((1 : Int32) + ((p0 &&& (2147483647 : Int32)) % (20 : Int32))), iv den, iv mm, .val (.double (FP.ddiv (FP.i2d mm) (FP.i2d den))), .second, rv b10, .unset] []))
      refine gs (fun t => XS.iconst X11.here hx rfl (hb hby at_114)) ?_
      show Go p e below s QQ room_1.cells room_1.slots (T11.setTop (mkF m 115 #[iv p0, iv p1, iv p2, iv p3, iv ((1 : Int32) + ((p0 &&& (2147483647 : Int32)) % (20 : Int32))), iv den, iv mm, .val (.double (FP.ddiv (FP.i2d mm) (FP.i2d den))), .second, rv b10, .unset] [(.int (0 : Int32))]))
      refine gs (fun t => XS.istore X11.here hx rfl (hb hby at_115) rfl (l' := #[iv p0, iv p1, iv p2, iv p3, iv ((1 : Int32) + ((p0 &&& (2147483647 : Int32)) % (20 : Int32))), iv den, iv mm, .val (.double (FP.ddiv (FP.i2d mm) (FP.i2d den))), .second, rv b10, iv 0]) rfl) ?_
      show Go p e below s QQ room_1.cells room_1.slots (T11.setTop (mkF m 117 #[iv p0, iv p1, iv p2, iv p3, iv ((1 : Int32) + ((p0 &&& (2147483647 : Int32)) % (20 : Int32))), iv den, iv mm, .val (.double (FP.ddiv (FP.i2d mm) (FP.i2d den))), .second, rv b10, iv 0] []))
      refine gs (fun t => XS.aload X11.here hx rfl (hb hby at_117) rfl rfl) ?_
      show Go p e below s QQ room_1.cells room_1.slots (T11.setTop (mkF m 119 #[iv p0, iv p1, iv p2, iv p3, iv ((1 : Int32) + ((p0 &&& (2147483647 : Int32)) % (20 : Int32))), iv den, iv mm, .val (.double (FP.ddiv (FP.i2d mm) (FP.i2d den))), .second, rv b10, iv 0] [(.ref b10)]))
      refine gs (fun t => XS.iloadN X11.here hx rfl (hb hby at_119) rfl) ?_
      show Go p e below s QQ room_1.cells room_1.slots (T11.setTop (mkF m 120 #[iv p0, iv p1, iv p2, iv p3, iv ((1 : Int32) + ((p0 &&& (2147483647 : Int32)) % (20 : Int32))), iv den, iv mm, .val (.double (FP.ddiv (FP.i2d mm) (FP.i2d den))), .second, rv b10, iv 0] [(.int p2), (.ref b10)]))
      obtain ⟨cq13, kq13, q13a, q13b, q13c⟩ := isOf hZ rfl Ex_b10
      obtain ⟨_, _, ⟨T13, L13, k13, n13⟩, -, X13, ⟨Lc13, hQ13, l13, y13, z13⟩, st13⟩ := X11.virtualBack hx (y := (⟨"com/example/seshat/seshat/DistanceConstraint", "spreadsAt", "(I)Z"⟩ : MethodName)) (z := (⟨"com/example/seshat/seshat/DistanceConstraint", "spreadsAt", "(I)Z"⟩ : MethodName)) hown (mvT hZ (hw _ (List.mem_of_getElem? (i := 12) rfl))) (mvT hZ (hw _ (List.mem_of_getElem? (i := 13) rfl))) (notFace_of_selects (args := #[]) (mvT hZ (hw _ (List.mem_of_getElem? (i := 15) rfl)))) (mvT hZ (hw _ (List.mem_of_getElem? (i := 15) rfl))) (mvT hZ (hw _ (List.mem_of_getElem? (i := 14) rfl))) (by decide) (backOf (W := 0) (rmSp0 l Z a0 hw [] b10 p2 (FP.ddiv (FP.i2d mm) (FP.i2d den)) T11.heap n0 ZZ F11 Ex_b10 (own_nn (FP.Core.own_frn HA.2.1)) (own_nn (FP.Core.own_frn HA.2.2)) (fun q => hp ((own_mp hm1 hm2 hdk hk2).mpr ((FP.Core.own_dk2 hk2 hdk hm1 hm2).mp q)))) hZ (hw _ (List.mem_of_getElem? (i := 16) rfl)) (hw _ (List.mem_of_getElem? (i := 3) rfl)) (by decide) (by decide)) q13a q13c (g := (mkF m 120 #[iv p0, iv p1, iv p2, iv p3, iv ((1 : Int32) + ((p0 &&& (2147483647 : Int32)) % (20 : Int32))), iv den, iv mm, .val (.double (FP.ddiv (FP.i2d mm) (FP.i2d den))), .second, rv b10, iv 0] [(.int p2), (.ref b10)])) rfl (by rw [hml]; rfl) (Steps.refl _) (argsL := [(.int p2)]) (rest := []) (lenOf pd_2 rfl) rfl (by show 2 * 0 + _ ≤ _; exact Nat.le_of_eq rfl) (hb hby at_120) (fun _ _ => ⟨rfl, rfl, (by decide : 1 + 0 ≤ _), (by decide : 1 + 0 ≤ _)⟩)
      dsimp only [Pt.U, Pt.locs, Pt.cells, Pt.slots] at X13 l13 y13 z13 st13 hQ13
      subst l13 y13 z13
      obtain ⟨rfl, N13q, e13⟩ := hQ13
      replace N0 := Fr.app N0 N13q
      refine gt st13 ?_
      show Go p e below s QQ room_1.cells room_1.slots (T13.setTop (mkF m 123 #[iv p0, iv p1, iv p2, iv p3, iv ((1 : Int32) + ((p0 &&& (2147483647 : Int32)) % (20 : Int32))), iv den, iv mm, .val (.double (FP.ddiv (FP.i2d mm) (FP.i2d den))), .second, rv b10, iv 0] [(.int (0 : Int32))]))
      refine gs (fun t => XS.iload X13.here hx rfl (hb hby at_123) rfl) ?_
      show Go p e below s QQ room_1.cells room_1.slots (T13.setTop (mkF m 125 #[iv p0, iv p1, iv p2, iv p3, iv ((1 : Int32) + ((p0 &&& (2147483647 : Int32)) % (20 : Int32))), iv den, iv mm, .val (.double (FP.ddiv (FP.i2d mm) (FP.i2d den))), .second, rv b10, iv 0] [(.int (0 : Int32)), (.int (0 : Int32))]))
      refine gs (fun t => XS.icmpNo X13.here hx rfl (hb hby at_125) rfl (teq (by decide : (0 : Int32) = (0 : Int32))).2) ?_
      show Go p e below s QQ room_1.cells room_1.slots (T13.setTop (mkF m 128 #[iv p0, iv p1, iv p2, iv p3, iv ((1 : Int32) + ((p0 &&& (2147483647 : Int32)) % (20 : Int32))), iv den, iv mm, .val (.double (FP.ddiv (FP.i2d mm) (FP.i2d den))), .second, rv b10, iv 0] []))
      refine gs (fun t => XS.iconst X13.here hx rfl (hb hby at_128)) ?_
      show Go p e below s QQ room_1.cells room_1.slots (T13.setTop (mkF m 129 #[iv p0, iv p1, iv p2, iv p3, iv ((1 : Int32) + ((p0 &&& (2147483647 : Int32)) % (20 : Int32))), iv den, iv mm, .val (.double (FP.ddiv (FP.i2d mm) (FP.i2d den))), .second, rv b10, iv 0] [(.int (1 : Int32))]))
      refine gs (fun t => XS.goto X13.here hx rfl (pc0 := 129) (pc' := 133) rfl (hb hby at_129) (by decide) (by decide)) ?_
      show Go p e below s QQ room_1.cells room_1.slots (T13.setTop (mkF m 133 #[iv p0, iv p1, iv p2, iv p3, iv ((1 : Int32) + ((p0 &&& (2147483647 : Int32)) % (20 : Int32))), iv den, iv mm, .val (.double (FP.ddiv (FP.i2d mm) (FP.i2d den))), .second, rv b10, iv 0] [(.int (1 : Int32))]))
      exact goB X13 hx Bd.notSynchronized Bd.returns (by simp) (w := (1 : Int32)) (by first | rfl | decide) (hb hby at_133) (by rw [← hQQ, e13]; exact ⟨rfl, N0⟩) (by decide) (by decide)
set_option maxRecDepth 65536 in
set_option maxHeartbeats 40000000 in
theorem comes_1 {Post : Tables → Env → Array Value → State → Outcome → State → Prop} (hpost : ∀ tb e args s v u, (limb_1_1.after args s (.returned v) u = true ∧ limb_1_2.after args s (.returned v) u = true ∧ True) → FrameEnd s (.returned v) u (Jvm.fieldLocs frame_1_writes args s ++ Jvm.arrayLocs frame_1_arrays args s ++ Jvm.staticLocs frame_1_statics s) 16 128 → Post tb e args s (.returned v) u) :
    ArmFor flags0 classFile x code maxLocals ret World_1 tables_1 room_1 Calls_1 rest_1 Pre_1 Post := by
  intro l hfl _ _ p e ha hc hk s m args below hf hA hF happ hP
  obtain ⟨hcalls, hrest, hpre⟩ := hP
  obtain ⟨-, -, -, hnamed, -, -, -, hat⟩ := (Spec.applies_iff hf).mp happ
  obtain ⟨hg, hn⟩ := and_e (Cond.before_iff.mp (show (Jvm.Cond.and given_1 narrow_1).before args s = true from hpre))
  obtain ⟨gc, hg0⟩ := and_e hg
  obtain ⟨w0, w1, w2, w3, rfl⟩ : ∃ w0 w1 w2 w3 : Value, args = #[w0, w1, w2, w3] := by
    have hs : args.size = 4 := by simpa [Cond.value, given_1] using gc
    obtain ⟨L⟩ := args
    match L, hs with
    | [w0, w1, w2, w3], _ => exact ⟨w0, w1, w2, w3, rfl⟩
  obtain ⟨ga0, hg1⟩ := and_e hg0
  obtain ⟨i0, ei0⟩ := is_v ga0
  obtain rfl : w0 = (.int i0) := Option.some.inj ei0
  obtain ⟨ga1, hg2⟩ := and_e hg1
  obtain ⟨i1, ei1⟩ := is_v ga1
  obtain rfl : w1 = (.int i1) := Option.some.inj ei1
  obtain ⟨ga2, hg3⟩ := and_e hg2
  obtain ⟨i2, ei2⟩ := is_v ga2
  obtain rfl : w2 = (.int i2) := Option.some.inj ei2
  obtain ⟨i3, ei3⟩ := is_v hg3
  obtain rfl : w3 = (.int i3) := Option.some.inj ei3
  have hw := fun d (hd : d ∈ tables_1) => atoms_spec (ws := Jvm.Cond.code x code maxLocals ret :: tables_1) hat d (List.mem_cons_of_mem _ hd)
  have hfit : Fit s := fun {y c} hc i hi => by
    obtain ⟨ha, rfl⟩ := Array.getElem?_eq_some_iff.mp hc
    have q := List.all_eq_true.mp ((Array.all_eq_true_iff_forall_mem.mp hF) _ (Array.getElem_mem ha)) i (List.mem_range.mpr hi)
    simpa [Array.getElem?_eq_getElem hi] using q
  obtain ⟨n, o, h1, h2, h3, _, L, rfl, ⟨rfl, N⟩, hq⟩ := rm0 l s _ hw tables_1 i0 i1 i2 i3 s.heap s.heap.size (Nat.le_refl _)  p e ha hc hk s m _ below hf ((Spec.applies_iff_loose hf).mp happ).1 ⟨rfl, State.Warmed39.refl s, rfl⟩ trivial
  refine ⟨n, _, h1, h2, h3, hpost _ _ _ _ _ _ ⟨Cond.after_iff.mpr rfl, Cond.after_iff.mpr (eq_i res_at (Term.int_eval (1)) rfl), trivial⟩ ⟨hq.1, hq.2.1, (hq.2.2.sift fun y hy => Or.inr (N y hy)).mono (by decide) (by decide)⟩⟩
theorem main_1_1 : Claimed_1_1 := comes_1 fun _ _ _ _ _ _ h hF => ⟨h.1, hF⟩
theorem main_1_2 : Claimed_1_2 := comes_1 fun _ _ _ _ _ _ h hF => ⟨h.2.1, hF⟩
end Jvm.Pilot.@@N@@
namespace Jvm.Pilot.@@N@@
open Jvm Jvm.ClassFile Sem Op Lib Jvm.Free Jvm.Stand Jvm.Pilot.@@N@@.Jvm.D
/-! MADE BY PROGRAM (witnessworld.py) out of the Statement's table words and the real class files: 8 classes; the members and pool entries that the words name. The judged class is class 1, her method 1. -/
namespace start1
open Jvm.ClassFile
def u (s : String) : CpInfo := .utf8 (stringToUtf16 s)
/-- a pool by its gaps: so many unusable entries, then the entry; so many at the end -/
def gap : Nat → List CpInfo → List CpInfo
  | 0, r => r
  | n + 1, r => .unusable :: gap n r
def poolList (es : List (Nat × CpInfo)) (last : Nat) : List CpInfo := es.foldr (fun e r => gap e.1 (e.2 :: r)) (gap last [])
def pool (es : List (Nat × CpInfo)) (last : Nat) : Array CpInfo := ⟨poolList es last⟩
def fileOf (pool : Array CpInfo) (this : Nat) (attrs : Array Attribute := #[]) (ms : Array MethodInfo := #[]) (fl : Nat := 33) (sup : Nat := 0) (ifs : Array Nat := #[]) (fds : Array FieldInfo := #[]) : ClassFile where
  minorVersion := 0
  majorVersion := 65
  constantPool := pool
  accessFlags := fl
  thisClass := this
  superClass := sup
  interfaces := ifs
  fields := fds
  methods := ms
  attributes := attrs
def plain (name : String) (sup : Option ClassId) : Class where
  name := name
  kind := .ordinary
  loader := none
  accessFlags := 33
  super := sup
  interfaces := #[]
  cf := none
  fields := #[]
  methods := #[]
  instanceTypes := #[]
  staticTypes := #[]
  resolved := #[]
  callSites := []
  init := .initialized
  statics := none
  mirror := none

def pool0 : Array CpInfo := pool [(5, u "<init>"), (0, u "()V"), (1, .class_ 10), (1, u "java/lang/Object")] 113

def k0c0 : Code := { maxStack := 0, maxLocals := 1, code := object_method_1_code, exceptionTable := #[], attributes := #[] }
def k0m0 : Method := { name := "<init>", desc := "()V", sig := { parameters := [], returnType := none }, accessFlags := 1, code := some k0c0 }
/-- java/lang/Object -/
def k0 : Class := { plain "java/lang/Object" none with
  accessFlags := 33
  interfaces := #[]
  cf := some (fileOf pool0 8 #[] #[{ accessFlags := 1, nameIndex := 5, descriptorIndex := 6, attributes := #[] }] 33 0 #[] #[])
  fields := #[]
  methods := #[k0m0]
  instanceTypes := #[]
  staticTypes := #[]
  resolved := Array.replicate 124 none
  statics := none }

def pool1 : Array CpInfo := pool [(2, .class_ 4), (1, u "java/lang/Object"), (0, u "<init>"), (0, u "()V"), (0, .class_ 8), (0, u "com/example/seshat/seshat/DistanceConstraint"), (0, .double 4599075939470750515), (1, .methodref 7 12), (0, .nameAndType 5 13), (0, u "(D)V"), (0, .methodref 7 15), (0, .nameAndType 16 17), (0, u "spreadsAt"), (0, u "(I)Z"), (0, .integer 2147483647), (0, .class_ 20), (0, u "com/example/seshat/seshat/DistanceConstraintSpreadsAtPinLaw"), (2, u "law"), (0, u "(IIII)Z")] 3

def k1m0 : Method := { name := "<init>", desc := "()V", sig := { parameters := [], returnType := none }, accessFlags := 1, code := none }
def k1c1 : Code := { maxStack := 4, maxLocals := 11, code := code, exceptionTable := #[], attributes := #[] }
def k1m1 : Method := { name := "law", desc := "(IIII)Z", sig := { parameters := [.int, .int, .int, .int], returnType := some .boolean }, accessFlags := 9, code := some k1c1 }
/-- com/example/seshat/seshat/DistanceConstraintSpreadsAtPinLaw -/
def k1 : Class := { plain "com/example/seshat/seshat/DistanceConstraintSpreadsAtPinLaw" (some 0) with
  accessFlags := 49
  interfaces := #[]
  cf := some (fileOf pool1 19 #[] #[{ accessFlags := 1, nameIndex := 5, descriptorIndex := 6, attributes := #[] }, { accessFlags := 9, nameIndex := 23, descriptorIndex := 24, attributes := #[] }] 49 2 #[] #[])
  fields := #[]
  methods := #[k1m0, k1m1]
  instanceTypes := #[]
  staticTypes := #[]
  resolved := Array.replicate 28 none
  statics := none }

def pool2 : Array CpInfo := pool [(1, .class_ 2), (0, u "com/example/seshat/seshat/Constraint"), (0, .class_ 4), (0, u "java/lang/Object")] 6

/-- com/example/seshat/seshat/Constraint -/
def k2 : Class := { plain "com/example/seshat/seshat/Constraint" (some 0) with
  accessFlags := 1536
  interfaces := #[]
  cf := some (fileOf pool2 1 #[] #[] 1536 3 #[] #[])
  fields := #[]
  methods := #[]
  instanceTypes := #[]
  staticTypes := #[]
  resolved := Array.replicate 11 none
  statics := none }

def pool3 : Array CpInfo := pool [(1, .methodref 2 3), (0, .class_ 4), (0, .nameAndType 5 6), (0, u "java/lang/Object"), (0, u "<init>"), (0, u "()V"), (9, .fieldref 17 18), (0, .class_ 19), (0, .nameAndType 20 21), (0, u "com/example/seshat/seshat/DistanceConstraint"), (0, u "decay"), (0, u "D"), (0, .methodref 17 23), (0, .nameAndType 24 25), (0, u "factor"), (0, u "(I)D"), (6, .class_ 33), (0, u "com/example/seshat/seshat/Constraint"), (0, u "NAME"), (0, u "Ljava/lang/String;"), (3, u "DEFAULT_DECAY"), (2, u "(D)V"), (3, u "spreadsAt"), (0, u "(I)Z")] 19

def k3c0 : Code := { maxStack := 4, maxLocals := 3, code := prog_6_method_1_code, exceptionTable := #[], attributes := #[] }
def k3m0 : Method := { name := "<init>", desc := "(D)V", sig := { parameters := [.double], returnType := none }, accessFlags := 0, code := some k3c0 }
def k3c1 : Code := { maxStack := 4, maxLocals := 2, code := prog_6_method_2_code, exceptionTable := #[], attributes := #[] }
def k3m1 : Method := { name := "spreadsAt", desc := "(I)Z", sig := { parameters := [.int], returnType := some .boolean }, accessFlags := 1, code := some k3c1 }
def k3c2 : Code := { maxStack := 6, maxLocals := 2, code := prog_6_method_4_code, exceptionTable := #[], attributes := #[] }
def k3m2 : Method := { name := "factor", desc := "(I)D", sig := { parameters := [.int], returnType := some .double }, accessFlags := 2, code := some k3c2 }
/-- com/example/seshat/seshat/DistanceConstraint -/
def k3 : Class := { plain "com/example/seshat/seshat/DistanceConstraint" (some 0) with
  accessFlags := 48
  interfaces := #[2]
  cf := some (fileOf pool3 17 #[] #[{ accessFlags := 0, nameIndex := 5, descriptorIndex := 42, attributes := #[] }, { accessFlags := 1, nameIndex := 46, descriptorIndex := 47, attributes := #[] }, { accessFlags := 2, nameIndex := 24, descriptorIndex := 25, attributes := #[] }] 48 2 #[32] #[{ accessFlags := 24, nameIndex := 34, descriptorIndex := 35, attributes := #[] }, { accessFlags := 24, nameIndex := 39, descriptorIndex := 21, attributes := #[] }, { accessFlags := 18, nameIndex := 20, descriptorIndex := 21, attributes := #[] }])
  fields := #[{ name := "NAME", type := (.object "java/lang/String"), accessFlags := 24, slot := 0, constantValue := 0 }, { name := "DEFAULT_DECAY", type := .double, accessFlags := 24, slot := 1, constantValue := 0 }, { name := "decay", type := .double, accessFlags := 18, slot := 0, constantValue := 0 }]
  methods := #[k3m0, k3m1, k3m2]
  instanceTypes := #[.double]
  staticTypes := #[(.object "java/lang/String"), .double]
  resolved := Array.replicate 67 none
  statics := none }

def pool4 : Array CpInfo := pool [(1, u "java/lang/Cloneable"), (0, .class_ 1), (0, u "java/lang/Object"), (0, .class_ 3)] 3

/-- java/lang/Cloneable -/
def k4 : Class := { plain "java/lang/Cloneable" (some 0) with
  accessFlags := 1537
  interfaces := #[]
  cf := some (fileOf pool4 2 #[] #[] 1537 4 #[] #[])
  fields := #[]
  methods := #[]
  instanceTypes := #[]
  staticTypes := #[]
  resolved := Array.replicate 8 none
  statics := none }

def pool5 : Array CpInfo := pool [(1, u "java/io/Serializable"), (0, .class_ 1), (0, u "java/lang/Object"), (0, .class_ 3)] 3

/-- java/io/Serializable -/
def k5 : Class := { plain "java/io/Serializable" (some 0) with
  accessFlags := 1537
  interfaces := #[]
  cf := some (fileOf pool5 2 #[] #[] 1537 4 #[] #[])
  fields := #[]
  methods := #[]
  instanceTypes := #[]
  staticTypes := #[]
  resolved := Array.replicate 8 none
  statics := none }

/-- the primitive byte -/
def k6 : Class := { plain "byte" none with kind := .primitive 'B', accessFlags := 0x411 }
/-- [B -/
def k7 : Class := { plain "[B" (some 0) with kind := .array 6 .byte, interfaces := #[4, 5], accessFlags := 1041 }

def heap : Heap := #[]
def classes : Array Class := #[k0, k1, k2, k3, k4, k5, k6, k7]
def interned : List (Array UInt16 × Addr) := []
def slotsUsed : Nat := 0
def theMethod : MethodId := ⟨1, 1⟩
def args0 : Array Value := #[.int 3, .int 5, .int 2, .int 1]
def aboutOver (below : List Frame) : State where
  vm := { classes := classes, interned := interned.toArray }
  heap := heap
  slotsUsed := slotsUsed
  threads := #[{ frames := .invoking theMethod args0 :: below }]
def below0 : List Frame := [.native { method := ⟨0, 0⟩, args := #[] }]
def about1 : State := aboutOver below0
def p0 : Program := .bare "" "" ""
def e0 : Env := launch0.env 0 0 0
theorem w_frames : about1.frames = Frame.invoking theMethod args0 :: below0 := rfl
set_option maxRecDepth 65536 in
theorem w_args : argsFit about1.vm theMethod args0 = true := by decide +kernel
set_option maxRecDepth 65536 in
theorem w_heap : heapFits about1 = true := by decide +kernel
set_option maxRecDepth 65536 in
theorem w_runnable : about1.curStatus? = some .runnable := by decide +kernel
set_option maxRecDepth 65536 in
theorem w_alone : about1.alone = true := by decide +kernel
set_option maxRecDepth 65536 in
theorem w_named : about1.methodNamed? x = some theMethod := by decide +kernel
set_option maxRecDepth 65536 in
theorem w_hears : about1.hears theMethod below0 = true := by decide +kernel
set_option maxRecDepth 65536 in
theorem w_ripe : about1.ripe theMethod args0 below0 = true := by decide +kernel
theorem w_running : about1.status = .running := rfl
set_option maxRecDepth 65536 in
theorem w_room : about1.hasRoom e0.platform room_1 = true :=
  launch0.hasRoom_least _ room_1 (by decide +kernel) (by decide +kernel) (by decide +kernel) (by decide +kernel) (by decide +kernel) (by decide +kernel)
theorem allAtoms_all (ts : List Jvm.Cond) (a : Array Jvm.Value) (st : Jvm.State) : (allAtoms ts).before a st = ts.all (fun c => c.before a st) := by
  induction ts with
  | nil => rfl
  | cons c t ih =>
    show (Jvm.Cond.and c (allAtoms t)).before a st = _
    rw [Jvm.Cond.before_and, ih, List.all_cons]
def words1 : List Jvm.Cond := Jvm.Cond.code x code maxLocals ret :: tables_1
/-- a 'code' word, met by the world's own term for the bytes: nothing is compared byte by byte -/
theorem code_word {y : MethodName} {bytes : ByteArray} {mx : Nat} {rt : Option FieldType} {a : Array Value} {s : State} {m : MethodId} {meth : Method} {c : Code} (h1 : s.methodNamed? y = some m) (h2 : s.vm.method? m = some meth) (h3 : meth.code = some c) (h4 : c.code = bytes)
    (h5 : (c.maxLocals == mx && c.exceptionTable.isEmpty && decide (c.maxStack ≤ mostOperands) && decide (meth.sig.returnType = rt) && !meth.locks && decide (parseMethodDescriptor y.desc = some meth.sig)) = true) : (Jvm.Cond.code y bytes mx rt).before a s = true := by
  simp only [Bool.and_eq_true, beq_iff_eq, Bool.not_eq_true', decide_eq_true_eq] at h5
  obtain ⟨⟨⟨⟨⟨g1, g2⟩, g3⟩, g4⟩, g5⟩, g6⟩ := h5
  simp [Cond.before, Cond.holds, Cond.value, h1, h2, h3, h4, g1, g2, g3, g4, g5, g6]
def isCode : Jvm.Cond → Bool
  | .code _ _ _ _ => true
  | _ => false
theorem all_split {L : List Jvm.Cond} {P : Jvm.Cond → Bool} (h1 : L.all (fun c => isCode c || P c) = true) (h2 : ∀ c ∈ L.filter isCode, P c = true) : L.all P = true := by
  refine List.all_eq_true.mpr fun c hc => ?_
  have h := List.all_eq_true.mp h1 c hc
  rcases Bool.eq_false_or_eq_true (isCode c) with hi | hi
  · exact h2 c (List.mem_filter.mpr ⟨hc, hi⟩)
  · simpa [hi] using h
set_option maxRecDepth 65536 in
theorem w_c0 : (Jvm.Cond.code x code maxLocals ret).before args0 about1 = true := code_word (m := ⟨1, 1⟩) (meth := k1m1) (c := k1c1) (by decide +kernel) rfl rfl rfl (by decide +kernel)
set_option maxRecDepth 65536 in
theorem w_c1 : (Jvm.Cond.code ({ cls := "com/example/seshat/seshat/DistanceConstraint", name := "<init>", desc := "(D)V" } : Jvm.MethodName) prog_6_method_1_code (3 : Nat) (Option.none : Option Jvm.ClassFile.FieldType)).before args0 about1 = true := code_word (m := ⟨3, 0⟩) (meth := k3m0) (c := k3c0) (by decide +kernel) rfl rfl rfl (by decide +kernel)
set_option maxRecDepth 65536 in
theorem w_c2 : (Jvm.Cond.code ({ cls := "java/lang/Object", name := "<init>", desc := "()V" } : Jvm.MethodName) object_method_1_code (1 : Nat) (Option.none : Option Jvm.ClassFile.FieldType)).before args0 about1 = true := code_word (m := ⟨0, 0⟩) (meth := k0m0) (c := k0c0) (by decide +kernel) rfl rfl rfl (by decide +kernel)
set_option maxRecDepth 65536 in
theorem w_c3 : (Jvm.Cond.code ({ cls := "com/example/seshat/seshat/DistanceConstraint", name := "spreadsAt", desc := "(I)Z" } : Jvm.MethodName) prog_6_method_2_code (2 : Nat) (Option.some Jvm.ClassFile.FieldType.boolean)).before args0 about1 = true := code_word (m := ⟨3, 1⟩) (meth := k3m1) (c := k3c1) (by decide +kernel) rfl rfl rfl (by decide +kernel)
set_option maxRecDepth 65536 in
theorem w_c4 : (Jvm.Cond.code ({ cls := "com/example/seshat/seshat/DistanceConstraint", name := "factor", desc := "(I)D" } : Jvm.MethodName) prog_6_method_4_code (2 : Nat) (Option.some Jvm.ClassFile.FieldType.double)).before args0 about1 = true := code_word (m := ⟨3, 2⟩) (meth := k3m2) (c := k3c2) (by decide +kernel) rfl rfl rfl (by decide +kernel)
def codes1 : List Jvm.Cond := [Jvm.Cond.code x code maxLocals ret, Jvm.Cond.code ({ cls := "com/example/seshat/seshat/DistanceConstraint", name := "<init>", desc := "(D)V" } : Jvm.MethodName) prog_6_method_1_code (3 : Nat) (Option.none : Option Jvm.ClassFile.FieldType), Jvm.Cond.code ({ cls := "java/lang/Object", name := "<init>", desc := "()V" } : Jvm.MethodName) object_method_1_code (1 : Nat) (Option.none : Option Jvm.ClassFile.FieldType), Jvm.Cond.code ({ cls := "com/example/seshat/seshat/DistanceConstraint", name := "spreadsAt", desc := "(I)Z" } : Jvm.MethodName) prog_6_method_2_code (2 : Nat) (Option.some Jvm.ClassFile.FieldType.boolean), Jvm.Cond.code ({ cls := "com/example/seshat/seshat/DistanceConstraint", name := "factor", desc := "(I)D" } : Jvm.MethodName) prog_6_method_4_code (2 : Nat) (Option.some Jvm.ClassFile.FieldType.double)]
set_option maxRecDepth 65536 in
theorem codes_eq : words1.filter isCode = codes1 := rfl
theorem w_codes : ∀ c ∈ words1.filter isCode, c.before args0 about1 = true := by
  rw [codes_eq]
  intro c hc
  simp only [codes1, List.mem_cons, List.not_mem_nil, or_false] at hc
  rcases hc with rfl | rfl | rfl | rfl | rfl
  · exact w_c0
  · exact w_c1
  · exact w_c2
  · exact w_c3
  · exact w_c4
set_option maxRecDepth 65536 in
theorem w_t1 : words1.all (fun c => isCode c || c.before args0 about1) = true := by decide +kernel
theorem w_tables : (allAtoms (Jvm.Cond.code x code maxLocals ret :: tables_1)).before args0 about1 = true := by
  rw [allAtoms_all]
  show words1.all (fun c => c.before args0 about1) = true
  refine all_split ?_ w_codes
  rw [w_t1]
set_option maxRecDepth 65536 in
theorem w_case : (Jvm.Cond.and given_1 narrow_1).before args0 about1 = true := by decide +kernel
theorem w_applies : (headSpec (Jvm.Cond.code x code maxLocals ret :: tables_1) room_1).applies x e0.platform about1 = true :=
  (Spec.applies_iff w_frames).mpr ⟨w_running, w_runnable, w_alone, w_named, w_hears, w_ripe, w_room, w_tables⟩
theorem atStart : AtStart classFile x code maxLocals ret World_1 tables_1 room_1 Calls_1 rest_1 Pre_1 launch0 p0 e0 about1 theMethod args0 below0 :=
  ⟨lists_1, trivial, launch0.admits_env _ _ _, launch0.least_env, fairChoices_fair.cas, fairChoices_fair.clock, w_frames, w_args, w_heap, w_applies, trivial, trivial, w_case⟩
end start1
theorem witness_1 : WitnessClaimed_1 := ⟨start1.p0, start1.e0, start1.about1, start1.theMethod, start1.args0, start1.below0, start1.atStart⟩
end Jvm.Pilot.@@N@@
