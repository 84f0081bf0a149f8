import JvmDerived
import JvmDerived.Pilot.@@N@@Statement
import JvmDerived.Pilot.@@N@@Code
set_option linter.unusedVariables false
set_option linter.unusedSimpArgs false
namespace Jvm
abbrev jv (x : Int64) : Slot := .val (.long x)
end Jvm
namespace Jvm.RoadKit
open Sem ClassFile Op Lib Jvm.Stand Jvm.Free Jvm.LawKit
section Own
variable {p : Program} {l : Launch} {e : Env} {R : Room} {s : State} {m : MethodId} {args : Array Value} {below : List Frame} {meth : Method} {c : Code} {T : State} {locs : List Loc} {cells slots : Nat} {Z : State} {h h' : Heap} {a b : Addr} {ty : FieldType} {ws : List Addr}
/-- from the state S the run comes to an end that Q allows -/
def Go (p : Program) (e : Env) (below : List Frame) (s : State) (Q : Option Value → Heap → List Loc → Prop) (K N : Nat) (S : State) : Prop :=
  ∃ (t : State) (o : Outcome), Steps p.tables e below S t ∧ t.status = .running ∧ Ended t below o ∧ ∃ v L, o = .returned v ∧ Q v t.heap L ∧ FrameEnd s o t L K N
variable {Q : Option Value → Heap → List Loc → Prop} {K N : Nat} {S S' : State}
theorem gs (h : ∀ t, Steps p.tables e below S' t → Steps p.tables e below S t) (k : Go p e below s Q K N S') : Go p e below s Q K N S := by
  obtain ⟨t, o, a, b⟩ := k
  exact ⟨t, o, h t a, b⟩
theorem gt (h : Steps p.tables e below S S') (k : Go p e below s Q K N S') : Go p e below s Q K N S := gs (fun _ => h.trans) k
theorem goEnd (X : Stand p l e R s m args below meth c T locs cells slots) {v : Option Value} (hlocks : meth.locks = false) (hv : meth.sig.returnType = none → v = none)
    (hs : ∀ fs, (∀ (f : JFrame) (acts : List Action), f.method = m → f.locked = none → f.entered = [] → (doReturn e (T.setTop f) acts v).1 = T.setFrames fs) → Steps p.tables e below S (T.setFrames fs))
    (hQ : Q v T.heap locs) (hk : cells ≤ K) (hn : slots ≤ N) : Go p e below s Q K N S := by
  obtain ⟨fs, hr, hrun, hended, hW, hsame⟩ := X.leave (v := v) hv hlocks
  exact ⟨_, _, hs fs hr, hrun, hended, v, locs, rfl, hQ, ⟨_, rfl⟩, hW, hsame.mono hk hn⟩
theorem goV (X : Stand p l e R s m args below meth c T locs cells slots) (hx : p.tables.exec = Jvm.exec) (hlocks : meth.locks = false) (hret : meth.sig.returnType = none) {pc : Nat} {Ls : Array Slot} (hd : decode c.code pc = .ok (.return_, 1)) (hQ : Q none T.heap locs) (hk : cells ≤ K) (hn : slots ≤ N) :
    Go p e below s Q K N (T.setTop (mkF m pc Ls [])) := goEnd X hlocks (fun _ => rfl) (fun _ hr => X.returnOut hx hret hd hr) hQ hk hn
theorem goW (X : Stand p l e R s m args below meth c T locs cells slots) (hx : p.tables.exec = Jvm.exec) (hlocks : meth.locks = false) {t : FieldType} (hret : meth.sig.returnType = some t) {pc : Nat} {Ls : Array Slot} {w : Value} {i : Instr} {rest : List Value} (hn0 : narrow t w = w)
    (hi : (i = .ireturn ∧ (t = .int ∨ t = .boolean ∨ t = .byte ∨ t = .char ∨ t = .short) ∧ ∃ z, w = .int z) ∨ (i = .lreturn ∧ t = .long ∧ ∃ z, w = .long z) ∨ (i = .dreturn ∧ t = .double ∧ ∃ z, w = .double z) ∨ (i = .freturn ∧ t = .float ∧ ∃ z, w = .float z) ∨ (i = .areturn ∧ t.isReference = true ∧ w.isRef = true))
    (hd : decode c.code pc = .ok (i, 1)) (hQ : Q (some w) T.heap locs) (hk : cells ≤ K) (hn : slots ≤ N) : Go p e below s Q K N (T.setTop (mkF m pc Ls (w :: rest))) :=
  goEnd X hlocks (fun q => by rw [hret] at q; cases q) (fun _ hr => retOut X hx hret hn0 hi hd hr) hQ hk hn
theorem goI (X : Stand p l e R s m args below meth c T locs cells slots) (hx : p.tables.exec = Jvm.exec) (hlocks : meth.locks = false) (hret : meth.sig.returnType = some .int) {pc : Nat} {Ls : Array Slot} {w : Int32} {rest : List Value} (hd : decode c.code pc = .ok (.ireturn, 1)) (hQ : Q (some (.int w)) T.heap locs) (hk : cells ≤ K) (hn : slots ≤ N) :
    Go p e below s Q K N (T.setTop (mkF m pc Ls (.int w :: rest))) := goW X hx hlocks hret rfl (Or.inl ⟨rfl, Or.inl rfl, w, rfl⟩) hd hQ hk hn
theorem goJ (X : Stand p l e R s m args below meth c T locs cells slots) (hx : p.tables.exec = Jvm.exec) (hlocks : meth.locks = false) (hret : meth.sig.returnType = some .long) {pc : Nat} {Ls : Array Slot} {w : Int64} {rest : List Value} (hd : decode c.code pc = .ok (.lreturn, 1)) (hQ : Q (some (.long w)) T.heap locs) (hk : cells ≤ K) (hn : slots ≤ N) :
    Go p e below s Q K N (T.setTop (mkF m pc Ls (.long w :: rest))) := goW X hx hlocks hret rfl (Or.inr (Or.inl ⟨rfl, rfl, w, rfl⟩)) hd hQ hk hn
theorem goR (X : Stand p l e R s m args below meth c T locs cells slots) (hx : p.tables.exec = Jvm.exec) (hlocks : meth.locks = false) {t : FieldType} (hret : meth.sig.returnType = some t) (ht : t.isReference = true) {pc : Nat} {Ls : Array Slot} {w : Value} (hw : w.isRef = true) {rest : List Value} (hd : decode c.code pc = .ok (.areturn, 1)) (hQ : Q (some w) T.heap locs) (hk : cells ≤ K) (hn : slots ≤ N) :
    Go p e below s Q K N (T.setTop (mkF m pc Ls (w :: rest))) :=
  goW X hx hlocks hret (by cases t <;> simp [FieldType.isReference] at ht <;> rfl) (Or.inr (Or.inr (Or.inr (Or.inr ⟨rfl, ht, hw⟩)))) hd hQ hk hn
theorem goB (X : Stand p l e R s m args below meth c T locs cells slots) (hx : p.tables.exec = Jvm.exec) (hlocks : meth.locks = false) {t : FieldType} (hret : meth.sig.returnType = some t) (ht : t = .boolean ∨ t = .byte ∨ t = .char ∨ t = .short) {pc : Nat} {Ls : Array Slot} {z w : Int32} {rest : List Value} (hz : nar t z = w) (hd : decode c.code pc = .ok (.ireturn, 1)) (hQ : Q (some (.int w)) T.heap locs) (hk : cells ≤ K) (hn : slots ≤ N) :
    Go p e below s Q K N (T.setTop (mkF m pc Ls (.int z :: rest))) := by
  subst hz
  exact goEnd X hlocks (fun q => by rw [hret] at q; cases q) (fun _ hr => retN X hx hret ht hd hr) hQ hk hn
/-- an array of n places; the place i holds f i -/
def Arf (Z : State) (h : Heap) (a : Addr) (ty : FieldType) (n : Nat) (f : Nat → Value) : Prop := ∃ c : Cell, Arr Z h a c ty ∧ c.slots.size = n ∧ n < 2 ^ 31 ∧ ∀ i, i < n → c.slots[i]? = some (f i)
def updv (f : Nat → Value) (j : Nat) (v : Value) : Nat → Value := fun i => if i = j then v else f i
variable {n : Nat} {f g : Nat → Value} {sl : Nat} {v : Value}
theorem Arf.lt (F : Arf Z h a ty n f) : a < h.size := by obtain ⟨c, A, -⟩ := F; exact A.lt
theorem Arf.ext (F : Arf Z h a ty n f) (E : Ext h h') : Arf Z h' a ty n f := by obtain ⟨c, A, r⟩ := F; exact ⟨c, A.ext E, r⟩
theorem Arf.other (F : Arf Z h b ty n f) (W : Wr h h' a sl v) (q : b ≠ a) : Arf Z h' b ty n f := by obtain ⟨c, A, r⟩ := F; exact ⟨c, A.other W q, r⟩
theorem Arf.keep (F : Arf Z h a ty n f) (K : Keep h h' ws) (q : a ∉ ws) : Arf Z h' a ty n f := by obtain ⟨c, A, r⟩ := F; exact ⟨c, ⟨K.2.1 a c A.1 q, A.2⟩, r⟩
theorem Arf.congr (F : Arf Z h a ty n f) (q : ∀ i, i < n → f i = g i) : Arf Z h a ty n g := by
  obtain ⟨c, A, r1, r2, r3⟩ := F
  exact ⟨c, A, r1, r2, fun i hi => by rw [← q i hi]; exact r3 i hi⟩
theorem clampLt (z : Int32) : z.toNatClampNeg < 2 ^ 31 := by
  have h1 := z.toInt_lt
  have h2 : z.toNatClampNeg = z.toInt.toNat := rfl
  omega
theorem clampOf {j : Int32} (h0 : 0 ≤ j.toInt) : (j.toNatClampNeg : Int) = j.toInt := by
  have h2 : j.toNatClampNeg = j.toInt.toNat := rfl
  omega
theorem Arf.new {k : ClassId} {z : Int32} (A : Arr Z h a (newA k ty z) ty) : Arf Z h a ty z.toNatClampNeg (fun _ => defaultValue ty) := by
  refine ⟨_, A, sz_new _ _ _, clampLt z, fun i hi => ?_⟩
  simp [newA, hi]
theorem Arf.set (F : Arf Z h a ty n f) {j : Nat} (W : Wr h h' a j v) (hj : j < n) : Arf Z h' a ty n (updv f j v) := by
  obtain ⟨c, A, r1, r2, r3⟩ := F
  refine ⟨_, A.same W, by rw [sz_set]; exact r1, r2, fun i hi => ?_⟩
  by_cases q : i = j
  · subst q
    simp [Cell.setSlot, updv, r1, hi]
  · have q' : ¬ j = i := fun x => q x.symm
    simp [Cell.setSlot, updv, q, Array.getElem?_setIfInBounds_ne q', r3 i hi]
theorem inI {cl : Cell} (S : cl.slots.size = n) {j : Int32} (hj : 0 ≤ j.toInt ∧ j.toInt < n) : ¬ (j < 0 ∨ cl.slots.size ≤ j.toNatClampNeg) := by
  have q := clampOf hj.1
  rintro (h1 | h1)
  · rw [Int32.lt_iff_toInt_lt] at h1
    have : (0 : Int32).toInt = 0 := rfl
    omega
  · omega
theorem stIf (X : Stand p l e R s m args below meth c T locs cells slots) (hx : p.tables.exec = Jvm.exec) (hZ : Z.Warmed39 s.vm) (eT : T.heap = h) (F : Arf Z h a .int n f) {j x : Int32} (hj : 0 ≤ j.toInt ∧ j.toInt < n) {g : JFrame} (hg : g.method = m) {rest : List Value} (hs : g.stack = .int x :: .int j :: .ref a :: rest) (hd : decode c.code g.pc = .ok (.iastore, 1)) :
    ∃ T' h', Stand p l e R s m args below meth c T' (locs ++ [⟨a, j.toNatClampNeg⟩]) cells slots ∧ T'.heap = h' ∧ Wr h h' a j.toNatClampNeg (.int x) ∧ Arf Z h' a .int n (updv f j.toNatClampNeg (.int x)) ∧ ∀ target, Steps p.tables e below (T'.setTop { g with pc := g.pc + 1, stack := rest }) target → Steps p.tables e below (T.setTop g) target := by
  obtain ⟨cl, A, r1, r2, r3⟩ := id F
  obtain ⟨T', h', X', e', W, st⟩ := stI X hx hZ eT A (j := j) (x := x) (inI r1 hj) hg hs hd
  have q := clampOf hj.1
  exact ⟨T', h', X', e', W, F.set W (by omega), st⟩
theorem stJf (X : Stand p l e R s m args below meth c T locs cells slots) (hx : p.tables.exec = Jvm.exec) (hZ : Z.Warmed39 s.vm) (eT : T.heap = h) (F : Arf Z h a .long n f) {j : Int32} {x : Int64} (hj : 0 ≤ j.toInt ∧ j.toInt < n) {g : JFrame} (hg : g.method = m) {rest : List Value} (hs : g.stack = .long x :: .int j :: .ref a :: rest) (hd : decode c.code g.pc = .ok (.lastore, 1)) :
    ∃ T' h', Stand p l e R s m args below meth c T' (locs ++ [⟨a, j.toNatClampNeg⟩]) cells slots ∧ T'.heap = h' ∧ Wr h h' a j.toNatClampNeg (.long x) ∧ Arf Z h' a .long n (updv f j.toNatClampNeg (.long x)) ∧ ∀ target, Steps p.tables e below (T'.setTop { g with pc := g.pc + 1, stack := rest }) target → Steps p.tables e below (T.setTop g) target := by
  obtain ⟨cl, A, r1, r2, r3⟩ := id F
  obtain ⟨T', h', X', e', W, st⟩ := stJ X hx hZ eT A (j := j) (x := x) (inI r1 hj) hg hs hd
  have q := clampOf hj.1
  exact ⟨T', h', X', e', W, F.set W (by omega), st⟩
theorem stBf (X : Stand p l e R s m args below meth c T locs cells slots) (hx : p.tables.exec = Jvm.exec) (hZ : Z.Warmed39 s.vm) (eT : T.heap = h) (F : Arf Z h a .byte n f) {j x : Int32} (hj : 0 ≤ j.toInt ∧ j.toInt < n) {g : JFrame} (hg : g.method = m) {rest : List Value} (hs : g.stack = .int x :: .int j :: .ref a :: rest) (hd : decode c.code g.pc = .ok (.bastore, 1)) :
    ∃ T' h', Stand p l e R s m args below meth c T' (locs ++ [⟨a, j.toNatClampNeg⟩]) cells slots ∧ T'.heap = h' ∧ Wr h h' a j.toNatClampNeg (.int (nar .byte x)) ∧ Arf Z h' a .byte n (updv f j.toNatClampNeg (.int (nar .byte x))) ∧ ∀ target, Steps p.tables e below (T'.setTop { g with pc := g.pc + 1, stack := rest }) target → Steps p.tables e below (T.setTop g) target := by
  obtain ⟨cl, A, r1, r2, r3⟩ := id F
  obtain ⟨T', h', X', e', W, st⟩ := stB X hx hZ eT A (j := j) (x := x) (inI r1 hj) hg hs hd
  have q := clampOf hj.1
  exact ⟨T', h', X', e', W, F.set W (by omega), st⟩
theorem stZf (X : Stand p l e R s m args below meth c T locs cells slots) (hx : p.tables.exec = Jvm.exec) (hZ : Z.Warmed39 s.vm) (eT : T.heap = h) (F : Arf Z h a .boolean n f) {j x : Int32} (hj : 0 ≤ j.toInt ∧ j.toInt < n) {g : JFrame} (hg : g.method = m) {rest : List Value} (hs : g.stack = .int x :: .int j :: .ref a :: rest) (hd : decode c.code g.pc = .ok (.bastore, 1)) :
    ∃ T' h', Stand p l e R s m args below meth c T' (locs ++ [⟨a, j.toNatClampNeg⟩]) cells slots ∧ T'.heap = h' ∧ Wr h h' a j.toNatClampNeg (.int (nar .boolean x)) ∧ Arf Z h' a .boolean n (updv f j.toNatClampNeg (.int (nar .boolean x))) ∧ ∀ target, Steps p.tables e below (T'.setTop { g with pc := g.pc + 1, stack := rest }) target → Steps p.tables e below (T.setTop g) target := by
  obtain ⟨cl, A, r1, r2, r3⟩ := id F
  obtain ⟨T', h', X', e', W, st⟩ := stZ X hx hZ eT A (j := j) (x := x) (inI r1 hj) hg hs hd
  have q := clampOf hj.1
  exact ⟨T', h', X', e', W, F.set W (by omega), st⟩
theorem stCf (X : Stand p l e R s m args below meth c T locs cells slots) (hx : p.tables.exec = Jvm.exec) (hZ : Z.Warmed39 s.vm) (eT : T.heap = h) (F : Arf Z h a .char n f) {j x : Int32} (hj : 0 ≤ j.toInt ∧ j.toInt < n) {g : JFrame} (hg : g.method = m) {rest : List Value} (hs : g.stack = .int x :: .int j :: .ref a :: rest) (hd : decode c.code g.pc = .ok (.castore, 1)) :
    ∃ T' h', Stand p l e R s m args below meth c T' (locs ++ [⟨a, j.toNatClampNeg⟩]) cells slots ∧ T'.heap = h' ∧ Wr h h' a j.toNatClampNeg (.int (nar .char x)) ∧ Arf Z h' a .char n (updv f j.toNatClampNeg (.int (nar .char x))) ∧ ∀ target, Steps p.tables e below (T'.setTop { g with pc := g.pc + 1, stack := rest }) target → Steps p.tables e below (T.setTop g) target := by
  obtain ⟨cl, A, r1, r2, r3⟩ := id F
  obtain ⟨T', h', X', e', W, st⟩ := stC X hx hZ eT A (j := j) (x := x) (inI r1 hj) hg hs hd
  have q := clampOf hj.1
  exact ⟨T', h', X', e', W, F.set W (by omega), st⟩
theorem stRf (X : Stand p l e R s m args below meth c T locs cells slots) (hx : p.tables.exec = Jvm.exec) (hZ : Z.Warmed39 s.vm) (eT : T.heap = h) (F : Arf Z h a ty n f) (hty : ty.isReference = true) {j : Int32} {v : Value} (hv : Sto Z h a v) (hj : 0 ≤ j.toInt ∧ j.toInt < n) {g : JFrame} (hg : g.method = m) {rest : List Value} (hs : g.stack = v :: .int j :: .ref a :: rest) (hd : decode c.code g.pc = .ok (.aastore, 1)) :
    ∃ T' h', Stand p l e R s m args below meth c T' (locs ++ [⟨a, j.toNatClampNeg⟩]) cells slots ∧ T'.heap = h' ∧ Wr h h' a j.toNatClampNeg v ∧ Arf Z h' a ty n (updv f j.toNatClampNeg v) ∧ ∀ target, Steps p.tables e below (T'.setTop { g with pc := g.pc + 1, stack := rest }) target → Steps p.tables e below (T.setTop g) target := by
  obtain ⟨cl, A, r1, r2, r3⟩ := id F
  obtain ⟨T', h', X', e', W, st⟩ := stR X hx hZ eT A (j := j) (v := v) (inI r1 hj) hty hv hg hs hd
  have q := clampOf hj.1
  exact ⟨T', h', X', e', W, F.set W (by omega), st⟩
theorem ldIf (X : Stand p l e R s m args below meth c T locs cells slots) (hx : p.tables.exec = Jvm.exec) (hZ : Z.Warmed39 s.vm) (eT : T.heap = h) (F : Arf Z h a .int n f) {j : Int32} {v : Value} (hj : 0 ≤ j.toInt ∧ j.toInt < n) (hv : f j.toNatClampNeg = v) {g : JFrame} (hg : g.method = m) {rest : List Value} (hs : g.stack = .int j :: .ref a :: rest) (hd : decode c.code g.pc = .ok (.iaload, 1)) :
    ∀ target, Steps p.tables e below (T.setTop { g with pc := g.pc + 1, stack := v :: rest }) target → Steps p.tables e below (T.setTop g) target := by
  obtain ⟨cl, A, r1, r2, r3⟩ := F
  have q := clampOf hj.1
  exact fun t => X.iaload hx (by rw [eT]; exact A.1) (State.isArrayOf_alike hZ.alike A.2.1) A.2.2 (inI r1 hj) (by rw [← hv]; exact r3 _ (by omega)) hg hs hd t
theorem ldJf (X : Stand p l e R s m args below meth c T locs cells slots) (hx : p.tables.exec = Jvm.exec) (hZ : Z.Warmed39 s.vm) (eT : T.heap = h) (F : Arf Z h a .long n f) {j : Int32} {v : Value} (hj : 0 ≤ j.toInt ∧ j.toInt < n) (hv : f j.toNatClampNeg = v) {g : JFrame} (hg : g.method = m) {rest : List Value} (hs : g.stack = .int j :: .ref a :: rest) (hd : decode c.code g.pc = .ok (.laload, 1)) :
    ∀ target, Steps p.tables e below (T.setTop { g with pc := g.pc + 1, stack := v :: rest }) target → Steps p.tables e below (T.setTop g) target := by
  obtain ⟨cl, A, r1, r2, r3⟩ := F
  have q := clampOf hj.1
  exact fun t => X.laload hx (by rw [eT]; exact A.1) (State.isArrayOf_alike hZ.alike A.2.1) A.2.2 (inI r1 hj) (by rw [← hv]; exact r3 _ (by omega)) hg hs hd t
theorem ldCf (X : Stand p l e R s m args below meth c T locs cells slots) (hx : p.tables.exec = Jvm.exec) (hZ : Z.Warmed39 s.vm) (eT : T.heap = h) (F : Arf Z h a .char n f) {j : Int32} {v : Value} (hj : 0 ≤ j.toInt ∧ j.toInt < n) (hv : f j.toNatClampNeg = v) {g : JFrame} (hg : g.method = m) {rest : List Value} (hs : g.stack = .int j :: .ref a :: rest) (hd : decode c.code g.pc = .ok (.caload, 1)) :
    ∀ target, Steps p.tables e below (T.setTop { g with pc := g.pc + 1, stack := v :: rest }) target → Steps p.tables e below (T.setTop g) target := by
  obtain ⟨cl, A, r1, r2, r3⟩ := F
  have q := clampOf hj.1
  exact fun t => X.caload hx (by rw [eT]; exact A.1) (State.isArrayOf_alike hZ.alike A.2.1) A.2.2 (inI r1 hj) (by rw [← hv]; exact r3 _ (by omega)) hg hs hd t
theorem ldBf (X : Stand p l e R s m args below meth c T locs cells slots) (hx : p.tables.exec = Jvm.exec) (hZ : Z.Warmed39 s.vm) (eT : T.heap = h) (F : Arf Z h a .byte n f) {j : Int32} {v : Value} (hj : 0 ≤ j.toInt ∧ j.toInt < n) (hv : f j.toNatClampNeg = v) {g : JFrame} (hg : g.method = m) {rest : List Value} (hs : g.stack = .int j :: .ref a :: rest) (hd : decode c.code g.pc = .ok (.baload, 1)) :
    ∀ target, Steps p.tables e below (T.setTop { g with pc := g.pc + 1, stack := v :: rest }) target → Steps p.tables e below (T.setTop g) target := by
  obtain ⟨cl, A, r1, r2, r3⟩ := F
  have q := clampOf hj.1
  exact fun t => X.baloadBytes hx (by rw [eT]; exact A.1) (State.isArrayOf_alike hZ.alike A.2.1) A.2.2 (inI r1 hj) (by rw [← hv]; exact r3 _ (by omega)) hg hs hd t
theorem ldZf (X : Stand p l e R s m args below meth c T locs cells slots) (hx : p.tables.exec = Jvm.exec) (hZ : Z.Warmed39 s.vm) (eT : T.heap = h) (F : Arf Z h a .boolean n f) {j : Int32} {v : Value} (hj : 0 ≤ j.toInt ∧ j.toInt < n) (hv : f j.toNatClampNeg = v) {g : JFrame} (hg : g.method = m) {rest : List Value} (hs : g.stack = .int j :: .ref a :: rest) (hd : decode c.code g.pc = .ok (.baload, 1)) :
    ∀ target, Steps p.tables e below (T.setTop { g with pc := g.pc + 1, stack := v :: rest }) target → Steps p.tables e below (T.setTop g) target := by
  obtain ⟨cl, A, r1, r2, r3⟩ := F
  have q := clampOf hj.1
  exact fun t => X.baloadBooleans hx (by rw [eT]; exact A.1) (State.isArrayOf_alike hZ.alike A.2.1) A.2.2 (inI r1 hj) (by rw [← hv]; exact r3 _ (by omega)) hg hs hd t
theorem ldRf (X : Stand p l e R s m args below meth c T locs cells slots) (hx : p.tables.exec = Jvm.exec) (hZ : Z.Warmed39 s.vm) (eT : T.heap = h) (F : Arf Z h a ty n f) (hty : ty.isReference = true) {j : Int32} {v : Value} (hj : 0 ≤ j.toInt ∧ j.toInt < n) (hv : f j.toNatClampNeg = v) {g : JFrame} (hg : g.method = m) {rest : List Value} (hs : g.stack = .int j :: .ref a :: rest) (hd : decode c.code g.pc = .ok (.aaload, 1)) :
    ∀ target, Steps p.tables e below (T.setTop { g with pc := g.pc + 1, stack := v :: rest }) target → Steps p.tables e below (T.setTop g) target := by
  obtain ⟨cl, A, r1, r2, r3⟩ := F
  have q := clampOf hj.1
  exact fun t => X.aaload hx (by rw [eT]; exact A.1) (State.isArrayOf_alike hZ.alike A.2.1) hty A.2.2 (inI r1 hj) (by rw [← hv]; exact r3 _ (by omega)) hg hs hd t
theorem stDf (X : Stand p l e R s m args below meth c T locs cells slots) (hx : p.tables.exec = Jvm.exec) (hZ : Z.Warmed39 s.vm) (eT : T.heap = h) (F : Arf Z h a .double n f) {j : Int32} {x : UInt64} (hj : 0 ≤ j.toInt ∧ j.toInt < n) {g : JFrame} (hg : g.method = m) {rest : List Value} (hs : g.stack = .double x :: .int j :: .ref a :: rest) (hd : decode c.code g.pc = .ok (.dastore, 1)) :
    ∃ T' h', Stand p l e R s m args below meth c T' (locs ++ [⟨a, j.toNatClampNeg⟩]) cells slots ∧ T'.heap = h' ∧ Wr h h' a j.toNatClampNeg (.double x) ∧ Arf Z h' a .double n (updv f j.toNatClampNeg (.double x)) ∧ ∀ target, Steps p.tables e below (T'.setTop { g with pc := g.pc + 1, stack := rest }) target → Steps p.tables e below (T.setTop g) target := by
  obtain ⟨cl, A, r1, r2, r3⟩ := id F
  obtain ⟨T', h', X', e', W, st⟩ := stD X hx hZ eT A (j := j) (x := x) (inI r1 hj) hg hs hd
  have q := clampOf hj.1
  exact ⟨T', h', X', e', W, F.set W (by omega), st⟩
theorem ldDf (X : Stand p l e R s m args below meth c T locs cells slots) (hx : p.tables.exec = Jvm.exec) (hZ : Z.Warmed39 s.vm) (eT : T.heap = h) (F : Arf Z h a .double n f) {j : Int32} {v : Value} (hj : 0 ≤ j.toInt ∧ j.toInt < n) (hv : f j.toNatClampNeg = v) {g : JFrame} (hg : g.method = m) {rest : List Value} (hs : g.stack = .int j :: .ref a :: rest) (hd : decode c.code g.pc = .ok (.daload, 1)) :
    ∀ target, Steps p.tables e below (T.setTop { g with pc := g.pc + 1, stack := v :: rest }) target → Steps p.tables e below (T.setTop g) target := by
  obtain ⟨cl, A, r1, r2, r3⟩ := F
  have q := clampOf hj.1
  exact fun t => X.daload hx (by rw [eT]; exact A.1) (State.isArrayOf_alike hZ.alike A.2.1) A.2.2 (inI r1 hj) (by rw [← hv]; exact r3 _ (by omega)) hg hs hd t
theorem lenf (X : Stand p l e R s m args below meth c T locs cells slots) (hx : p.tables.exec = Jvm.exec) (hZ : Z.Warmed39 s.vm) (eT : T.heap = h) (F : Arf Z h a ty n f) {z : Int32} (hz : n.toInt32 = z) {g : JFrame} (hg : g.method = m) {rest : List Value} (hs : g.stack = .ref a :: rest) (hd : decode c.code g.pc = .ok (.arraylength, 1)) :
    ∀ target, Steps p.tables e below (T.setTop { g with pc := g.pc + 1, stack := .int z :: rest }) target → Steps p.tables e below (T.setTop g) target := by
  obtain ⟨cl, A, r1, r2, r3⟩ := F
  subst hz r1
  exact fun t => X.arraylength hx (by rw [eT]; exact A.1) (State.isArrayOf_alike hZ.alike A.2.1) hg hs hd t
theorem toClamp {z : Int32} (q : 0 ≤ z.toInt) : z.toNatClampNeg.toInt32 = z := (back32 (fun h => by rw [Int32.lt_iff_toInt_lt] at h; have : (0 : Int32).toInt = 0 := rfl; omega)).1
theorem refCat {v : Value} (h : v.isRef = true) : v.category = 1 := by rcases ref_cases h with rfl | ⟨_, rfl⟩ <;> rfl
/-- an array that takes every object of the class C -/
def Tak (Z : State) (h : Heap) (a : Addr) (C : String) : Prop := ∃ (cell : Cell) (k kc : Class) (comp : ClassId) (t : FieldType), h[a]? = some cell ∧ Z.vm.classes[cell.cls]? = some k ∧ k.kind = .array comp t ∧ Z.vm.classes[comp]? = some kc ∧ Z.vm.findClass C = some comp
variable {C : String}
theorem Tak.ext (F : Tak Z h a C) (E : Ext h h') : Tak Z h' a C := by obtain ⟨cell, k, kc, comp, t, h1, r⟩ := F; exact ⟨cell, k, kc, comp, t, E.2 _ _ h1, r⟩
theorem Tak.wr (F : Tak Z h a C) (W : Wr h h' b sl v) : Tak Z h' a C := by
  obtain ⟨cell, k, kc, comp, t, h1, h2, r⟩ := F
  obtain ⟨c', e1, e2, -⟩ := wr_at W h1
  exact ⟨c', k, kc, comp, t, e1, by rw [e2]; exact h2, r⟩
theorem Tak.keep (F : Tak Z h a C) (K : Keep h h' ws) : Tak Z h' a C := by
  obtain ⟨cell, k, kc, comp, t, h1, h2, r⟩ := F
  obtain ⟨c', e1, e2, -⟩ := K.2.2 _ _ h1
  exact ⟨c', k, kc, comp, t, e1, by rw [e2]; exact h2, r⟩
theorem Tak.sto (F : Tak Z h a C) {y : Addr} (I : Ins Z h y C true) : Sto Z h a (.ref y) := by
  obtain ⟨cell, k, kc, comp, t, h1, h2, h3, h4, h5⟩ := F
  obtain ⟨cv, cT, g1, g2, g3⟩ := I
  cases h5.symm.trans g2
  simp only [Bool.and_eq_true, Bool.not_eq_true'] at g3
  have hv : ∃ kv, Z.vm.classes[cv.cls]? = some kv := by
    cases q : Z.vm.classes[cv.cls]? with
    | some kv => exact ⟨kv, rfl⟩
    | none =>
      by_cases e : cv.cls = comp
      · rw [e, h4] at q; cases q
      · have := g3.2
        simp [Vm.assignable, Vm.assignableAux, e, q] at this
  obtain ⟨kv, hkv⟩ := hv
  exact Or.inr ⟨cell, cv, k, kv, kc, comp, t, y, h1, h2, h3, h4, rfl, g1, g3.1, hkv, g3.2⟩
theorem Tak.of {cA : ClassId} {n : Int32} (A : Arr Z h a (newA cA ty n) ty) (O : Ovr Z cA C) : Tak Z h a C := by
  obtain ⟨k, comp, o1, o2, o3⟩ := O
  obtain ⟨kc, q, -⟩ := Vm.findClass_spec o3
  exact ⟨_, k, kc, comp, _, A.1, o1, o2, q, o3⟩
theorem Tak.ofA {cA : ClassId} {n : Int32} {ty' : FieldType} (A : Arr Z h a (newA cA ty n) ty) (O : OvrA Z cA ty' C) : Tak Z h a C := by
  obtain ⟨k, comp, o1, o2, o3⟩ := O
  obtain ⟨kc, q, -⟩ := Vm.findClass_spec o3
  exact ⟨_, k, kc, comp, _, A.1, o1, o2, q, o3⟩
theorem own_eqI {t : Term} {k : Int32} {args : Array Value} {first s : State} {o : Option Outcome} {idx : List Nat} (h : (Cond.eq t (.int k)).value args first o s idx = some true) : t.eval args first o idx s = some (.int k) := by
  simp only [Cond.value, Term.eval] at h
  cases ht : t.eval args first o idx s with
  | none => simp [ht] at h
  | some x => cases x <;> simp [ht] at h ⊢ <;> exact h
end Own
end Jvm.RoadKit
namespace Jvm.RoadKit
open Sem ClassFile Op Lib Jvm.Stand Jvm.Free Jvm.LawKit
section OwnC
variable {p : Program} {l : Launch} {e : Env} {R : Room} {s : State} {m : MethodId} {args : Array Value} {below : List Frame} {meth : Method} {c : Code} {T : State} {locs : List Loc} {cells slots : Nat} {Z : State} {h h' : Heap} {a b : Addr} {ty : FieldType} {n : Nat} {f f' : Nat → Value}
theorem own_selP {s : State} {args args' : Array Value} {y z : MethodName} {c : ClassId} {K : String} (hown : s.vm.findClass y.cls = some c) (hsel : (Cond.selects K z z).before args' s = true) (hz : z.cls = y.cls) (hp : (Cond.privateMethod y).before args s = true) (hi : (Cond.instanceMethod y).before args s = true)
    (hy : y.cls ≠ "java/lang/invoke/MethodHandle" ∧ y.cls ≠ "java/lang/invoke/VarHandle") : (Cond.selects y.cls y y).before args s = true := by
  obtain ⟨c2, r, m2, q1, q2, q3, q4, kP, q5, q6⟩ := Cond.selects_spec hsel
  have e : m2.cls = c := Option.some.inj ((findClass_of_methodNamed q3).symm.trans (by rw [hz]; exact hown))
  rw [e] at q5
  exact selects_self_of_private hown q5 q6 (Cond.privateMethod_at hp) hi hy
theorem own_getM (f : Nat → Value) {n i : Nat} (hi : i < n) (d : Value) : ((List.range n).map f).getD i d = f i := by
  rw [List.getD_eq_getElem?_getD]; simp [hi]
theorem own_toArv (A : Arf Z h a ty n f) (hfit : ∀ i, i < n → fits ty (f i) = true) : ∃ k, Arv Z h a k ty n.toInt32 ((List.range n).map f) .null := by
  obtain ⟨cl, A1, r1, r2, r3⟩ := A
  have zt : (n.toInt32).toInt = n := len_toInt r2
  have zc : (n.toInt32).toNatClampNeg = n := by show (n.toInt32).toInt.toNat = n; rw [zt]; rfl
  refine ⟨cl.cls, cl, A1, rfl, by rw [zc]; exact r1, fun q => ?_, fun j hj => ?_, fun j hj => ?_⟩
  · rw [Int32.lt_iff_toInt_lt, zt] at q; have k0 : (0 : Int32).toInt = 0 := rfl; omega
  · rw [own_getM f (by omega)]; exact r3 j (by omega)
  · rw [own_getM f (by omega)]; exact hfit j (by omega)
/-- System.arraycopy within one array -/
theorem own_cp (X : Stand p l e R s m args below meth c T locs cells slots) (hx : p.tables.exec = Jvm.exec) (hZ : Z.Warmed39 s.vm) {a0 : Array Value} {own : String} {index : Nat} (hown : s.vm.findClass own = some m.cls)
    (w1 : (Cond.methodLink own index Jvm.Stand.acN).before a0 Z = true) (w2 : (Cond.native Jvm.Stand.acN).before a0 Z = true) (w3 : (Cond.static Jvm.Stand.acN).before a0 Z = true) (w4 : (Cond.initialized "java/lang/System").before a0 Z = true) (eT : T.heap = h)
    (A : Arf Z h a ty n f) (hfit : ∀ i, i < n → fits ty (f i) = true) {sp dp nn : Int32} {S D K : Nat} (hty : refKind ty = false ∨ (refKind ty = true ∧ K = 0)) (h1 : ¬ sp < 0) (h2 : ¬ dp < 0) (h3 : ¬ nn < 0) (g1 : sp.toNatClampNeg = S) (g2 : dp.toNatClampNeg = D) (g3 : nn.toNatClampNeg = K) (h4 : S + K ≤ n) (h5 : D + K ≤ n)
    (hf' : ∀ i, i < n → f' i = if D ≤ i ∧ i < D + K then f (S + (i - D)) else f i) {n0 : Nat} (N : Fr n0 locs) (ge : n0 ≤ a)
    {g : JFrame} (hg : g.method = m) (hsize : g.locals.size = c.maxLocals) {rest : List Value} (hs : g.stack = .int nn :: .int dp :: .ref a :: .int sp :: .ref a :: rest) (hd : decode c.code g.pc = .ok (.invokestatic index, 3))
    (hf : 1 ≤ R.frames) {W : Nat} (hW : 2 * g.monitorRoom + (rest.map fun v => v.category).sum ≤ W) (hlo : W + (nativeFrameWords "java/lang/System" "arraycopy" 5 + 11) ≤ R.locals) :
    ∃ T' h' L, Stand p l e R s m args below meth c T' L cells slots ∧ T'.heap = h' ∧ Fr n0 L ∧ Keep h h' [a] ∧ Arf Z h' a ty n f' ∧
      ∀ target, Steps p.tables e below (T'.setTop { g with pc := g.pc + 3, stack := rest }) target → Steps p.tables e below (T.setTop g) target := by
  obtain ⟨cl0, -, -, r2, -⟩ := id A
  obtain ⟨k, AV⟩ := own_toArv A hfit
  have zt : (n.toInt32).toInt = n := len_toInt r2
  have zc : (n.toInt32).toNatClampNeg = n := by show (n.toInt32).toInt.toNat = n; rw [zt]; rfl
  obtain ⟨T', h', L, X', e', N', KK, B, st⟩ := cpA X hx hZ hown w1 w2 w3 w4 eT (sp := sp) (dp := dp) (nn := nn) AV AV (us := (List.range nn.toNatClampNeg).map fun i => ((List.range n).map f).getD (sp.toNatClampNeg + i) .null)
    (by rcases hty with q | ⟨q, q'⟩
        · exact Or.inl ⟨rfl, q⟩
        · refine Or.inr ⟨q, q, ?_⟩
          rw [g3, q']; exact trivial) h1 h2 h3 (by rw [g1, g3, zc]; exact h4) (by rw [g2, g3, zc]; exact h5) rfl (by rw [g2, g3]; simpa using h5) N ge hg hsize hs hd hf hW hlo
  refine ⟨T', h', L, X', e', N', KK, ?_, st⟩
  obtain ⟨c2, A2, -, S2, -, H2, -⟩ := B
  rw [zc] at S2
  refine ⟨c2, A2, S2, r2, fun i hi => ?_⟩
  rw [H2 i (by omega), g1, g2, g3, hf' i hi, List.getD_eq_getElem?_getD]
  congr 1
  by_cases c1 : i < D
  · rw [if_neg (by omega), List.append_assoc, List.getElem?_append_left (by simp; omega)]
    simp [c1, hi]
  · by_cases c3 : i < D + K
    · rw [if_pos ⟨by omega, c3⟩, List.append_assoc, List.getElem?_append_right (by simp; omega), List.getElem?_append_left (by simp; omega)]
      have q : S + (i - D) < n := by omega
      have q2 : i - min D n < K := by omega
      have q3 : min D n = D := by omega
      simp [q3, q2, q, own_getM]
      rw [q3] at q2
      simp [q2, q]
    · rw [if_neg (by omega), List.getElem?_append_right (by simp; omega)]
      simp
      have q : D + K + (i - (min D n + K)) = i := by omega
      simp [q, hi]
end OwnC
end Jvm.RoadKit
namespace Jvm.Pilot.@@N@@
open Jvm Jvm.ClassFile Sem Op Lib Jvm.Free Jvm.Stand Jvm.LawKit Jvm.RoadKit Bundle Jvm.Pilot.@@N@@.Jvm.D
theorem pd_0 : parseMethodDescriptor "(I)I" = some ⟨[.int], some .int⟩ := by decide +kernel
theorem pd_1 : parseMethodDescriptor "(IIJ)V" = some ⟨[.int, .int, .long], none⟩ := by decide +kernel
theorem pd_2 : parseMethodDescriptor "(II)J" = some ⟨[.int, .int], some .long⟩ := by decide +kernel
theorem pd_3 : parseMethodDescriptor "(JJ)I" = some ⟨[.long, .long], some .int⟩ := by decide +kernel
theorem pd_4 : parseMethodDescriptor "(IJJ)I" = some ⟨[.int, .long, .long], some .int⟩ := by decide +kernel
theorem pd_5 : parseMethodDescriptor "(I[II)V" = some ⟨[.int, (.array .int), .int], none⟩ := by decide +kernel
theorem pd_6 : parseMethodDescriptor "(I)V" = some ⟨[.int], none⟩ := by decide +kernel
theorem pd_7 : parseMethodDescriptor "(II)V" = some ⟨[.int, .int], none⟩ := by decide +kernel
theorem pd_8 : parseMethodDescriptor "()V" = some ⟨[], none⟩ := by decide +kernel
theorem pd_9 : parseMethodDescriptor "(JJJJJ)I" = some ⟨[.long, .long, .long, .long, .long], some .int⟩ := by decide +kernel
theorem pd_10 : parseMethodDescriptor "(Lcom/example/interval/interval/service/SlotTable;I)V" = some ⟨[(.object "com/example/interval/interval/service/SlotTable"), .int], none⟩ := by decide +kernel
theorem pd_11 : parseMethodDescriptor "([J[J[ZII)I" = some ⟨[(.array .long), (.array .long), (.array .boolean), .int, .int], some .int⟩ := by decide +kernel
theorem pd_12 : parseMethodDescriptor "()I" = some ⟨[], some .int⟩ := by decide +kernel
def oI (n : Nat) : Int32 := n.toInt32
theorem oI_t {n : Nat} (h : n < 1000) : (oI n).toInt = n := len_toInt (by omega)
theorem oI_c {n : Nat} (h : n < 1000) : (oI n).toNatClampNeg = n := by
  show (oI n).toInt.toNat = n
  rw [oI_t h]; rfl
theorem oI_add {a b : Nat} (h : a + b < 1000) : oI a + oI b = oI (a + b) := by
  have e := c_iadd (oI a) (oI b)
  rw [oI_t (by omega), oI_t (by omega)] at e
  have r := rng32 (oI a + oI b)
  rw [← Int32.toInt_inj, oI_t h]
  omega
theorem own_off {r : Nat} (h : r < 100) : (oI r &&& (4095 : Int32)) * (5 : Int32) = oI (5 * r) := by
  have e1 := c_mask (oI r) 4095 12 (by decide) (by decide)
  have e2 := c_imul (oI r &&& 4095) 5
  have k5 : (5 : Int32).toInt = 5 := rfl
  rw [oI_t (by omega)] at e1
  have e1' : (oI r &&& (4095 : Int32)).toInt = r := by omega
  have r1 := rng32 ((oI r &&& 4095) * 5)
  rw [← Int32.toInt_inj, oI_t (by omega)]
  rw [k5, e1'] at e2
  omega
theorem own_page {r : Nat} (h : r < 100) : (((oI r).toUInt32 >>> ((12 : Int32) &&& 31).toUInt32).toInt32) = 0 := by
  have e1 := c_iushr (oI r) 12 12 (by decide) (by decide)
  rw [oI_t (by omega)] at e1
  have k0 : (0 : Int32).toInt = 0 := rfl
  rw [← Int32.toInt_inj, k0]
  omega
def own_add (fa : Nat → Value) (n : Nat) (a b c d e : Int64) : Nat → Value := updv (updv (updv (updv (updv fa (5 * n + 0) (.long a)) (5 * n + 1) (.long b)) (5 * n + 2) (.long c)) (5 * n + 3) (.long d)) (5 * n + 4) (.long e)
def own_sel (a b c d e : Int64) (i : Nat) : Int64 := match i with | 0 => a | 1 => b | 2 => c | 3 => d | _ => e
theorem own_5 {j : Nat} (h : j < 5) : j = 0 ∨ j = 1 ∨ j = 2 ∨ j = 3 ∨ j = 4 := by omega
theorem own_addeq (fa : Nat → Value) (n : Nat) (a b c d e : Int64) {f : Nat} (hf : f < 5) : own_add fa n a b c d e (5 * n + f) = .long (own_sel a b c d e f) := by
  rcases own_5 hf with rfl | rfl | rfl | rfl | rfl <;> simp [own_add, Jvm.RoadKit.updv, own_sel]
theorem own_addne (fa : Nat → Value) (n : Nat) (a b c d e : Int64) {i : Nat} (hf : i < 5 * n ∨ 5 * n + 5 ≤ i) : own_add fa n a b c d e i = fa i := by
  unfold own_add Jvm.RoadKit.updv
  rw [if_neg (by omega), if_neg (by omega), if_neg (by omega), if_neg (by omega), if_neg (by omega)]
theorem oI_sub {a b : Nat} (h : b ≤ a) (ha : a < 1000) : oI a - oI b = oI (a - b) := by
  have e := c_isub (oI a) (oI b)
  rw [oI_t (by omega), oI_t (by omega)] at e
  have r := rng32 (oI a - oI b)
  rw [← Int32.toInt_inj, oI_t (by omega)]
  omega
theorem oI_half {a : Nat} (h : a < 1000) : (((oI a).toUInt32 >>> ((1 : Int32) &&& 31).toUInt32).toInt32) = oI (a / 2) := by
  have e1 := c_iushr (oI a) 1 1 (by decide) (by decide)
  rw [oI_t (by omega)] at e1
  rw [← Int32.toInt_inj, oI_t (by omega)]
  omega
theorem oI_nn {n : Nat} (h : n < 1000) : ¬ oI n < (0 : Int32) := fun q => by
  rw [Int32.lt_iff_toInt_lt, oI_t h] at q
  have k0 : (0 : Int32).toInt = 0 := rfl
  omega
theorem own_oin {n m : Nat} (h : n < m) (hm : m < 1000) : 0 ≤ (oI n).toInt ∧ (oI n).toInt < (m : Nat) := by rw [oI_t (by omega)]; omega
def own_lc (a b : Int64) : Int32 := if a < b then (-1) else if a = b then 0 else 1
def own_lt (a b v s : Int64) : Prop := a < v ∨ (a = v ∧ b < s)
def own_L (Vv Ss : Nat → Int64) (i r : Nat) : Prop := own_lt (Vv i) (Ss i) (Vv r) (Ss r)
theorem own_lc0 (a b : Int64) : own_lc a b = 0 ↔ a = b := by
  unfold own_lc
  by_cases h : a < b
  · rw [if_pos h]; exact ⟨fun q => absurd q (by decide), fun q => absurd (q ▸ h) (fun z => Int64.lt_irrefl z)⟩
  · rw [if_neg h]; by_cases h2 : a = b
    · rw [if_pos h2]; exact ⟨fun _ => h2, fun _ => rfl⟩
    · rw [if_neg h2]; exact ⟨fun q => absurd q (by decide), fun q => absurd q h2⟩
theorem own_lcn (a b : Int64) : own_lc a b < 0 ↔ a < b := by
  unfold own_lc
  by_cases h : a < b
  · rw [if_pos h]; exact ⟨fun _ => h, fun _ => by decide⟩
  · rw [if_neg h]; by_cases h2 : a = b
    · rw [if_pos h2]; exact ⟨fun q => absurd q (by decide), fun q => absurd q h⟩
    · rw [if_neg h2]; exact ⟨fun q => absurd q (by decide), fun q => absurd q h⟩
theorem own_c1 {a b v s : Int64} (h : own_lc a v = (0 : Int32)) : own_lc b s < 0 ↔ own_lt a b v s := by
  rw [own_lcn]
  have e := (own_lc0 a v).mp h
  exact ⟨fun q => Or.inr ⟨e, q⟩, fun q => q.elim (fun r => absurd (e ▸ r) (fun z => Int64.lt_irrefl z)) (fun r => r.2)⟩
theorem own_c2 {a b v s : Int64} (h : ¬ own_lc a v = (0 : Int32)) : own_lc a v < 0 ↔ own_lt a b v s := by
  rw [own_lcn]
  exact ⟨fun q => Or.inl q, fun q => q.elim id (fun r => absurd ((own_lc0 a v).mpr r.1) h)⟩
theorem own_no {Vv Ss : Nat → Int64} {i q : Nat} (h1 : ¬ lcmpW (Vv i) (Vv q) < (0 : Int32)) (h2 : (¬ lcmpW (Vv i) (Vv q) = (0 : Int32)) ∨ ¬ lcmpW (Ss i) (Ss q) < (0 : Int32)) : ¬ own_L Vv Ss i q := by
  rintro (r | ⟨r1, r2⟩)
  · exact h1 ((lw_lt _ _).mpr r)
  · exact h2.elim (fun z => z ((lw_eq _ _).mpr r1)) (fun z => z ((lw_lt _ _).mpr r2))
def own_tb (fa : Nat → Value) (fl : Nat) (Vv Ss : Nat → Int64) : Prop := ∀ r, r < 3 → fa (5 * r + fl) = .long (Vv r) ∧ fa (5 * r + 0) = .long (Ss r)
def own_at (Vv Ss : Nat → Int64) (xs : Nat → Nat) (kn r j : Nat) : Prop := j ≤ kn ∧ (∀ i, i < j → own_L Vv Ss (xs i) r) ∧ (∀ i, j ≤ i → i < kn → ¬ own_L Vv Ss (xs i) r)
def own_mv (xs : Nat → Nat) (sp dp nn : Nat) : Nat → Nat := fun i => if dp ≤ i ∧ i < dp + nn then xs (sp + (i - dp)) else xs i
def own_ins (xs : Nat → Nat) (j r kn : Nat) : Nat → Nat := fun i => if i = j then r else own_mv xs j (j + 1) (kn - j) i
theorem own_mvf (xs : Nat → Nat) (S D N i : Nat) : (fun i => Value.int (oI (own_mv xs S D N i))) i = if D ≤ i ∧ i < D + N then (fun i => Value.int (oI (xs i))) (S + (i - D)) else (fun i => Value.int (oI (xs i))) i := by
  show Value.int (oI (own_mv xs S D N i)) = _
  unfold own_mv
  split <;> rfl
theorem own_insf (xs : Nat → Nat) (j r kn i : Nat) : updv (fun i => Value.int (oI (own_mv xs j (j + 1) (kn - j) i))) j (.int (oI r)) i = (fun i => Value.int (oI (own_ins xs j r kn i))) i := by
  show (if i = j then _ else _) = Value.int (oI (own_ins xs j r kn i))
  unfold own_ins
  split <;> rfl
theorem own_bs_end {Vv Ss : Nat → Int64} {xs : Nat → Nat} {kn r lo hi : Nat} (g1 : ∀ i, i < lo → own_L Vv Ss (xs i) r) (g2 : ∀ i, hi ≤ i → i < kn → ¬ own_L Vv Ss (xs i) r) (g3 : lo ≤ hi ∧ hi ≤ kn) (h : hi ≤ lo) : own_at Vv Ss xs kn r lo :=
  ⟨by omega, g1, fun i h1 h2 => g2 i (by omega) h2⟩
theorem own_bs1 {Vv Ss : Nat → Int64} {xs : Nat → Nat} {kn r lo hi : Nat} (hm : ∀ i i', i < i' → i' < kn → own_L Vv Ss (xs i') r → own_L Vv Ss (xs i) r) (_g1 : ∀ i, i < lo → own_L Vv Ss (xs i) r) (g3 : lo ≤ hi ∧ hi ≤ kn) (h : lo < hi) (q : own_L Vv Ss (xs ((lo + hi) / 2)) r) : ∀ i, i < (lo + hi) / 2 + 1 → own_L Vv Ss (xs i) r := fun i hi' => by
  by_cases e : i = (lo + hi) / 2
  · rw [e]; exact q
  · exact hm i ((lo + hi) / 2) (by omega) (by omega) q
theorem own_bs2 {Vv Ss : Nat → Int64} {xs : Nat → Nat} {kn r lo hi : Nat} (hm : ∀ i i', i < i' → i' < kn → own_L Vv Ss (xs i') r → own_L Vv Ss (xs i) r) (_g2 : ∀ i, hi ≤ i → i < kn → ¬ own_L Vv Ss (xs i) r) (_g3 : lo ≤ hi ∧ hi ≤ kn) (_h : lo < hi) (q : ¬ own_L Vv Ss (xs ((lo + hi) / 2)) r) : ∀ i, (lo + hi) / 2 ≤ i → i < kn → ¬ own_L Vv Ss (xs i) r := fun i h1 h2 => by
  by_cases e : i = (lo + hi) / 2
  · rw [e]; exact q
  · exact fun z => q (hm ((lo + hi) / 2) i (by omega) h2 z)
/-- the run's first kn places hold the members, in order -/
def own_S (Vv Ss : Nat → Int64) (kn : Nat) (xs : Nat → Nat) (bv : Nat → Int32) : Prop :=
  kn ≤ 3 ∧ (∀ i, i < kn → xs i < 3 ∧ bv (xs i) = 1) ∧ (∀ i j, i < j → j < kn → own_L Vv Ss (xs i) (xs j)) ∧ (∀ r, r < 3 → bv r = 1 → ∃ i, i < kn ∧ xs i = r)
/-- the rows' order is total -/
def own_T (Vv Ss : Nat → Int64) : Prop := ∀ i j, i < 3 → j < 3 → i ≠ j → own_L Vv Ss i j ∨ own_L Vv Ss j i
theorem own_irr (Vv Ss : Nat → Int64) (i : Nat) : ¬ own_L Vv Ss i i := by
  rintro (q | ⟨-, q⟩) <;> exact Int64.lt_irrefl q
theorem own_tr {Vv Ss : Nat → Int64} {i j k : Nat} (h1 : own_L Vv Ss i j) (h2 : own_L Vv Ss j k) : own_L Vv Ss i k := by
  unfold own_L own_lt at *
  simp only [Int64.lt_iff_toInt_lt, ← Int64.toInt_inj] at *
  omega
def own_up (bv : Nat → Int32) (r : Nat) (b : Int32) : Nat → Int32 := fun i => if i = r then b else bv i
theorem own_in1 (xs : Nat → Nat) (j r kn : Nat) {i : Nat} (h : i < j) : own_ins xs j r kn i = xs i := by unfold own_ins own_mv; rw [if_neg (by omega), if_neg (by omega)]
theorem own_in2 (xs : Nat → Nat) (j r kn : Nat) : own_ins xs j r kn j = r := by unfold own_ins; rw [if_pos rfl]
theorem own_in3 (xs : Nat → Nat) (j r kn : Nat) {i : Nat} (h : j < i) (h2 : i ≤ kn) : own_ins xs j r kn i = xs (i - 1) := by
  unfold own_ins own_mv
  rw [if_neg (by omega), if_pos (by omega)]
  congr 1; omega
theorem own_Smono {Vv Ss : Nat → Int64} {kn : Nat} {xs : Nat → Nat} {bv : Nat → Int32} (h : own_S Vv Ss kn xs bv) {r : Nat} : ∀ i i', i < i' → i' < kn → own_L Vv Ss (xs i') r → own_L Vv Ss (xs i) r := fun i i' h1 h2 q => own_tr (h.2.2.1 i i' h1 h2) q
theorem own_S0 (Vv Ss : Nat → Int64) (xs : Nat → Nat) {bv : Nat → Int32} (h : ∀ r, r < 3 → bv r = 0) : own_S Vv Ss 0 xs bv :=
  ⟨by omega, fun i hi => absurd hi (Nat.not_lt_zero _), fun i j _ hi => absurd hi (Nat.not_lt_zero _), fun r hr q => by rw [h r hr] at q; exact absurd q (by decide)⟩
theorem own_Sadd {Vv Ss : Nat → Int64} (t : own_T Vv Ss) {kn : Nat} {xs : Nat → Nat} {bv : Nat → Int32} (h : own_S Vv Ss kn xs bv) {r j : Nat} (hr : r < 3) (hb : bv r = 0) (hk : kn ≤ 2) (A : own_at Vv Ss xs kn r j) : own_S Vv Ss (kn + 1) (own_ins xs j r kn) (own_up bv r 1) := by
  obtain ⟨-, h2, h3, h4⟩ := h
  obtain ⟨a1, a2, a3⟩ := A
  have ne : ∀ i, i < kn → xs i ≠ r := fun i hi q => by have z := (h2 i hi).2; rw [q, hb] at z; exact absurd z (by decide)
  refine ⟨by omega, fun i hi => ?_, fun i i' h5 h6 => ?_, fun r' hr' q => ?_⟩
  · rcases Nat.lt_trichotomy i j with c | c | c
    · rw [own_in1 _ _ _ _ c]; refine ⟨(h2 i (by omega)).1, ?_⟩; unfold own_up; rw [if_neg (ne i (by omega))]; exact (h2 i (by omega)).2
    · rw [c, own_in2]; exact ⟨hr, by unfold own_up; rw [if_pos rfl]⟩
    · rw [own_in3 _ _ _ _ c (by omega)]; refine ⟨(h2 (i - 1) (by omega)).1, ?_⟩; unfold own_up; rw [if_neg (ne (i - 1) (by omega))]; exact (h2 (i - 1) (by omega)).2
  · rcases Nat.lt_trichotomy i j with c | c | c <;> rcases Nat.lt_trichotomy i' j with d | d | d
    · rw [own_in1 _ _ _ _ c, own_in1 _ _ _ _ d]; exact h3 _ _ h5 (by omega)
    · rw [own_in1 _ _ _ _ c, d, own_in2]; exact a2 i c
    · rw [own_in1 _ _ _ _ c, own_in3 _ _ _ _ d (by omega)]; exact h3 _ _ (by omega) (by omega)
    · omega
    · omega
    · rw [c, own_in2, own_in3 _ _ _ _ d (by omega)]
      exact (t r (xs (i' - 1)) hr (h2 _ (by omega)).1 (fun q => ne _ (by omega) q.symm)).elim id (fun q => absurd q (a3 _ (by omega) (by omega)))
    · omega
    · omega
    · rw [own_in3 _ _ _ _ c (by omega), own_in3 _ _ _ _ d (by omega)]; exact h3 _ _ (by omega) (by omega)
  · by_cases e : r' = r
    · exact ⟨j, by omega, by rw [own_in2, e]⟩
    · have q' : bv r' = 1 := by unfold own_up at q; rwa [if_neg e] at q
      obtain ⟨i, hi, ei⟩ := h4 r' hr' q'
      by_cases c : i < j
      · exact ⟨i, by omega, by rw [own_in1 _ _ _ _ c, ei]⟩
      · exact ⟨i + 1, by omega, by rw [own_in3 _ _ _ _ (by omega) (by omega)]; exact ei⟩
theorem own_Sfind {Vv Ss : Nat → Int64} {kn : Nat} {xs : Nat → Nat} {bv : Nat → Int32} (h : own_S Vv Ss kn xs bv) {r : Nat} (hr : r < 3) (hb : bv r = 1) (j : Nat) (A : own_at Vv Ss xs kn r j) : j < kn ∧ xs j = r := by
  obtain ⟨-, h2, h3, h4⟩ := h
  obtain ⟨a1, a2, a3⟩ := A
  obtain ⟨i, hi, ei⟩ := h4 r hr hb
  by_cases c : i < j
  · have q := a2 i c; rw [ei] at q; exact absurd q (own_irr _ _ _)
  · by_cases d : j = i
    · rw [d]; exact ⟨hi, ei⟩
    · have q := h3 j i (by omega) hi; rw [ei] at q; exact absurd q (a3 j (Nat.le_refl _) (by omega))
theorem own_mv1 (xs : Nat → Nat) (kn : Nat) {j i : Nat} (h : i < j) : own_mv xs (j + 1) j (kn - j - 1) i = xs i := by unfold own_mv; rw [if_neg (by omega)]
theorem own_mv2 (xs : Nat → Nat) (kn : Nat) {j i : Nat} (h : j ≤ i) (h2 : i < kn - 1) : own_mv xs (j + 1) j (kn - j - 1) i = xs (i + 1) := by
  unfold own_mv
  rw [if_pos (by omega)]
  congr 1; omega
theorem own_Srem {Vv Ss : Nat → Int64} {kn : Nat} {xs : Nat → Nat} {bv : Nat → Int32} (h : own_S Vv Ss kn xs bv) {r j : Nat} (hj : j < kn) (ej : xs j = r) : own_S Vv Ss (kn - 1) (own_mv xs (j + 1) j (kn - j - 1)) (own_up bv r 0) := by
  obtain ⟨h1, h2, h3, h4⟩ := h
  have ne : ∀ i, i < kn → i ≠ j → xs i ≠ r := fun i hi q z => by
    rcases Nat.lt_or_gt_of_ne q with c | c
    · have w := h3 i j c hj; rw [z, ej] at w; exact own_irr _ _ _ w
    · have w := h3 j i c hi; rw [z, ej] at w; exact own_irr _ _ _ w
  refine ⟨by omega, fun i hi => ?_, fun i i' h5 h6 => ?_, fun r' hr' q => ?_⟩
  · by_cases c : i < j
    · rw [own_mv1 _ _ c]; refine ⟨(h2 i (by omega)).1, ?_⟩; unfold own_up; rw [if_neg (ne i (by omega) (by omega))]; exact (h2 i (by omega)).2
    · rw [own_mv2 _ _ (by omega) hi]; refine ⟨(h2 (i + 1) (by omega)).1, ?_⟩; unfold own_up; rw [if_neg (ne (i + 1) (by omega) (by omega))]; exact (h2 (i + 1) (by omega)).2
  · by_cases c : i < j <;> by_cases d : i' < j
    · rw [own_mv1 _ _ c, own_mv1 _ _ d]; exact h3 _ _ h5 (by omega)
    · rw [own_mv1 _ _ c, own_mv2 _ _ (by omega) h6]; exact h3 _ _ (by omega) (by omega)
    · omega
    · rw [own_mv2 _ _ (by omega) (by omega), own_mv2 _ _ (by omega) h6]; exact h3 _ _ (by omega) (by omega)
  · have e : r' ≠ r := fun e => by unfold own_up at q; rw [if_pos e] at q; exact absurd q (by decide)
    have q' : bv r' = 1 := by unfold own_up at q; rwa [if_neg e] at q
    obtain ⟨i, hi, ei⟩ := h4 r' hr' q'
    have d : i ≠ j := fun d => e (by rw [← ei, d, ej])
    by_cases c : i < j
    · exact ⟨i, by omega, by rw [own_mv1 _ _ c, ei]⟩
    · exact ⟨i - 1, by omega, by rw [own_mv2 _ _ (by omega) (by omega), Nat.sub_add_cancel (by omega)]; exact ei⟩
theorem own_S1 {Vv Ss : Nat → Int64} {xs : Nat → Nat} {bv : Nat → Int32} (h : own_S Vv Ss 1 xs bv) (hbv : ∀ i, i < 3 → bv i = 0 ∨ bv i = 1) {r : Nat} (hr : r < 3) (hb : bv r = 1) : ∀ i, i < 3 → own_up bv r 0 i = 0 := fun i hi => by
  unfold own_up
  by_cases e : i = r
  · rw [if_pos e]
  · rw [if_neg e]
    refine (hbv i hi).elim id (fun q => absurd ?_ e)
    obtain ⟨a, ha, ea⟩ := h.2.2.2 i hi q
    obtain ⟨b, hb', eb⟩ := h.2.2.2 r hr hb
    rw [← ea, ← eb, show a = b by omega]
theorem own_up01 {bv : Nat → Int32} (hbv : ∀ i, i < 3 → bv i = 0 ∨ bv i = 1) (r : Nat) : ∀ i, i < 3 → own_up bv r 0 i = 0 ∨ own_up bv r 0 i = 1 := fun i hi => by
  unfold own_up
  split
  · exact Or.inl rfl
  · exact hbv i hi
theorem own_is1 {bv : Nat → Int32} (hbv : ∀ i, i < 3 → bv i = 0 ∨ bv i = 1) {i : Nat} (hi : i < 3) (h : ¬ bv i = (0 : Int32)) : bv i = 1 := (hbv i hi).elim (fun q => absurd q h) id
theorem own_fin {Vv Ss : Nat → Int64} {kn : Nat} {xs : Nat → Nat} {bv : Nat → Int32} (h : own_S Vv Ss kn xs bv) {q : Nat} (hq : q < 3) (hb : bv q = 1) (hm : ∀ i, i < 3 → bv i = 1 → ¬ own_L Vv Ss i q) : xs 0 = q := by
  obtain ⟨-, h2, h3, h4⟩ := h
  obtain ⟨i, hi, ei⟩ := h4 q hq hb
  by_cases c : i = 0
  · rw [← ei, c]
  · have z := h3 0 i (by omega) hi
    rw [ei] at z
    exact absurd z (hm _ (h2 0 (by omega)).1 (h2 0 (by omega)).2)
/-- the least of the first i members -/
def own_M (Vv Ss : Nat → Int64) (bv : Nat → Int32) (i q : Nat) : Prop := q < i ∧ bv q = 1 ∧ ∀ a, a < i → bv a = 1 → ¬ own_L Vv Ss a q
theorem own_M1 {Vv Ss : Nat → Int64} {bv : Nat → Int32} {i : Nat} (h0 : ∀ a, a < i → bv a = 0) (h1 : bv i = 1) : own_M Vv Ss bv (i + 1) i :=
  ⟨by omega, h1, fun a ha hb => by
    by_cases e : a = i
    · rw [e]; exact own_irr _ _ _
    · rw [h0 a (by omega)] at hb; exact absurd hb (by decide)⟩
theorem own_M2 {Vv Ss : Nat → Int64} {bv : Nat → Int32} {i q : Nat} (h : own_M Vv Ss bv i q) (h0 : bv i = 0) : own_M Vv Ss bv (i + 1) q :=
  ⟨by have := h.1; omega, h.2.1, fun a ha hb => by
    by_cases e : a = i
    · rw [e, h0] at hb; exact absurd hb (by decide)
    · exact h.2.2 a (by omega) hb⟩
theorem own_M3 {Vv Ss : Nat → Int64} {bv : Nat → Int32} {i q q' : Nat} (h : own_M Vv Ss bv i q) (h1 : bv i = 1) (c : (own_L Vv Ss i q ∧ q' = i) ∨ (¬ own_L Vv Ss i q ∧ q' = q)) : own_M Vv Ss bv (i + 1) q' := by
  obtain ⟨m1, m2, m3⟩ := h
  rcases c with ⟨c1, rfl⟩ | ⟨c1, rfl⟩
  · refine ⟨by omega, h1, fun a ha hb => ?_⟩
    by_cases e : a = q'
    · rw [e]; exact own_irr _ _ _
    · exact fun z => m3 a (by omega) hb (own_tr z c1)
  · refine ⟨by omega, m2, fun a ha hb => ?_⟩
    by_cases e : a = i
    · rw [e]; exact c1
    · exact m3 a (by omega) hb
theorem own_none {Vv Ss : Nat → Int64} {kn : Nat} {xs : Nat → Nat} {bv : Nat → Int32} (h : own_S Vv Ss kn xs bv) (hk : 1 ≤ kn) (h0 : ∀ a, a < 3 → bv a = 0) : False := by
  have q := h.2.1 0 (by omega)
  rw [h0 _ q.1] at q
  exact absurd q.2 (by decide)
def own_q3 (a b c : Int64) : Nat → Int64 := fun i => if i = 0 then a else if i = 1 then b else c
def own_b3 (a b c : Int32) : Nat → Int32 := fun i => if i = 0 then a else if i = 1 then b else c
def own_vv (fl : Nat) (S R : Nat → Int64) : Nat → Int64 := fun i => if fl = 0 then S i else R i
theorem own_3c {i : Nat} (h : i < 3) : i = 0 ∨ i = 1 ∨ i = 2 := by omega
theorem own_fl0 {fl : Nat} (h : fl < 5) : oI fl = (0 : Int32) ↔ fl = 0 := by
  constructor
  · intro q; have e := oI_t (n := fl) (by omega); rw [q] at e; have k0 : (0 : Int32).toInt = 0 := rfl; omega
  · rintro rfl; rfl
theorem own_sl {fl : Nat} (h : fl < 5) (a b : Int64) : own_sel a b b b b fl = if fl = 0 then a else b := by
  rcases own_5 h with rfl | rfl | rfl | rfl | rfl <;> rfl
def own_tf (S0 S1 S2 R0 R1 R2 : Int64) : Nat → Value := own_add (own_add (own_add (fun _ => .long 0) 0 S0 R0 R0 R0 R0) (0 + 1) S1 R1 R1 R1 R1) (0 + 1 + 1) S2 R2 R2 R2 R2
theorem own_tab {fl : Nat} (hf : fl < 5) (S0 S1 S2 R0 R1 R2 : Int64) : own_tb (own_tf S0 S1 S2 R0 R1 R2) fl (own_vv fl (own_q3 S0 S1 S2) (own_q3 R0 R1 R2)) (own_q3 S0 S1 S2) := by
  have key : ∀ g, g < 5 → own_tf S0 S1 S2 R0 R1 R2 (5 * 0 + g) = .long (if g = 0 then S0 else R0) ∧ own_tf S0 S1 S2 R0 R1 R2 (5 * 1 + g) = .long (if g = 0 then S1 else R1) ∧ own_tf S0 S1 S2 R0 R1 R2 (5 * 2 + g) = .long (if g = 0 then S2 else R2) := by
    intro g hg
    unfold own_tf
    refine ⟨?_, ?_, ?_⟩
    · rw [own_addne _ _ _ _ _ _ _ (by omega), own_addne _ _ _ _ _ _ _ (by omega), own_addeq _ 0 _ _ _ _ _ hg, own_sl hg]
    · rw [own_addne _ _ _ _ _ _ _ (by omega), own_addeq _ (0 + 1) _ _ _ _ _ hg, own_sl hg]
    · rw [own_addeq _ (0 + 1 + 1) _ _ _ _ _ hg, own_sl hg]
  intro r hr
  obtain ⟨a1, a2, a3⟩ := key fl hf
  obtain ⟨b1, b2, b3⟩ := key 0 (by decide)
  rcases own_3c hr with rfl | rfl | rfl
  · exact ⟨a1, b1⟩
  · exact ⟨a2, b2⟩
  · exact ⟨a3, b3⟩
theorem own_seqne {b : Int64} {x y : Int32} (h : x ≠ y) : b + x.toInt64 ≠ b + y.toInt64 := fun q => h (by
  have e := congrArg Int64.toInt q
  have e1 := c_ladd b x.toInt64
  have e2 := c_ladd b y.toInt64
  rw [c_i2l] at e1 e2
  have r1 := rng32 x
  have r2 := rng32 y
  rw [← Int32.toInt_inj]
  omega)
theorem own_tot {fl : Nat} {S0 S1 S2 R0 R1 R2 : Int64} (h01 : S0 ≠ S1) (h02 : S0 ≠ S2) (h12 : S1 ≠ S2) : own_T (own_vv fl (own_q3 S0 S1 S2) (own_q3 R0 R1 R2)) (own_q3 S0 S1 S2) := by
  have key : ∀ (V : Nat → Int64) (i j : Nat), own_q3 S0 S1 S2 i ≠ own_q3 S0 S1 S2 j → own_L V (own_q3 S0 S1 S2) i j ∨ own_L V (own_q3 S0 S1 S2) j i := by
    intro V i j hne
    unfold own_L own_lt
    simp only [Int64.lt_iff_toInt_lt, ← Int64.toInt_inj] at *
    have : (own_q3 S0 S1 S2 i).toInt ≠ (own_q3 S0 S1 S2 j).toInt := fun q => hne (Int64.toInt_inj.mp q)
    omega
  intro i j hi hj ne
  refine key _ i j ?_
  rcases own_3c hi with rfl | rfl | rfl <;> rcases own_3c hj with rfl | rfl | rfl <;> first | exact absurd rfl ne | exact h01 | exact h02 | exact h12 | exact h01.symm | exact h02.symm | exact h12.symm
theorem own_p6 (x : Int32) {g : Int32} (h : (x &&& (7 : Int32)) % (6 : Int32) = g) : g = 0 ∨ g = 1 ∨ g = 2 ∨ g = 3 ∨ g = 4 ∨ g = 5 := by
  have e1 := c_mask x 7 3 (by decide) (by decide)
  have e2 := c_irem (x &&& 7) 6 6 rfl
  rw [h] at e2
  simp only [← Int32.toInt_inj]
  have k0 : (0 : Int32).toInt = 0 := rfl
  have k1 : (1 : Int32).toInt = 1 := rfl
  have k2 : (2 : Int32).toInt = 2 := rfl
  have k3 : (3 : Int32).toInt = 3 := rfl
  have k4 : (4 : Int32).toInt = 4 := rfl
  have k5 : (5 : Int32).toInt = 5 := rfl
  omega
theorem own_fg (x : Int32) {g : Int32} (h : (((x.toUInt32 >>> ((3 : Int32) &&& 31).toUInt32).toInt32) &&& (7 : Int32)) % (5 : Int32) = g) : ∃ f : Nat, f < 5 ∧ g = oI f := by
  have e1 := c_mask ((x.toUInt32 >>> ((3 : Int32) &&& 31).toUInt32).toInt32) 7 3 (by decide) (by decide)
  have e2 := c_irem (((x.toUInt32 >>> ((3 : Int32) &&& 31).toUInt32).toInt32) &&& 7) 5 5 rfl
  rw [h] at e2
  refine ⟨g.toInt.toNat, by omega, ?_⟩
  rw [← Int32.toInt_inj, oI_t (by omega)]
  omega
theorem own_rg (x : Int32) {g : Int32} (h : (((x.toUInt32 >>> ((12 : Int32) &&& 31).toUInt32).toInt32) &&& (3 : Int32)) % (3 : Int32) = g) : ∃ f : Nat, f < 3 ∧ g = oI f := by
  have e1 := c_mask ((x.toUInt32 >>> ((12 : Int32) &&& 31).toUInt32).toInt32) 3 2 (by decide) (by decide)
  have e2 := c_irem (((x.toUInt32 >>> ((12 : Int32) &&& 31).toUInt32).toInt32) &&& 3) 3 3 rfl
  rw [h] at e2
  refine ⟨g.toInt.toNat, by omega, ?_⟩
  rw [← Int32.toInt_inj, oI_t (by omega)]
  omega
theorem own_nb {b : Int32} (h : b = 0 ∨ b = 1) : nar .boolean b = b := by rcases h with rfl | rfl <;> decide
theorem own_b01 {a b c : Int32} (ha : a = 0 ∨ a = 1) (hb : b = 0 ∨ b = 1) (hc : c = 0 ∨ c = 1) : ∀ i, i < 3 → own_b3 a b c i = 0 ∨ own_b3 a b c i = 1 := fun i hi => by
  rcases own_3c hi with rfl | rfl | rfl
  · exact ha
  · exact hb
  · exact hc
theorem own_Scg {Vv Ss : Nat → Int64} {kn : Nat} {xs : Nat → Nat} {bv bw : Nat → Int32} (h : own_S Vv Ss kn xs bv) (q : ∀ i, i < 3 → bv i = bw i) : own_S Vv Ss kn xs bw :=
  ⟨h.1, fun i hi => ⟨(h.2.1 i hi).1, by rw [← q _ (h.2.1 i hi).1]; exact (h.2.1 i hi).2⟩, h.2.2.1, fun r hr z => h.2.2.2 r hr (by rw [q r hr]; exact z)⟩
theorem d4_0 : decode prog_28_method_8_code 0 = .ok (.iload_n 0, 1) := by decide +kernel
theorem d4_1 : decode prog_28_method_8_code 1 = .ok (.sipush 4095, 3) := by decide +kernel
theorem d4_4 : decode prog_28_method_8_code 4 = .ok (.iand, 1) := by decide +kernel
theorem d4_5 : decode prog_28_method_8_code 5 = .ok (.iconst 5, 1) := by decide +kernel
theorem d4_6 : decode prog_28_method_8_code 6 = .ok (.imul, 1) := by decide +kernel
theorem d4_7 : decode prog_28_method_8_code 7 = .ok (.ireturn, 1) := by decide +kernel
theorem pn_4 : plainName "com/example/interval/interval/service/SlotTable" = true := by first | (simp [plainName, overriddenIn]; done) | decide +kernel
def Qrm4 (Z : State) (r : Nat) (h0 : Heap) (n0 : Nat) (v : Option Value) (h : Heap) (L : List Loc) : Prop := v = some (.int (oI (5 * r))) ∧ Fr n0 L ∧ h = h0
set_option maxRecDepth 65536 in
set_option maxHeartbeats 40000000 in
theorem rm4 (l : Launch) (Z : State) (a0 : Array Value) (hw : ∀ d ∈ tables_1, d.before a0 Z = true) (ws : List Jvm.Cond) (r : Nat) (h0 : Heap) (n0 : Nat) (Z0 : n0 ≤ h0.size) (hr : r < 100) :
    MetFree l (⟨"com/example/interval/interval/service/SlotTable", "offset", "(I)I"⟩ : MethodName) (head1 (Jvm.Cond.code (⟨"com/example/interval/interval/service/SlotTable", "offset", "(I)I"⟩ : MethodName) prog_28_method_8_code 1 (some .int) :: ws) ({ frames := 0, cells := 0, slots := 0, locals := 0 } : Room)) (fun a U => a = #[(.int (oI r))] ∧ Z.Warmed39 U.vm ∧ U.heap = h0) (fun _ _ _ _ _ => True) (fun _ U o U' => ∃ v L, o = .returned v ∧ Qrm4 Z r h0 n0 v U'.heap L ∧ FrameEnd U o U' L ({ frames := 0, cells := 0, slots := 0, locals := 0 } : Room).cells ({ frames := 0, cells := 0, slots := 0, locals := 0 } : Room).slots) := by
  refine MetFree.of_bodySF (plainFor_of_name pn_4) hisR ?_
  intro p e s m args below meth c s₁ Bd hml0 hP hK
  obtain ⟨rfl, hZ, hh⟩ := hP
  have hx := Bd.exec
  have hby := Bd.bytes
  have hml : c.maxLocals = 1 := hml0
  have hown : s.vm.findClass "com/example/interval/interval/service/SlotTable" = some m.cls := findClass_of_methodNamed Bd.named
  have hnm := (name_of_methodNamed Bd.named Bd.method).1
  have X0 : Stand p l e ({ frames := 0, cells := 0, slots := 0, locals := 0 } : Room) s m #[(.int (oI r))] below meth c s₁ [] 0 0 := Stand.of_body Bd
  have e0 : s₁.heap = h0 := by rw [← hh, Bd.state]; rfl
  have N0 := Fr.nil n0
  have ZZ := Z0
  show Go p e below s (Qrm4 Z r h0 n0) 0 0 (s₁.setTop (entryFrame m #[(.int (oI r))] 1))
  generalize hQQ : (Qrm4 Z r h0 n0) = QQ
  refine gs (fun t k => castTop (g' := (mkF m 0 #[iv (oI r)] [])) (by first | (simp [entryFrame, mkF, argsToLocals, Value.category, maxLocals]; done) | rfl) k) ?_
  show Go p e below s QQ 0 0 (s₁.setTop (mkF m 0 #[iv (oI r)] []))
  refine gs (fun t => XS.iloadN X0.here hx rfl (hb hby d4_0) rfl) ?_
  refine gs (fun t => XS.sipush X0.here hx rfl (hb hby d4_1)) ?_
  refine gs (fun t => XS.iand X0.here hx rfl (hb hby d4_4) rfl) ?_
  refine gs (fun t => XS.iconst X0.here hx rfl (hb hby d4_5)) ?_
  refine gs (fun t => XS.imul X0.here hx rfl (hb hby d4_6) rfl) ?_
  show Go p e below s QQ 0 0 (s₁.setTop (mkF m 7 #[iv (oI r)] [(.int (((oI r) &&& (4095 : Int32)) * (5 : Int32)))]))
  rw [show (((oI r) &&& (4095 : Int32)) * (5 : Int32)) = (oI (5 * r)) from own_off hr]
  show Go p e below s QQ 0 0 (s₁.setTop (mkF m 7 #[iv (oI r)] [(.int (oI (5 * r)))]))
  exact goI X0 hx Bd.notSynchronized Bd.returns (hb hby d4_7) (by rw [← hQQ, e0]; exact ⟨rfl, N0, rfl⟩) (by decide) (by decide)
theorem d5_0 : decode prog_28_method_4_code 0 = .ok (.aload_n 0, 1) := by decide +kernel
theorem d5_1 : decode prog_28_method_4_code 1 = .ok (.getfield 11, 3) := by decide +kernel
theorem d5_4 : decode prog_28_method_4_code 4 = .ok (.iload_n 1, 1) := by decide +kernel
theorem d5_5 : decode prog_28_method_4_code 5 = .ok (.bipush 12, 2) := by decide +kernel
theorem d5_7 : decode prog_28_method_4_code 7 = .ok (.iushr, 1) := by decide +kernel
theorem d5_8 : decode prog_28_method_4_code 8 = .ok (.aaload, 1) := by decide +kernel
theorem d5_9 : decode prog_28_method_4_code 9 = .ok (.iload_n 1, 1) := by decide +kernel
theorem d5_10 : decode prog_28_method_4_code 10 = .ok (.invokestatic 19, 3) := by decide +kernel
theorem d5_13 : decode prog_28_method_4_code 13 = .ok (.iload_n 2, 1) := by decide +kernel
theorem d5_14 : decode prog_28_method_4_code 14 = .ok (.iadd, 1) := by decide +kernel
theorem d5_15 : decode prog_28_method_4_code 15 = .ok (.lload_n 3, 1) := by decide +kernel
theorem d5_16 : decode prog_28_method_4_code 16 = .ok (.lastore, 1) := by decide +kernel
theorem d5_17 : decode prog_28_method_4_code 17 = .ok (.return_, 1) := by decide +kernel
theorem pn_5 : plainName "com/example/interval/interval/service/SlotTable" = true := by first | (simp [plainName, overriddenIn]; done) | decide +kernel
def Qrm5 (Z : State) (r0 : Addr) (p3 : Int64) (r : Nat) (f : Nat) (pg : Addr) (pa : Addr) (fpg : Nat → Value) (fa : Nat → Value) (h0 : Heap) (n0 : Nat) (v : Option Value) (h : Heap) (L : List Loc) : Prop := v = none ∧ Fr n0 L ∧ Keep h0 h [pa] ∧ Arf Z h pa .long 40 (updv fa (5 * r + f) (.long p3))
set_option maxRecDepth 65536 in
set_option maxHeartbeats 40000000 in
theorem rm5 (l : Launch) (Z : State) (a0 : Array Value) (hw : ∀ d ∈ tables_1, d.before a0 Z = true) (ws : List Jvm.Cond) (r0 : Addr) (p3 : Int64) (r : Nat) (f : Nat) (pg : Addr) (pa : Addr) (fpg : Nat → Value) (fa : Nat → Value) (h0 : Heap) (n0 : Nat) (Z0 : n0 ≤ h0.size) (F_pages_r0 : Fld Z h0 r0 "com/example/interval/interval/service/SlotTable" "pages" "[[J" (.ref pg)) (V_pg : Arf Z h0 pg (.array .long) 1 fpg) (hpg : fpg 0 = .ref pa) (V_pa : Arf Z h0 pa .long 40 fa) (ge_pa : n0 ≤ pa) (ne_r0_pg : r0 ≠ pg) (ne_r0_pa : r0 ≠ pa) (ne_pg_pa : pg ≠ pa) (hr : r < 100) (hf : 5 * r + f < 40) :
    MetFree l (⟨"com/example/interval/interval/service/SlotTable", "set", "(IIJ)V"⟩ : MethodName) (head1 (Jvm.Cond.code (⟨"com/example/interval/interval/service/SlotTable", "set", "(IIJ)V"⟩ : MethodName) prog_28_method_4_code 5 none :: ws) ({ frames := 1, cells := 0, slots := 0, locals := 13 } : Room)) (fun a U => a = #[(.ref r0), (.int (oI r)), (.int (oI f)), (.long p3)] ∧ Z.Warmed39 U.vm ∧ U.heap = h0) (fun _ _ _ _ _ => True) (fun _ U o U' => ∃ v L, o = .returned v ∧ Qrm5 Z r0 p3 r f pg pa fpg fa h0 n0 v U'.heap L ∧ FrameEnd U o U' L ({ frames := 1, cells := 0, slots := 0, locals := 13 } : Room).cells ({ frames := 1, cells := 0, slots := 0, locals := 13 } : Room).slots) := by
  refine MetFree.of_bodySF (plainFor_of_name pn_5) hisR ?_
  intro p e s m args below meth c s₁ Bd hml0 hP hK
  obtain ⟨rfl, hZ, hh⟩ := hP
  have hx := Bd.exec
  have hby := Bd.bytes
  have hml : c.maxLocals = 5 := hml0
  have hown : s.vm.findClass "com/example/interval/interval/service/SlotTable" = some m.cls := findClass_of_methodNamed Bd.named
  have hnm := (name_of_methodNamed Bd.named Bd.method).1
  have X0 : Stand p l e ({ frames := 1, cells := 0, slots := 0, locals := 13 } : Room) s m #[(.ref r0), (.int (oI r)), (.int (oI f)), (.long p3)] below meth c s₁ [] 0 0 := Stand.of_body Bd
  have e0 : s₁.heap = h0 := by rw [← hh, Bd.state]; rfl
  have N0 := Fr.nil n0
  have ZZ := Z0
  have KK : Keep h0 h0 [pa] := Keep.refl h0 _
  show Go p e below s (Qrm5 Z r0 p3 r f pg pa fpg fa h0 n0) 0 0 (s₁.setTop (entryFrame m #[(.ref r0), (.int (oI r)), (.int (oI f)), (.long p3)] 5))
  generalize hQQ : (Qrm5 Z r0 p3 r f pg pa fpg fa h0 n0) = QQ
  refine gs (fun t k => castTop (g' := (mkF m 0 #[rv r0, iv (oI r), iv (oI f), jv p3, .second] [])) (by first | (simp [entryFrame, mkF, argsToLocals, Value.category, maxLocals]; done) | rfl) k) ?_
  show Go p e below s QQ 0 0 (s₁.setTop (mkF m 0 #[rv r0, iv (oI r), iv (oI f), jv p3, .second] []))
  refine gs (fun t => XS.aloadN X0.here hx rfl (hb hby d5_0) rfl rfl) ?_
  obtain ⟨T1, X1, e1, st1⟩ := getF X0 hx hZ hown (host := "") (Or.inl (hw _ (List.mem_of_getElem? (i := 13) rfl))) Via.refl e0 F_pages_r0 (g := (mkF m 1 #[rv r0, iv (oI r), iv (oI f), jv p3, .second] [(.ref r0)])) rfl rfl (hb hby d5_1)
  refine gs st1 ?_
  show Go p e below s QQ 0 0 (T1.setTop (mkF m 4 #[rv r0, iv (oI r), iv (oI f), jv p3, .second] [(.ref pg)]))
  refine gs (fun t => XS.iloadN X1.here hx rfl (hb hby d5_4) rfl) ?_
  refine gs (fun t => XS.bipush X1.here hx rfl (hb hby d5_5)) ?_
  refine gs (fun t => XS.iushr X1.here hx rfl (hb hby d5_7) rfl) ?_
  show Go p e below s QQ 0 0 (T1.setTop (mkF m 8 #[rv r0, iv (oI r), iv (oI f), jv p3, .second] [(.int (((oI r).toUInt32 >>> ((12 : Int32) &&& 31).toUInt32).toInt32)), (.ref pg)]))
  rw [show (((oI r).toUInt32 >>> ((12 : Int32) &&& 31).toUInt32).toInt32) = (0 : Int32) from own_page hr]
  show Go p e below s QQ 0 0 (T1.setTop (mkF m 8 #[rv r0, iv (oI r), iv (oI f), jv p3, .second] [(.int (0 : Int32)), (.ref pg)]))
  refine gs (fun t => ldRf X1 hx hZ e1 V_pg rfl (j := (0 : Int32)) (v := (.ref pa)) (by decide) hpg (g := (mkF m 8 #[rv r0, iv (oI r), iv (oI f), jv p3, .second] [(.int (0 : Int32)), (.ref pg)])) rfl rfl (hb hby d5_8) t) ?_
  refine gs (fun t => XS.iloadN X1.here hx rfl (hb hby d5_9) rfl) ?_
  obtain ⟨_, _, ⟨T2, L2, k2, n2⟩, -, X2, ⟨Lc2, hQ2, l2, y2, z2⟩, st2⟩ := Jvm.LawKit.callS X1 hx (y := (⟨"com/example/interval/interval/service/SlotTable", "offset", "(I)I"⟩ : MethodName)) hown (mvT hZ (hw _ (List.mem_of_getElem? (i := 23) rfl))) (mvT hZ (hw _ (List.mem_of_getElem? (i := 24) rfl))) (mvT hZ (hw _ (List.mem_of_getElem? (i := 3) rfl))) (mvT hZ (hw _ (List.mem_of_getElem? (i := 25) rfl))) (by decide) (backOf (W := 1) (rm4 l Z a0 hw [] r h0 n0 ZZ hr) hZ (hw _ (List.mem_of_getElem? (i := 25) rfl)) (hw _ (List.mem_of_getElem? (i := 3) rfl)) (by decide) (by decide)) (g := (mkF m 10 #[rv r0, iv (oI r), iv (oI f), jv p3, .second] [(.int (oI r)), (.ref pa)])) rfl (by rw [hml]; rfl) (argsL := [(.int (oI r))]) (rest := [(.ref pa)]) (lenOf pd_0 rfl) rfl (by show 2 * 0 + _ ≤ _; exact Nat.le_of_eq rfl) (hb hby d5_10) (fun _ _ => ⟨rfl, e1, (by decide : 0 + 0 ≤ _), (by decide : 0 + 0 ≤ _)⟩)
  dsimp only [Pt.U, Pt.locs, Pt.cells, Pt.slots] at X2 l2 y2 z2 st2 hQ2
  subst l2 y2 z2
  obtain ⟨rfl, N2q, e2⟩ := hQ2
  replace N0 := Fr.app N0 N2q
  refine gs st2 ?_
  show Go p e below s QQ 0 0 (T2.setTop (mkF m 13 #[rv r0, iv (oI r), iv (oI f), jv p3, .second] [(.int (oI (5 * r))), (.ref pa)]))
  refine gs (fun t => XS.iloadN X2.here hx rfl (hb hby d5_13) rfl) ?_
  refine gs (fun t => XS.iadd X2.here hx rfl (hb hby d5_14) rfl) ?_
  show Go p e below s QQ 0 0 (T2.setTop (mkF m 15 #[rv r0, iv (oI r), iv (oI f), jv p3, .second] [(.int ((oI (5 * r)) + (oI f))), (.ref pa)]))
  rw [show ((oI (5 * r)) + (oI f)) = (oI (5 * r + f)) from oI_add (by omega)]
  show Go p e below s QQ 0 0 (T2.setTop (mkF m 15 #[rv r0, iv (oI r), iv (oI f), jv p3, .second] [(.int (oI (5 * r + f))), (.ref pa)]))
  refine gs (fun t => XS.lloadN X2.here hx rfl (hb hby d5_15) rfl) ?_
  have hi := oI_t (n := 5 * r + f) (by omega)
  obtain ⟨T3, h3, X3, e3, W3, V3, st3⟩ := stJf X2 hx hZ e2 V_pa (j := (oI (5 * r + f))) ⟨by omega, by omega⟩ (g := (mkF m 16 #[rv r0, iv (oI r), iv (oI f), jv p3, .second] [(.long p3), (.int (oI (5 * r + f))), (.ref pa)])) rfl rfl (hb hby d5_16)
  replace N0 := Fr.snoc X3 N0 ge_pa
  refine gs st3 ?_
  show Go p e below s QQ 0 0 (T3.setTop (mkF m 17 #[rv r0, iv (oI r), iv (oI f), jv p3, .second] []))
  replace F_pages_r0 := F_pages_r0.other W3 (Or.inl ne_r0_pa)
  replace V_pg := V_pg.other W3 ne_pg_pa
  replace ZZ : n0 ≤ h3.size := by rw [W3.size]; exact ZZ
  replace KK := KK.wr W3 (Or.inl (by simp))
  replace V_pa : Arf Z h3 pa .long 40 (updv fa (oI (5 * r + f)).toNatClampNeg (.long p3)) := V3
  rw [oI_c (by omega)] at V_pa
  exact goV X3 hx Bd.notSynchronized Bd.returns (hb hby d5_17) (by rw [← hQQ, e3]; exact ⟨rfl, N0, KK, V_pa⟩) (by decide) (by decide)
theorem d10_0 : decode prog_28_method_3_code 0 = .ok (.aload_n 0, 1) := by decide +kernel
theorem d10_1 : decode prog_28_method_3_code 1 = .ok (.getfield 11, 3) := by decide +kernel
theorem d10_4 : decode prog_28_method_3_code 4 = .ok (.iload_n 1, 1) := by decide +kernel
theorem d10_5 : decode prog_28_method_3_code 5 = .ok (.bipush 12, 2) := by decide +kernel
theorem d10_7 : decode prog_28_method_3_code 7 = .ok (.iushr, 1) := by decide +kernel
theorem d10_8 : decode prog_28_method_3_code 8 = .ok (.aaload, 1) := by decide +kernel
theorem d10_9 : decode prog_28_method_3_code 9 = .ok (.iload_n 1, 1) := by decide +kernel
theorem d10_10 : decode prog_28_method_3_code 10 = .ok (.invokestatic 19, 3) := by decide +kernel
theorem d10_13 : decode prog_28_method_3_code 13 = .ok (.iload_n 2, 1) := by decide +kernel
theorem d10_14 : decode prog_28_method_3_code 14 = .ok (.iadd, 1) := by decide +kernel
theorem d10_15 : decode prog_28_method_3_code 15 = .ok (.laload, 1) := by decide +kernel
theorem d10_16 : decode prog_28_method_3_code 16 = .ok (.lreturn, 1) := by decide +kernel
theorem pn_10 : plainName "com/example/interval/interval/service/SlotTable" = true := by first | (simp [plainName, overriddenIn]; done) | decide +kernel
def Qrm10 (Z : State) (r0 : Addr) (r : Nat) (f : Nat) (pg : Addr) (pa : Addr) (fpg : Nat → Value) (fa : Nat → Value) (vv : Int64) (h0 : Heap) (n0 : Nat) (v : Option Value) (h : Heap) (L : List Loc) : Prop := v = some (.long vv) ∧ Fr n0 L ∧ h = h0
set_option maxRecDepth 65536 in
set_option maxHeartbeats 40000000 in
theorem rm10 (l : Launch) (Z : State) (a0 : Array Value) (hw : ∀ d ∈ tables_1, d.before a0 Z = true) (ws : List Jvm.Cond) (r0 : Addr) (r : Nat) (f : Nat) (pg : Addr) (pa : Addr) (fpg : Nat → Value) (fa : Nat → Value) (vv : Int64) (h0 : Heap) (n0 : Nat) (Z0 : n0 ≤ h0.size) (F_pages_r0 : Fld Z h0 r0 "com/example/interval/interval/service/SlotTable" "pages" "[[J" (.ref pg)) (V_pg : Arf Z h0 pg (.array .long) 1 fpg) (hpg : fpg 0 = .ref pa) (V_pa : Arf Z h0 pa .long 40 fa) (hr : r < 100) (hf : 5 * r + f < 40) (hvv : fa (5 * r + f) = .long vv) :
    MetFree l (⟨"com/example/interval/interval/service/SlotTable", "get", "(II)J"⟩ : MethodName) (head1 (Jvm.Cond.code (⟨"com/example/interval/interval/service/SlotTable", "get", "(II)J"⟩ : MethodName) prog_28_method_3_code 3 (some .long) :: ws) ({ frames := 1, cells := 0, slots := 0, locals := 13 } : Room)) (fun a U => a = #[(.ref r0), (.int (oI r)), (.int (oI f))] ∧ Z.Warmed39 U.vm ∧ U.heap = h0) (fun _ _ _ _ _ => True) (fun _ U o U' => ∃ v L, o = .returned v ∧ Qrm10 Z r0 r f pg pa fpg fa vv h0 n0 v U'.heap L ∧ FrameEnd U o U' L ({ frames := 1, cells := 0, slots := 0, locals := 13 } : Room).cells ({ frames := 1, cells := 0, slots := 0, locals := 13 } : Room).slots) := by
  refine MetFree.of_bodySF (plainFor_of_name pn_10) hisR ?_
  intro p e s m args below meth c s₁ Bd hml0 hP hK
  obtain ⟨rfl, hZ, hh⟩ := hP
  have hx := Bd.exec
  have hby := Bd.bytes
  have hml : c.maxLocals = 3 := hml0
  have hown : s.vm.findClass "com/example/interval/interval/service/SlotTable" = some m.cls := findClass_of_methodNamed Bd.named
  have hnm := (name_of_methodNamed Bd.named Bd.method).1
  have X0 : Stand p l e ({ frames := 1, cells := 0, slots := 0, locals := 13 } : Room) s m #[(.ref r0), (.int (oI r)), (.int (oI f))] below meth c s₁ [] 0 0 := Stand.of_body Bd
  have e0 : s₁.heap = h0 := by rw [← hh, Bd.state]; rfl
  have N0 := Fr.nil n0
  have ZZ := Z0
  show Go p e below s (Qrm10 Z r0 r f pg pa fpg fa vv h0 n0) 0 0 (s₁.setTop (entryFrame m #[(.ref r0), (.int (oI r)), (.int (oI f))] 3))
  generalize hQQ : (Qrm10 Z r0 r f pg pa fpg fa vv h0 n0) = QQ
  refine gs (fun t k => castTop (g' := (mkF m 0 #[rv r0, iv (oI r), iv (oI f)] [])) (by first | (simp [entryFrame, mkF, argsToLocals, Value.category, maxLocals]; done) | rfl) k) ?_
  show Go p e below s QQ 0 0 (s₁.setTop (mkF m 0 #[rv r0, iv (oI r), iv (oI f)] []))
  refine gs (fun t => XS.aloadN X0.here hx rfl (hb hby d10_0) rfl rfl) ?_
  obtain ⟨T4, X4, e4, st4⟩ := getF X0 hx hZ hown (host := "") (Or.inl (hw _ (List.mem_of_getElem? (i := 13) rfl))) Via.refl e0 F_pages_r0 (g := (mkF m 1 #[rv r0, iv (oI r), iv (oI f)] [(.ref r0)])) rfl rfl (hb hby d10_1)
  refine gs st4 ?_
  show Go p e below s QQ 0 0 (T4.setTop (mkF m 4 #[rv r0, iv (oI r), iv (oI f)] [(.ref pg)]))
  refine gs (fun t => XS.iloadN X4.here hx rfl (hb hby d10_4) rfl) ?_
  refine gs (fun t => XS.bipush X4.here hx rfl (hb hby d10_5)) ?_
  refine gs (fun t => XS.iushr X4.here hx rfl (hb hby d10_7) rfl) ?_
  show Go p e below s QQ 0 0 (T4.setTop (mkF m 8 #[rv r0, iv (oI r), iv (oI f)] [(.int (((oI r).toUInt32 >>> ((12 : Int32) &&& 31).toUInt32).toInt32)), (.ref pg)]))
  rw [show (((oI r).toUInt32 >>> ((12 : Int32) &&& 31).toUInt32).toInt32) = (0 : Int32) from own_page hr]
  show Go p e below s QQ 0 0 (T4.setTop (mkF m 8 #[rv r0, iv (oI r), iv (oI f)] [(.int (0 : Int32)), (.ref pg)]))
  refine gs (fun t => ldRf X4 hx hZ e4 V_pg rfl (j := (0 : Int32)) (v := (.ref pa)) (by decide) hpg (g := (mkF m 8 #[rv r0, iv (oI r), iv (oI f)] [(.int (0 : Int32)), (.ref pg)])) rfl rfl (hb hby d10_8) t) ?_
  refine gs (fun t => XS.iloadN X4.here hx rfl (hb hby d10_9) rfl) ?_
  obtain ⟨_, _, ⟨T5, L5, k5, n5⟩, -, X5, ⟨Lc5, hQ5, l5, y5, z5⟩, st5⟩ := Jvm.LawKit.callS X4 hx (y := (⟨"com/example/interval/interval/service/SlotTable", "offset", "(I)I"⟩ : MethodName)) hown (mvT hZ (hw _ (List.mem_of_getElem? (i := 23) rfl))) (mvT hZ (hw _ (List.mem_of_getElem? (i := 24) rfl))) (mvT hZ (hw _ (List.mem_of_getElem? (i := 3) rfl))) (mvT hZ (hw _ (List.mem_of_getElem? (i := 25) rfl))) (by decide) (backOf (W := 1) (rm4 l Z a0 hw [] r h0 n0 ZZ hr) hZ (hw _ (List.mem_of_getElem? (i := 25) rfl)) (hw _ (List.mem_of_getElem? (i := 3) rfl)) (by decide) (by decide)) (g := (mkF m 10 #[rv r0, iv (oI r), iv (oI f)] [(.int (oI r)), (.ref pa)])) rfl (by rw [hml]; rfl) (argsL := [(.int (oI r))]) (rest := [(.ref pa)]) (lenOf pd_0 rfl) rfl (by show 2 * 0 + _ ≤ _; exact Nat.le_of_eq rfl) (hb hby d10_10) (fun _ _ => ⟨rfl, e4, (by decide : 0 + 0 ≤ _), (by decide : 0 + 0 ≤ _)⟩)
  dsimp only [Pt.U, Pt.locs, Pt.cells, Pt.slots] at X5 l5 y5 z5 st5 hQ5
  subst l5 y5 z5
  obtain ⟨rfl, N5q, e5⟩ := hQ5
  replace N0 := Fr.app N0 N5q
  refine gs st5 ?_
  show Go p e below s QQ 0 0 (T5.setTop (mkF m 13 #[rv r0, iv (oI r), iv (oI f)] [(.int (oI (5 * r))), (.ref pa)]))
  refine gs (fun t => XS.iloadN X5.here hx rfl (hb hby d10_13) rfl) ?_
  refine gs (fun t => XS.iadd X5.here hx rfl (hb hby d10_14) rfl) ?_
  show Go p e below s QQ 0 0 (T5.setTop (mkF m 15 #[rv r0, iv (oI r), iv (oI f)] [(.int ((oI (5 * r)) + (oI f))), (.ref pa)]))
  rw [show ((oI (5 * r)) + (oI f)) = (oI (5 * r + f)) from oI_add (by omega)]
  show Go p e below s QQ 0 0 (T5.setTop (mkF m 15 #[rv r0, iv (oI r), iv (oI f)] [(.int (oI (5 * r + f))), (.ref pa)]))
  have hi := oI_t (n := 5 * r + f) (by omega)
  refine gs (fun t => ldJf X5 hx hZ e5 V_pa (j := (oI (5 * r + f))) (v := (.long vv)) ⟨by omega, by omega⟩ (by rw [oI_c (by omega)]; exact hvv) (g := (mkF m 15 #[rv r0, iv (oI r), iv (oI f)] [(.int (oI (5 * r + f))), (.ref pa)])) rfl rfl (hb hby d10_15) t) ?_
  exact goJ X5 hx Bd.notSynchronized Bd.returns (hb hby d10_16) (by rw [← hQQ, e5]; exact ⟨rfl, N0, rfl⟩) (by decide) (by decide)
theorem d3_0 : decode prog_28_method_5_code 0 = .ok (.aload_n 0, 1) := by decide +kernel
theorem d3_1 : decode prog_28_method_5_code 1 = .ok (.getfield 15, 3) := by decide +kernel
theorem d3_4 : decode prog_28_method_5_code 4 = .ok (.bipush 12, 2) := by decide +kernel
theorem d3_6 : decode prog_28_method_5_code 6 = .ok (.iushr, 1) := by decide +kernel
theorem d3_7 : decode prog_28_method_5_code 7 = .ok (.istore 11, 2) := by decide +kernel
theorem d3_9 : decode prog_28_method_5_code 9 = .ok (.aload_n 0, 1) := by decide +kernel
theorem d3_10 : decode prog_28_method_5_code 10 = .ok (.getfield 15, 3) := by decide +kernel
theorem d3_13 : decode prog_28_method_5_code 13 = .ok (.invokestatic 19, 3) := by decide +kernel
theorem d3_16 : decode prog_28_method_5_code 16 = .ok (.iconst 5, 1) := by decide +kernel
theorem d3_17 : decode prog_28_method_5_code 17 = .ok (.iadd, 1) := by decide +kernel
theorem d3_18 : decode prog_28_method_5_code 18 = .ok (.istore 12, 2) := by decide +kernel
theorem d3_20 : decode prog_28_method_5_code 20 = .ok (.iload 11, 2) := by decide +kernel
theorem d3_22 : decode prog_28_method_5_code 22 = .ok (.aload_n 0, 1) := by decide +kernel
theorem d3_23 : decode prog_28_method_5_code 23 = .ok (.getfield 11, 3) := by decide +kernel
theorem d3_26 : decode prog_28_method_5_code 26 = .ok (.arraylength, 1) := by decide +kernel
theorem d3_27 : decode prog_28_method_5_code 27 = .ok (.if_icmp .ne 21, 3) := by decide +kernel
theorem d3_30 : decode prog_28_method_5_code 30 = .ok (.aload_n 0, 1) := by decide +kernel
theorem d3_31 : decode prog_28_method_5_code 31 = .ok (.aload_n 0, 1) := by decide +kernel
theorem d3_32 : decode prog_28_method_5_code 32 = .ok (.getfield 11, 3) := by decide +kernel
theorem d3_35 : decode prog_28_method_5_code 35 = .ok (.iload 11, 2) := by decide +kernel
theorem d3_37 : decode prog_28_method_5_code 37 = .ok (.iconst 2, 1) := by decide +kernel
theorem d3_38 : decode prog_28_method_5_code 38 = .ok (.imul, 1) := by decide +kernel
theorem d3_39 : decode prog_28_method_5_code 39 = .ok (.invokestatic 23, 3) := by decide +kernel
theorem d3_42 : decode prog_28_method_5_code 42 = .ok (.checkcast 29, 3) := by decide +kernel
theorem d3_45 : decode prog_28_method_5_code 45 = .ok (.putfield 11, 3) := by decide +kernel
theorem d3_48 : decode prog_28_method_5_code 48 = .ok (.aload_n 0, 1) := by decide +kernel
theorem d3_49 : decode prog_28_method_5_code 49 = .ok (.getfield 11, 3) := by decide +kernel
theorem d3_52 : decode prog_28_method_5_code 52 = .ok (.iload 11, 2) := by decide +kernel
theorem d3_54 : decode prog_28_method_5_code 54 = .ok (.aaload, 1) := by decide +kernel
theorem d3_55 : decode prog_28_method_5_code 55 = .ok (.ifnonnull 18, 3) := by decide +kernel
theorem d3_58 : decode prog_28_method_5_code 58 = .ok (.aload_n 0, 1) := by decide +kernel
theorem d3_59 : decode prog_28_method_5_code 59 = .ok (.getfield 11, 3) := by decide +kernel
theorem d3_62 : decode prog_28_method_5_code 62 = .ok (.iload 11, 2) := by decide +kernel
theorem d3_64 : decode prog_28_method_5_code 64 = .ok (.sipush 20480, 3) := by decide +kernel
theorem d3_67 : decode prog_28_method_5_code 67 = .ok (.newarray .long, 2) := by decide +kernel
theorem d3_69 : decode prog_28_method_5_code 69 = .ok (.aastore, 1) := by decide +kernel
theorem d3_70 : decode prog_28_method_5_code 70 = .ok (.goto 49, 3) := by decide +kernel
theorem d3_73 : decode prog_28_method_5_code 73 = .ok (.aload_n 0, 1) := by decide +kernel
theorem d3_74 : decode prog_28_method_5_code 74 = .ok (.getfield 11, 3) := by decide +kernel
theorem d3_77 : decode prog_28_method_5_code 77 = .ok (.iload 11, 2) := by decide +kernel
theorem d3_79 : decode prog_28_method_5_code 79 = .ok (.aaload, 1) := by decide +kernel
theorem d3_80 : decode prog_28_method_5_code 80 = .ok (.arraylength, 1) := by decide +kernel
theorem d3_81 : decode prog_28_method_5_code 81 = .ok (.iload 12, 2) := by decide +kernel
theorem d3_83 : decode prog_28_method_5_code 83 = .ok (.if_icmp .ge 36, 3) := by decide +kernel
theorem d3_86 : decode prog_28_method_5_code 86 = .ok (.aload_n 0, 1) := by decide +kernel
theorem d3_87 : decode prog_28_method_5_code 87 = .ok (.getfield 11, 3) := by decide +kernel
theorem d3_90 : decode prog_28_method_5_code 90 = .ok (.iload 11, 2) := by decide +kernel
theorem d3_92 : decode prog_28_method_5_code 92 = .ok (.aload_n 0, 1) := by decide +kernel
theorem d3_93 : decode prog_28_method_5_code 93 = .ok (.getfield 11, 3) := by decide +kernel
theorem d3_96 : decode prog_28_method_5_code 96 = .ok (.iload 11, 2) := by decide +kernel
theorem d3_98 : decode prog_28_method_5_code 98 = .ok (.aaload, 1) := by decide +kernel
theorem d3_99 : decode prog_28_method_5_code 99 = .ok (.iconst 2, 1) := by decide +kernel
theorem d3_100 : decode prog_28_method_5_code 100 = .ok (.aload_n 0, 1) := by decide +kernel
theorem d3_101 : decode prog_28_method_5_code 101 = .ok (.getfield 11, 3) := by decide +kernel
theorem d3_104 : decode prog_28_method_5_code 104 = .ok (.iload 11, 2) := by decide +kernel
theorem d3_106 : decode prog_28_method_5_code 106 = .ok (.aaload, 1) := by decide +kernel
theorem d3_107 : decode prog_28_method_5_code 107 = .ok (.arraylength, 1) := by decide +kernel
theorem d3_108 : decode prog_28_method_5_code 108 = .ok (.imul, 1) := by decide +kernel
theorem d3_109 : decode prog_28_method_5_code 109 = .ok (.sipush 20480, 3) := by decide +kernel
theorem d3_112 : decode prog_28_method_5_code 112 = .ok (.invokestatic 30, 3) := by decide +kernel
theorem d3_115 : decode prog_28_method_5_code 115 = .ok (.invokestatic 36, 3) := by decide +kernel
theorem d3_118 : decode prog_28_method_5_code 118 = .ok (.aastore, 1) := by decide +kernel
theorem d3_119 : decode prog_28_method_5_code 119 = .ok (.aload_n 0, 1) := by decide +kernel
theorem d3_120 : decode prog_28_method_5_code 120 = .ok (.dup, 1) := by decide +kernel
theorem d3_121 : decode prog_28_method_5_code 121 = .ok (.getfield 15, 3) := by decide +kernel
theorem d3_124 : decode prog_28_method_5_code 124 = .ok (.dup_x1, 1) := by decide +kernel
theorem d3_125 : decode prog_28_method_5_code 125 = .ok (.iconst 1, 1) := by decide +kernel
theorem d3_126 : decode prog_28_method_5_code 126 = .ok (.iadd, 1) := by decide +kernel
theorem d3_127 : decode prog_28_method_5_code 127 = .ok (.putfield 15, 3) := by decide +kernel
theorem d3_130 : decode prog_28_method_5_code 130 = .ok (.istore 13, 2) := by decide +kernel
theorem d3_132 : decode prog_28_method_5_code 132 = .ok (.aload_n 0, 1) := by decide +kernel
theorem d3_133 : decode prog_28_method_5_code 133 = .ok (.iload 13, 2) := by decide +kernel
theorem d3_135 : decode prog_28_method_5_code 135 = .ok (.iconst 0, 1) := by decide +kernel
theorem d3_136 : decode prog_28_method_5_code 136 = .ok (.lload_n 1, 1) := by decide +kernel
theorem d3_137 : decode prog_28_method_5_code 137 = .ok (.invokevirtual 39, 3) := by decide +kernel
theorem d3_140 : decode prog_28_method_5_code 140 = .ok (.aload_n 0, 1) := by decide +kernel
theorem d3_141 : decode prog_28_method_5_code 141 = .ok (.iload 13, 2) := by decide +kernel
theorem d3_143 : decode prog_28_method_5_code 143 = .ok (.iconst 1, 1) := by decide +kernel
theorem d3_144 : decode prog_28_method_5_code 144 = .ok (.lload_n 3, 1) := by decide +kernel
theorem d3_145 : decode prog_28_method_5_code 145 = .ok (.invokevirtual 39, 3) := by decide +kernel
theorem d3_148 : decode prog_28_method_5_code 148 = .ok (.aload_n 0, 1) := by decide +kernel
theorem d3_149 : decode prog_28_method_5_code 149 = .ok (.iload 13, 2) := by decide +kernel
theorem d3_151 : decode prog_28_method_5_code 151 = .ok (.iconst 2, 1) := by decide +kernel
theorem d3_152 : decode prog_28_method_5_code 152 = .ok (.lload 5, 2) := by decide +kernel
theorem d3_154 : decode prog_28_method_5_code 154 = .ok (.invokevirtual 39, 3) := by decide +kernel
theorem d3_157 : decode prog_28_method_5_code 157 = .ok (.aload_n 0, 1) := by decide +kernel
theorem d3_158 : decode prog_28_method_5_code 158 = .ok (.iload 13, 2) := by decide +kernel
theorem d3_160 : decode prog_28_method_5_code 160 = .ok (.iconst 3, 1) := by decide +kernel
theorem d3_161 : decode prog_28_method_5_code 161 = .ok (.lload 7, 2) := by decide +kernel
theorem d3_163 : decode prog_28_method_5_code 163 = .ok (.invokevirtual 39, 3) := by decide +kernel
theorem d3_166 : decode prog_28_method_5_code 166 = .ok (.aload_n 0, 1) := by decide +kernel
theorem d3_167 : decode prog_28_method_5_code 167 = .ok (.iload 13, 2) := by decide +kernel
theorem d3_169 : decode prog_28_method_5_code 169 = .ok (.iconst 4, 1) := by decide +kernel
theorem d3_170 : decode prog_28_method_5_code 170 = .ok (.lload 9, 2) := by decide +kernel
theorem d3_172 : decode prog_28_method_5_code 172 = .ok (.invokevirtual 39, 3) := by decide +kernel
theorem d3_175 : decode prog_28_method_5_code 175 = .ok (.iload 13, 2) := by decide +kernel
theorem d3_177 : decode prog_28_method_5_code 177 = .ok (.ireturn, 1) := by decide +kernel
theorem pn_3 : plainName "com/example/interval/interval/service/SlotTable" = true := by first | (simp [plainName, overriddenIn]; done) | decide +kernel
def Qrm3 (Z : State) (r0 : Addr) (p1 : Int64) (p2 : Int64) (p3 : Int64) (p4 : Int64) (p5 : Int64) (r : Nat) (pg : Addr) (pa : Addr) (fpg : Nat → Value) (fa : Nat → Value) (h0 : Heap) (n0 : Nat) (v : Option Value) (h : Heap) (L : List Loc) : Prop := v = some (.int (oI r)) ∧ Fr n0 L ∧ Keep h0 h [r0, pa] ∧ Fld Z h r0 "com/example/interval/interval/service/SlotTable" "pages" "[[J" (.ref pg) ∧ Fld Z h r0 "com/example/interval/interval/service/SlotTable" "size" "I" (.int (oI (r + 1))) ∧ Arf Z h pa .long 40 (own_add fa r p1 p2 p3 p4 p5)
set_option maxRecDepth 65536 in
set_option maxHeartbeats 40000000 in
theorem rm3 (l : Launch) (Z : State) (a0 : Array Value) (hw : ∀ d ∈ tables_1, d.before a0 Z = true) (ws : List Jvm.Cond) (r0 : Addr) (p1 : Int64) (p2 : Int64) (p3 : Int64) (p4 : Int64) (p5 : Int64) (r : Nat) (pg : Addr) (pa : Addr) (fpg : Nat → Value) (fa : Nat → Value) (h0 : Heap) (n0 : Nat) (Z0 : n0 ≤ h0.size) (F_pages_r0 : Fld Z h0 r0 "com/example/interval/interval/service/SlotTable" "pages" "[[J" (.ref pg)) (F_size_r0 : Fld Z h0 r0 "com/example/interval/interval/service/SlotTable" "size" "I" (.int (oI r))) (E_r0 : Exa Z h0 r0 "com/example/interval/interval/service/SlotTable") (V_pg : Arf Z h0 pg (.array .long) 1 fpg) (hpg : fpg 0 = .ref pa) (V_pa : Arf Z h0 pa .long 40 fa) (ge_r0 : n0 ≤ r0) (ge_pa : n0 ≤ pa) (ne_r0_pg : r0 ≠ pg) (ne_r0_pa : r0 ≠ pa) (ne_pg_pa : pg ≠ pa) (hr : r ≤ 7) :
    MetFree l (⟨"com/example/interval/interval/service/SlotTable", "add", "(JJJJJ)I"⟩ : MethodName) (head1 (Jvm.Cond.code (⟨"com/example/interval/interval/service/SlotTable", "add", "(JJJJJ)I"⟩ : MethodName) prog_28_method_5_code 14 (some .int) :: ws) ({ frames := 2, cells := 0, slots := 0, locals := 29 } : Room)) (fun a U => a = #[(.ref r0), (.long p1), (.long p2), (.long p3), (.long p4), (.long p5)] ∧ Z.Warmed39 U.vm ∧ U.heap = h0) (fun _ _ _ _ _ => True) (fun _ U o U' => ∃ v L, o = .returned v ∧ Qrm3 Z r0 p1 p2 p3 p4 p5 r pg pa fpg fa h0 n0 v U'.heap L ∧ FrameEnd U o U' L ({ frames := 2, cells := 0, slots := 0, locals := 29 } : Room).cells ({ frames := 2, cells := 0, slots := 0, locals := 29 } : Room).slots) := by
  refine MetFree.of_bodySF (plainFor_of_name pn_3) hisR ?_
  intro p e s m args below meth c s₁ Bd hml0 hP hK
  obtain ⟨rfl, hZ, hh⟩ := hP
  have hx := Bd.exec
  have hby := Bd.bytes
  have hml : c.maxLocals = 14 := hml0
  have hown : s.vm.findClass "com/example/interval/interval/service/SlotTable" = some m.cls := findClass_of_methodNamed Bd.named
  have hnm := (name_of_methodNamed Bd.named Bd.method).1
  have X0 : Stand p l e ({ frames := 2, cells := 0, slots := 0, locals := 29 } : Room) s m #[(.ref r0), (.long p1), (.long p2), (.long p3), (.long p4), (.long p5)] below meth c s₁ [] 0 0 := Stand.of_body Bd
  have e0 : s₁.heap = h0 := by rw [← hh, Bd.state]; rfl
  have N0 := Fr.nil n0
  have ZZ := Z0
  have KK : Keep h0 h0 [r0, pa] := Keep.refl h0 _
  show Go p e below s (Qrm3 Z r0 p1 p2 p3 p4 p5 r pg pa fpg fa h0 n0) 0 0 (s₁.setTop (entryFrame m #[(.ref r0), (.long p1), (.long p2), (.long p3), (.long p4), (.long p5)] 14))
  generalize hQQ : (Qrm3 Z r0 p1 p2 p3 p4 p5 r pg pa fpg fa h0 n0) = QQ
  refine gs (fun t k => castTop (g' := (mkF m 0 #[rv r0, jv p1, .second, jv p2, .second, jv p3, .second, jv p4, .second, jv p5, .second, .unset, .unset, .unset] [])) (by first | (simp [entryFrame, mkF, argsToLocals, Value.category, maxLocals]; done) | rfl) k) ?_
  show Go p e below s QQ 0 0 (s₁.setTop (mkF m 0 #[rv r0, jv p1, .second, jv p2, .second, jv p3, .second, jv p4, .second, jv p5, .second, .unset, .unset, .unset] []))
  refine gs (fun t => XS.aloadN X0.here hx rfl (hb hby d3_0) rfl rfl) ?_
  obtain ⟨T6, X6, e6, st6⟩ := getF X0 hx hZ hown (host := "") (Or.inl (hw _ (List.mem_of_getElem? (i := 21) rfl))) Via.refl e0 F_size_r0 (g := (mkF m 1 #[rv r0, jv p1, .second, jv p2, .second, jv p3, .second, jv p4, .second, jv p5, .second, .unset, .unset, .unset] [(.ref r0)])) rfl rfl (hb hby d3_1)
  refine gs st6 ?_
  show Go p e below s QQ 0 0 (T6.setTop (mkF m 4 #[rv r0, jv p1, .second, jv p2, .second, jv p3, .second, jv p4, .second, jv p5, .second, .unset, .unset, .unset] [(.int (oI r))]))
  refine gs (fun t => XS.bipush X6.here hx rfl (hb hby d3_4)) ?_
  refine gs (fun t => XS.iushr X6.here hx rfl (hb hby d3_6) rfl) ?_
  show Go p e below s QQ 0 0 (T6.setTop (mkF m 7 #[rv r0, jv p1, .second, jv p2, .second, jv p3, .second, jv p4, .second, jv p5, .second, .unset, .unset, .unset] [(.int (((oI r).toUInt32 >>> ((12 : Int32) &&& 31).toUInt32).toInt32))]))
  rw [show (((oI r).toUInt32 >>> ((12 : Int32) &&& 31).toUInt32).toInt32) = (0 : Int32) from own_page (by omega)]
  show Go p e below s QQ 0 0 (T6.setTop (mkF m 7 #[rv r0, jv p1, .second, jv p2, .second, jv p3, .second, jv p4, .second, jv p5, .second, .unset, .unset, .unset] [(.int (0 : Int32))]))
  refine gs (fun t => XS.istore X6.here hx rfl (hb hby d3_7) rfl (l' := #[rv r0, jv p1, .second, jv p2, .second, jv p3, .second, jv p4, .second, jv p5, .second, iv 0, .unset, .unset]) rfl) ?_
  refine gs (fun t => XS.aloadN X6.here hx rfl (hb hby d3_9) rfl rfl) ?_
  obtain ⟨T7, X7, e7, st7⟩ := getF X6 hx hZ hown (host := "") (Or.inl (hw _ (List.mem_of_getElem? (i := 21) rfl))) Via.refl e6 F_size_r0 (g := (mkF m 10 #[rv r0, jv p1, .second, jv p2, .second, jv p3, .second, jv p4, .second, jv p5, .second, iv 0, .unset, .unset] [(.ref r0)])) rfl rfl (hb hby d3_10)
  refine gs st7 ?_
  show Go p e below s QQ 0 0 (T7.setTop (mkF m 13 #[rv r0, jv p1, .second, jv p2, .second, jv p3, .second, jv p4, .second, jv p5, .second, iv 0, .unset, .unset] [(.int (oI r))]))
  obtain ⟨_, _, ⟨T8, L8, k8, n8⟩, -, X8, ⟨Lc8, hQ8, l8, y8, z8⟩, st8⟩ := Jvm.LawKit.callS X7 hx (y := (⟨"com/example/interval/interval/service/SlotTable", "offset", "(I)I"⟩ : MethodName)) hown (mvT hZ (hw _ (List.mem_of_getElem? (i := 23) rfl))) (mvT hZ (hw _ (List.mem_of_getElem? (i := 24) rfl))) (mvT hZ (hw _ (List.mem_of_getElem? (i := 3) rfl))) (mvT hZ (hw _ (List.mem_of_getElem? (i := 25) rfl))) (by decide) (backOf (W := 0) (rm4 l Z a0 hw [] r h0 n0 ZZ (by omega)) hZ (hw _ (List.mem_of_getElem? (i := 25) rfl)) (hw _ (List.mem_of_getElem? (i := 3) rfl)) (by decide) (by decide)) (g := (mkF m 13 #[rv r0, jv p1, .second, jv p2, .second, jv p3, .second, jv p4, .second, jv p5, .second, iv 0, .unset, .unset] [(.int (oI r))])) rfl (by rw [hml]; rfl) (argsL := [(.int (oI r))]) (rest := []) (lenOf pd_0 rfl) rfl (by show 2 * 0 + _ ≤ _; exact Nat.le_of_eq rfl) (hb hby d3_13) (fun _ _ => ⟨rfl, e7, (by decide : 0 + 0 ≤ _), (by decide : 0 + 0 ≤ _)⟩)
  dsimp only [Pt.U, Pt.locs, Pt.cells, Pt.slots] at X8 l8 y8 z8 st8 hQ8
  subst l8 y8 z8
  obtain ⟨rfl, N8q, e8⟩ := hQ8
  replace N0 := Fr.app N0 N8q
  refine gs st8 ?_
  show Go p e below s QQ 0 0 (T8.setTop (mkF m 16 #[rv r0, jv p1, .second, jv p2, .second, jv p3, .second, jv p4, .second, jv p5, .second, iv 0, .unset, .unset] [(.int (oI (5 * r)))]))
  refine gs (fun t => XS.iconst X8.here hx rfl (hb hby d3_16)) ?_
  refine gs (fun t => XS.iadd X8.here hx rfl (hb hby d3_17) rfl) ?_
  show Go p e below s QQ 0 0 (T8.setTop (mkF m 18 #[rv r0, jv p1, .second, jv p2, .second, jv p3, .second, jv p4, .second, jv p5, .second, iv 0, .unset, .unset] [(.int ((oI (5 * r)) + (5 : Int32)))]))
  rw [show ((oI (5 * r)) + (5 : Int32)) = (oI (5 * r + 5)) from oI_add (a := 5 * r) (b := 5) (by omega)]
  show Go p e below s QQ 0 0 (T8.setTop (mkF m 18 #[rv r0, jv p1, .second, jv p2, .second, jv p3, .second, jv p4, .second, jv p5, .second, iv 0, .unset, .unset] [(.int (oI (5 * r + 5)))]))
  refine gs (fun t => XS.istore X8.here hx rfl (hb hby d3_18) rfl (l' := #[rv r0, jv p1, .second, jv p2, .second, jv p3, .second, jv p4, .second, jv p5, .second, iv 0, iv (oI (5 * r + 5)), .unset]) rfl) ?_
  refine gs (fun t => XS.iload X8.here hx rfl (hb hby d3_20) rfl) ?_
  refine gs (fun t => XS.aloadN X8.here hx rfl (hb hby d3_22) rfl rfl) ?_
  obtain ⟨T9, X9, e9, st9⟩ := getF X8 hx hZ hown (host := "") (Or.inl (hw _ (List.mem_of_getElem? (i := 13) rfl))) Via.refl e8 F_pages_r0 (g := (mkF m 23 #[rv r0, jv p1, .second, jv p2, .second, jv p3, .second, jv p4, .second, jv p5, .second, iv 0, iv (oI (5 * r + 5)), .unset] [(.ref r0), (.int (0 : Int32))])) rfl rfl (hb hby d3_23)
  refine gs st9 ?_
  show Go p e below s QQ 0 0 (T9.setTop (mkF m 26 #[rv r0, jv p1, .second, jv p2, .second, jv p3, .second, jv p4, .second, jv p5, .second, iv 0, iv (oI (5 * r + 5)), .unset] [(.ref pg), (.int (0 : Int32))]))
  refine gs (fun t => lenf X9 hx hZ e9 V_pg (z := (1 : Int32)) rfl (g := (mkF m 26 #[rv r0, jv p1, .second, jv p2, .second, jv p3, .second, jv p4, .second, jv p5, .second, iv 0, iv (oI (5 * r + 5)), .unset] [(.ref pg), (.int (0 : Int32))])) rfl rfl (hb hby d3_26) t) ?_
  refine gs (fun t => XS.icmpYes X9.here hx rfl (pc0 := 27) (pc' := 48) rfl (hb hby d3_27) rfl (feq (by decide : ¬ ((0 : Int32) = (1 : Int32)))).2 (by decide) (by decide)) ?_
  refine gs (fun t => XS.aloadN X9.here hx rfl (hb hby d3_48) rfl rfl) ?_
  obtain ⟨T10, X10, e10, st10⟩ := getF X9 hx hZ hown (host := "") (Or.inl (hw _ (List.mem_of_getElem? (i := 13) rfl))) Via.refl e9 F_pages_r0 (g := (mkF m 49 #[rv r0, jv p1, .second, jv p2, .second, jv p3, .second, jv p4, .second, jv p5, .second, iv 0, iv (oI (5 * r + 5)), .unset] [(.ref r0)])) rfl rfl (hb hby d3_49)
  refine gs st10 ?_
  show Go p e below s QQ 0 0 (T10.setTop (mkF m 52 #[rv r0, jv p1, .second, jv p2, .second, jv p3, .second, jv p4, .second, jv p5, .second, iv 0, iv (oI (5 * r + 5)), .unset] [(.ref pg)]))
  refine gs (fun t => XS.iload X10.here hx rfl (hb hby d3_52) rfl) ?_
  refine gs (fun t => ldRf X10 hx hZ e10 V_pg rfl (j := (0 : Int32)) (v := (.ref pa)) (by decide) hpg (g := (mkF m 54 #[rv r0, jv p1, .second, jv p2, .second, jv p3, .second, jv p4, .second, jv p5, .second, iv 0, iv (oI (5 * r + 5)), .unset] [(.int (0 : Int32)), (.ref pg)])) rfl rfl (hb hby d3_54) t) ?_
  refine gs (fun t => XS.ifnonnullYes X10.here hx rfl (pc0 := 55) (pc' := 73) rfl (hb hby d3_55) rfl (by decide) (by decide)) ?_
  refine gs (fun t => XS.aloadN X10.here hx rfl (hb hby d3_73) rfl rfl) ?_
  obtain ⟨T11, X11, e11, st11⟩ := getF X10 hx hZ hown (host := "") (Or.inl (hw _ (List.mem_of_getElem? (i := 13) rfl))) Via.refl e10 F_pages_r0 (g := (mkF m 74 #[rv r0, jv p1, .second, jv p2, .second, jv p3, .second, jv p4, .second, jv p5, .second, iv 0, iv (oI (5 * r + 5)), .unset] [(.ref r0)])) rfl rfl (hb hby d3_74)
  refine gs st11 ?_
  show Go p e below s QQ 0 0 (T11.setTop (mkF m 77 #[rv r0, jv p1, .second, jv p2, .second, jv p3, .second, jv p4, .second, jv p5, .second, iv 0, iv (oI (5 * r + 5)), .unset] [(.ref pg)]))
  refine gs (fun t => XS.iload X11.here hx rfl (hb hby d3_77) rfl) ?_
  refine gs (fun t => ldRf X11 hx hZ e11 V_pg rfl (j := (0 : Int32)) (v := (.ref pa)) (by decide) hpg (g := (mkF m 79 #[rv r0, jv p1, .second, jv p2, .second, jv p3, .second, jv p4, .second, jv p5, .second, iv 0, iv (oI (5 * r + 5)), .unset] [(.int (0 : Int32)), (.ref pg)])) rfl rfl (hb hby d3_79) t) ?_
  refine gs (fun t => lenf X11 hx hZ e11 V_pa (z := (40 : Int32)) rfl (g := (mkF m 80 #[rv r0, jv p1, .second, jv p2, .second, jv p3, .second, jv p4, .second, jv p5, .second, iv 0, iv (oI (5 * r + 5)), .unset] [(.ref pa)])) rfl rfl (hb hby d3_80) t) ?_
  refine gs (fun t => XS.iload X11.here hx rfl (hb hby d3_81) rfl) ?_
  refine gs (fun t => XS.icmpYes X11.here hx rfl (pc0 := 83) (pc' := 119) rfl (hb hby d3_83) rfl (flt (fun q => by rw [Int32.lt_iff_toInt_lt, oI_t (by omega)] at q; have k : (40 : Int32).toInt = 40 := rfl; omega : ¬ ((40 : Int32) < (oI (5 * r + 5))))).2.1 (by decide) (by decide)) ?_
  refine gs (fun t => XS.aloadN X11.here hx rfl (hb hby d3_119) rfl rfl) ?_
  show Go p e below s QQ 0 0 (T11.setTop (mkF m 120 #[rv r0, jv p1, .second, jv p2, .second, jv p3, .second, jv p4, .second, jv p5, .second, iv 0, iv (oI (5 * r + 5)), .unset] [(.ref r0)]))
  refine gs (fun t => XS.dup X11.here hx rfl (hb hby d3_120) rfl rfl) ?_
  obtain ⟨T12, X12, e12, st12⟩ := getF X11 hx hZ hown (host := "") (Or.inl (hw _ (List.mem_of_getElem? (i := 21) rfl))) Via.refl e11 F_size_r0 (g := (mkF m 121 #[rv r0, jv p1, .second, jv p2, .second, jv p3, .second, jv p4, .second, jv p5, .second, iv 0, iv (oI (5 * r + 5)), .unset] [(.ref r0), (.ref r0)])) rfl rfl (hb hby d3_121)
  refine gs st12 ?_
  show Go p e below s QQ 0 0 (T12.setTop (mkF m 124 #[rv r0, jv p1, .second, jv p2, .second, jv p3, .second, jv p4, .second, jv p5, .second, iv 0, iv (oI (5 * r + 5)), .unset] [(.int (oI r)), (.ref r0)]))
  refine gs (fun t => XS.dupX1 X12.here hx rfl (hb hby d3_124) rfl rfl rfl) ?_
  refine gs (fun t => XS.iconst X12.here hx rfl (hb hby d3_125)) ?_
  refine gs (fun t => XS.iadd X12.here hx rfl (hb hby d3_126) rfl) ?_
  show Go p e below s QQ 0 0 (T12.setTop (mkF m 127 #[rv r0, jv p1, .second, jv p2, .second, jv p3, .second, jv p4, .second, jv p5, .second, iv 0, iv (oI (5 * r + 5)), .unset] [(.int ((oI r) + (1 : Int32))), (.ref r0), (.int (oI r))]))
  rw [show ((oI r) + (1 : Int32)) = (oI (r + 1)) from oI_add (a := r) (b := 1) (by omega)]
  show Go p e below s QQ 0 0 (T12.setTop (mkF m 127 #[rv r0, jv p1, .second, jv p2, .second, jv p3, .second, jv p4, .second, jv p5, .second, iv 0, iv (oI (5 * r + 5)), .unset] [(.int (oI (r + 1))), (.ref r0), (.int (oI r))]))
  obtain ⟨T13, h13, X13, e13, W13, st13⟩ := putF X12 hx hZ hown (host := "") (Or.inl (hw _ (List.mem_of_getElem? (i := 21) rfl))) Via.refl e12 F_size_r0 E_r0 (Or.inl (hw _ (List.mem_of_getElem? (i := 22) rfl))) (hw _ (List.mem_of_getElem? (i := 2) rfl)) (ty := .int) (by decide) rfl rfl (g := (mkF m 127 #[rv r0, jv p1, .second, jv p2, .second, jv p3, .second, jv p4, .second, jv p5, .second, iv 0, iv (oI (5 * r + 5)), .unset] [(.int (oI (r + 1))), (.ref r0), (.int (oI r))])) rfl rfl (hb hby d3_127)
  replace N0 := Fr.snoc X13 N0 ge_r0
  refine gs st13 ?_
  show Go p e below s QQ 0 0 (T13.setTop (mkF m 130 #[rv r0, jv p1, .second, jv p2, .second, jv p3, .second, jv p4, .second, jv p5, .second, iv 0, iv (oI (5 * r + 5)), .unset] [(.int (oI r))]))
  replace F_pages_r0 := F_pages_r0.other W13 (Or.inr (slot_ne (Or.inl (hw _ (List.mem_of_getElem? (i := 14) rfl))) (Or.inl (hw _ (List.mem_of_getElem? (i := 22) rfl))) (by decide) (t := (.array (.array .long))) (t' := .int) (by decide) (by decide)))
  replace F_size_r0 := F_size_r0.same W13
  replace E_r0 := E_r0.wr W13
  replace V_pg := V_pg.other W13 (Ne.symm ne_r0_pg)
  replace V_pa := V_pa.other W13 (Ne.symm ne_r0_pa)
  replace ZZ : n0 ≤ h13.size := by rw [W13.size]; exact ZZ
  replace KK := KK.wr W13 (Or.inl (by simp))
  refine gs (fun t => XS.istore X13.here hx rfl (hb hby d3_130) rfl (l' := #[rv r0, jv p1, .second, jv p2, .second, jv p3, .second, jv p4, .second, jv p5, .second, iv 0, iv (oI (5 * r + 5)), iv (oI r)]) rfl) ?_
  refine gs (fun t => XS.aloadN X13.here hx rfl (hb hby d3_132) rfl rfl) ?_
  refine gs (fun t => XS.iload X13.here hx rfl (hb hby d3_133) rfl) ?_
  refine gs (fun t => XS.iconst X13.here hx rfl (hb hby d3_135)) ?_
  refine gs (fun t => XS.lloadN X13.here hx rfl (hb hby d3_136) rfl) ?_
  show Go p e below s QQ 0 0 (T13.setTop (mkF m 137 #[rv r0, jv p1, .second, jv p2, .second, jv p3, .second, jv p4, .second, jv p5, .second, iv 0, iv (oI (5 * r + 5)), iv (oI r)] [(.long p1), (.int (oI 0)), (.int (oI r)), (.ref r0)]))
  obtain ⟨cq14, kq14, q14a, q14b, q14c⟩ := isOf hZ e13 E_r0
  obtain ⟨_, _, ⟨T14, L14, k14, n14⟩, -, X14, ⟨Lc14, hQ14, l14, y14, z14⟩, st14⟩ := X13.virtualBack hx (y := (⟨"com/example/interval/interval/service/SlotTable", "set", "(IIJ)V"⟩ : MethodName)) (z := (⟨"com/example/interval/interval/service/SlotTable", "set", "(IIJ)V"⟩ : MethodName)) hown (mvT hZ (hw _ (List.mem_of_getElem? (i := 26) rfl))) (mvT hZ (hw _ (List.mem_of_getElem? (i := 27) rfl))) (notFace_of_selects (args := #[]) (mvT hZ (hw _ (List.mem_of_getElem? (i := 29) rfl)))) (mvT hZ (hw _ (List.mem_of_getElem? (i := 29) rfl))) (mvT hZ (hw _ (List.mem_of_getElem? (i := 28) rfl))) (by decide) (backOf (W := 0) (rm5 l Z a0 hw [] r0 p1 r 0 pg pa fpg fa h13 n0 ZZ F_pages_r0 V_pg hpg V_pa ge_pa ne_r0_pg ne_r0_pa ne_pg_pa (by omega) (by omega)) hZ (hw _ (List.mem_of_getElem? (i := 30) rfl)) (hw _ (List.mem_of_getElem? (i := 3) rfl)) (by decide) (by decide)) q14a q14c (g := (mkF m 137 #[rv r0, jv p1, .second, jv p2, .second, jv p3, .second, jv p4, .second, jv p5, .second, iv 0, iv (oI (5 * r + 5)), iv (oI r)] [(.long p1), (.int (oI 0)), (.int (oI r)), (.ref r0)])) rfl (by rw [hml]; rfl) (Steps.refl _) (argsL := [(.int (oI r)), (.int (oI 0)), (.long p1)]) (rest := []) (lenOf pd_1 rfl) rfl (by show 2 * 0 + _ ≤ _; exact Nat.le_of_eq rfl) (hb hby d3_137) (fun _ _ => ⟨rfl, e13, (by decide : 0 + 0 ≤ _), (by decide : 0 + 0 ≤ _)⟩)
  dsimp only [Pt.U, Pt.locs, Pt.cells, Pt.slots] at X14 l14 y14 z14 st14 hQ14
  subst l14 y14 z14
  obtain ⟨rfl, N14q, K14, Vn14⟩ := hQ14
  replace N0 := Fr.app N0 N14q
  refine gt st14 ?_
  show Go p e below s QQ 0 0 (T14.setTop (mkF m 140 #[rv r0, jv p1, .second, jv p2, .second, jv p3, .second, jv p4, .second, jv p5, .second, iv 0, iv (oI (5 * r + 5)), iv (oI r)] []))
  replace F_pages_r0 := F_pages_r0.keep K14 (ninS ne_r0_pa nin0)
  replace F_size_r0 := F_size_r0.keep K14 (ninS ne_r0_pa nin0)
  replace E_r0 := E_r0.keep K14
  replace V_pg := V_pg.keep K14 (ninS ne_pg_pa nin0)
  replace ZZ := Nat.le_trans ZZ K14.1
  replace KK := KK.trans K14 (allS (Or.inl (by simp)) all0)
  have V_pa := Vn14
  refine gs (fun t => XS.aloadN X14.here hx rfl (hb hby d3_140) rfl rfl) ?_
  refine gs (fun t => XS.iload X14.here hx rfl (hb hby d3_141) rfl) ?_
  refine gs (fun t => XS.iconst X14.here hx rfl (hb hby d3_143)) ?_
  refine gs (fun t => XS.lloadN X14.here hx rfl (hb hby d3_144) rfl) ?_
  show Go p e below s QQ 0 0 (T14.setTop (mkF m 145 #[rv r0, jv p1, .second, jv p2, .second, jv p3, .second, jv p4, .second, jv p5, .second, iv 0, iv (oI (5 * r + 5)), iv (oI r)] [(.long p2), (.int (oI 1)), (.int (oI r)), (.ref r0)]))
  obtain ⟨cq15, kq15, q15a, q15b, q15c⟩ := isOf hZ rfl E_r0
  obtain ⟨_, _, ⟨T15, L15, k15, n15⟩, -, X15, ⟨Lc15, hQ15, l15, y15, z15⟩, st15⟩ := X14.virtualBack hx (y := (⟨"com/example/interval/interval/service/SlotTable", "set", "(IIJ)V"⟩ : MethodName)) (z := (⟨"com/example/interval/interval/service/SlotTable", "set", "(IIJ)V"⟩ : MethodName)) hown (mvT hZ (hw _ (List.mem_of_getElem? (i := 26) rfl))) (mvT hZ (hw _ (List.mem_of_getElem? (i := 27) rfl))) (notFace_of_selects (args := #[]) (mvT hZ (hw _ (List.mem_of_getElem? (i := 29) rfl)))) (mvT hZ (hw _ (List.mem_of_getElem? (i := 29) rfl))) (mvT hZ (hw _ (List.mem_of_getElem? (i := 28) rfl))) (by decide) (backOf (W := 0) (rm5 l Z a0 hw [] r0 p2 r 1 pg pa fpg (updv fa (5 * r + 0) (.long p1)) T14.heap n0 ZZ F_pages_r0 V_pg hpg V_pa ge_pa ne_r0_pg ne_r0_pa ne_pg_pa (by omega) (by omega)) hZ (hw _ (List.mem_of_getElem? (i := 30) rfl)) (hw _ (List.mem_of_getElem? (i := 3) rfl)) (by decide) (by decide)) q15a q15c (g := (mkF m 145 #[rv r0, jv p1, .second, jv p2, .second, jv p3, .second, jv p4, .second, jv p5, .second, iv 0, iv (oI (5 * r + 5)), iv (oI r)] [(.long p2), (.int (oI 1)), (.int (oI r)), (.ref r0)])) rfl (by rw [hml]; rfl) (Steps.refl _) (argsL := [(.int (oI r)), (.int (oI 1)), (.long p2)]) (rest := []) (lenOf pd_1 rfl) rfl (by show 2 * 0 + _ ≤ _; exact Nat.le_of_eq rfl) (hb hby d3_145) (fun _ _ => ⟨rfl, rfl, (by decide : 0 + 0 ≤ _), (by decide : 0 + 0 ≤ _)⟩)
  dsimp only [Pt.U, Pt.locs, Pt.cells, Pt.slots] at X15 l15 y15 z15 st15 hQ15
  subst l15 y15 z15
  obtain ⟨rfl, N15q, K15, Vn15⟩ := hQ15
  replace N0 := Fr.app N0 N15q
  refine gt st15 ?_
  show Go p e below s QQ 0 0 (T15.setTop (mkF m 148 #[rv r0, jv p1, .second, jv p2, .second, jv p3, .second, jv p4, .second, jv p5, .second, iv 0, iv (oI (5 * r + 5)), iv (oI r)] []))
  replace F_pages_r0 := F_pages_r0.keep K15 (ninS ne_r0_pa nin0)
  replace F_size_r0 := F_size_r0.keep K15 (ninS ne_r0_pa nin0)
  replace E_r0 := E_r0.keep K15
  replace V_pg := V_pg.keep K15 (ninS ne_pg_pa nin0)
  replace ZZ := Nat.le_trans ZZ K15.1
  replace KK := KK.trans K15 (allS (Or.inl (by simp)) all0)
  have V_pa := Vn15
  refine gs (fun t => XS.aloadN X15.here hx rfl (hb hby d3_148) rfl rfl) ?_
  refine gs (fun t => XS.iload X15.here hx rfl (hb hby d3_149) rfl) ?_
  refine gs (fun t => XS.iconst X15.here hx rfl (hb hby d3_151)) ?_
  refine gs (fun t => XS.lload X15.here hx rfl (hb hby d3_152) rfl) ?_
  show Go p e below s QQ 0 0 (T15.setTop (mkF m 154 #[rv r0, jv p1, .second, jv p2, .second, jv p3, .second, jv p4, .second, jv p5, .second, iv 0, iv (oI (5 * r + 5)), iv (oI r)] [(.long p3), (.int (oI 2)), (.int (oI r)), (.ref r0)]))
  obtain ⟨cq16, kq16, q16a, q16b, q16c⟩ := isOf hZ rfl E_r0
  obtain ⟨_, _, ⟨T16, L16, k16, n16⟩, -, X16, ⟨Lc16, hQ16, l16, y16, z16⟩, st16⟩ := X15.virtualBack hx (y := (⟨"com/example/interval/interval/service/SlotTable", "set", "(IIJ)V"⟩ : MethodName)) (z := (⟨"com/example/interval/interval/service/SlotTable", "set", "(IIJ)V"⟩ : MethodName)) hown (mvT hZ (hw _ (List.mem_of_getElem? (i := 26) rfl))) (mvT hZ (hw _ (List.mem_of_getElem? (i := 27) rfl))) (notFace_of_selects (args := #[]) (mvT hZ (hw _ (List.mem_of_getElem? (i := 29) rfl)))) (mvT hZ (hw _ (List.mem_of_getElem? (i := 29) rfl))) (mvT hZ (hw _ (List.mem_of_getElem? (i := 28) rfl))) (by decide) (backOf (W := 0) (rm5 l Z a0 hw [] r0 p3 r 2 pg pa fpg (updv (updv fa (5 * r + 0) (.long p1)) (5 * r + 1) (.long p2)) T15.heap n0 ZZ F_pages_r0 V_pg hpg V_pa ge_pa ne_r0_pg ne_r0_pa ne_pg_pa (by omega) (by omega)) hZ (hw _ (List.mem_of_getElem? (i := 30) rfl)) (hw _ (List.mem_of_getElem? (i := 3) rfl)) (by decide) (by decide)) q16a q16c (g := (mkF m 154 #[rv r0, jv p1, .second, jv p2, .second, jv p3, .second, jv p4, .second, jv p5, .second, iv 0, iv (oI (5 * r + 5)), iv (oI r)] [(.long p3), (.int (oI 2)), (.int (oI r)), (.ref r0)])) rfl (by rw [hml]; rfl) (Steps.refl _) (argsL := [(.int (oI r)), (.int (oI 2)), (.long p3)]) (rest := []) (lenOf pd_1 rfl) rfl (by show 2 * 0 + _ ≤ _; exact Nat.le_of_eq rfl) (hb hby d3_154) (fun _ _ => ⟨rfl, rfl, (by decide : 0 + 0 ≤ _), (by decide : 0 + 0 ≤ _)⟩)
  dsimp only [Pt.U, Pt.locs, Pt.cells, Pt.slots] at X16 l16 y16 z16 st16 hQ16
  subst l16 y16 z16
  obtain ⟨rfl, N16q, K16, Vn16⟩ := hQ16
  replace N0 := Fr.app N0 N16q
  refine gt st16 ?_
  show Go p e below s QQ 0 0 (T16.setTop (mkF m 157 #[rv r0, jv p1, .second, jv p2, .second, jv p3, .second, jv p4, .second, jv p5, .second, iv 0, iv (oI (5 * r + 5)), iv (oI r)] []))
  replace F_pages_r0 := F_pages_r0.keep K16 (ninS ne_r0_pa nin0)
  replace F_size_r0 := F_size_r0.keep K16 (ninS ne_r0_pa nin0)
  replace E_r0 := E_r0.keep K16
  replace V_pg := V_pg.keep K16 (ninS ne_pg_pa nin0)
  replace ZZ := Nat.le_trans ZZ K16.1
  replace KK := KK.trans K16 (allS (Or.inl (by simp)) all0)
  have V_pa := Vn16
  refine gs (fun t => XS.aloadN X16.here hx rfl (hb hby d3_157) rfl rfl) ?_
  refine gs (fun t => XS.iload X16.here hx rfl (hb hby d3_158) rfl) ?_
  refine gs (fun t => XS.iconst X16.here hx rfl (hb hby d3_160)) ?_
  refine gs (fun t => XS.lload X16.here hx rfl (hb hby d3_161) rfl) ?_
  show Go p e below s QQ 0 0 (T16.setTop (mkF m 163 #[rv r0, jv p1, .second, jv p2, .second, jv p3, .second, jv p4, .second, jv p5, .second, iv 0, iv (oI (5 * r + 5)), iv (oI r)] [(.long p4), (.int (oI 3)), (.int (oI r)), (.ref r0)]))
  obtain ⟨cq17, kq17, q17a, q17b, q17c⟩ := isOf hZ rfl E_r0
  obtain ⟨_, _, ⟨T17, L17, k17, n17⟩, -, X17, ⟨Lc17, hQ17, l17, y17, z17⟩, st17⟩ := X16.virtualBack hx (y := (⟨"com/example/interval/interval/service/SlotTable", "set", "(IIJ)V"⟩ : MethodName)) (z := (⟨"com/example/interval/interval/service/SlotTable", "set", "(IIJ)V"⟩ : MethodName)) hown (mvT hZ (hw _ (List.mem_of_getElem? (i := 26) rfl))) (mvT hZ (hw _ (List.mem_of_getElem? (i := 27) rfl))) (notFace_of_selects (args := #[]) (mvT hZ (hw _ (List.mem_of_getElem? (i := 29) rfl)))) (mvT hZ (hw _ (List.mem_of_getElem? (i := 29) rfl))) (mvT hZ (hw _ (List.mem_of_getElem? (i := 28) rfl))) (by decide) (backOf (W := 0) (rm5 l Z a0 hw [] r0 p4 r 3 pg pa fpg (updv (updv (updv fa (5 * r + 0) (.long p1)) (5 * r + 1) (.long p2)) (5 * r + 2) (.long p3)) T16.heap n0 ZZ F_pages_r0 V_pg hpg V_pa ge_pa ne_r0_pg ne_r0_pa ne_pg_pa (by omega) (by omega)) hZ (hw _ (List.mem_of_getElem? (i := 30) rfl)) (hw _ (List.mem_of_getElem? (i := 3) rfl)) (by decide) (by decide)) q17a q17c (g := (mkF m 163 #[rv r0, jv p1, .second, jv p2, .second, jv p3, .second, jv p4, .second, jv p5, .second, iv 0, iv (oI (5 * r + 5)), iv (oI r)] [(.long p4), (.int (oI 3)), (.int (oI r)), (.ref r0)])) rfl (by rw [hml]; rfl) (Steps.refl _) (argsL := [(.int (oI r)), (.int (oI 3)), (.long p4)]) (rest := []) (lenOf pd_1 rfl) rfl (by show 2 * 0 + _ ≤ _; exact Nat.le_of_eq rfl) (hb hby d3_163) (fun _ _ => ⟨rfl, rfl, (by decide : 0 + 0 ≤ _), (by decide : 0 + 0 ≤ _)⟩)
  dsimp only [Pt.U, Pt.locs, Pt.cells, Pt.slots] at X17 l17 y17 z17 st17 hQ17
  subst l17 y17 z17
  obtain ⟨rfl, N17q, K17, Vn17⟩ := hQ17
  replace N0 := Fr.app N0 N17q
  refine gt st17 ?_
  show Go p e below s QQ 0 0 (T17.setTop (mkF m 166 #[rv r0, jv p1, .second, jv p2, .second, jv p3, .second, jv p4, .second, jv p5, .second, iv 0, iv (oI (5 * r + 5)), iv (oI r)] []))
  replace F_pages_r0 := F_pages_r0.keep K17 (ninS ne_r0_pa nin0)
  replace F_size_r0 := F_size_r0.keep K17 (ninS ne_r0_pa nin0)
  replace E_r0 := E_r0.keep K17
  replace V_pg := V_pg.keep K17 (ninS ne_pg_pa nin0)
  replace ZZ := Nat.le_trans ZZ K17.1
  replace KK := KK.trans K17 (allS (Or.inl (by simp)) all0)
  have V_pa := Vn17
  refine gs (fun t => XS.aloadN X17.here hx rfl (hb hby d3_166) rfl rfl) ?_
  refine gs (fun t => XS.iload X17.here hx rfl (hb hby d3_167) rfl) ?_
  refine gs (fun t => XS.iconst X17.here hx rfl (hb hby d3_169)) ?_
  refine gs (fun t => XS.lload X17.here hx rfl (hb hby d3_170) rfl) ?_
  show Go p e below s QQ 0 0 (T17.setTop (mkF m 172 #[rv r0, jv p1, .second, jv p2, .second, jv p3, .second, jv p4, .second, jv p5, .second, iv 0, iv (oI (5 * r + 5)), iv (oI r)] [(.long p5), (.int (oI 4)), (.int (oI r)), (.ref r0)]))
  obtain ⟨cq18, kq18, q18a, q18b, q18c⟩ := isOf hZ rfl E_r0
  obtain ⟨_, _, ⟨T18, L18, k18, n18⟩, -, X18, ⟨Lc18, hQ18, l18, y18, z18⟩, st18⟩ := X17.virtualBack hx (y := (⟨"com/example/interval/interval/service/SlotTable", "set", "(IIJ)V"⟩ : MethodName)) (z := (⟨"com/example/interval/interval/service/SlotTable", "set", "(IIJ)V"⟩ : MethodName)) hown (mvT hZ (hw _ (List.mem_of_getElem? (i := 26) rfl))) (mvT hZ (hw _ (List.mem_of_getElem? (i := 27) rfl))) (notFace_of_selects (args := #[]) (mvT hZ (hw _ (List.mem_of_getElem? (i := 29) rfl)))) (mvT hZ (hw _ (List.mem_of_getElem? (i := 29) rfl))) (mvT hZ (hw _ (List.mem_of_getElem? (i := 28) rfl))) (by decide) (backOf (W := 0) (rm5 l Z a0 hw [] r0 p5 r 4 pg pa fpg (updv (updv (updv (updv fa (5 * r + 0) (.long p1)) (5 * r + 1) (.long p2)) (5 * r + 2) (.long p3)) (5 * r + 3) (.long p4)) T17.heap n0 ZZ F_pages_r0 V_pg hpg V_pa ge_pa ne_r0_pg ne_r0_pa ne_pg_pa (by omega) (by omega)) hZ (hw _ (List.mem_of_getElem? (i := 30) rfl)) (hw _ (List.mem_of_getElem? (i := 3) rfl)) (by decide) (by decide)) q18a q18c (g := (mkF m 172 #[rv r0, jv p1, .second, jv p2, .second, jv p3, .second, jv p4, .second, jv p5, .second, iv 0, iv (oI (5 * r + 5)), iv (oI r)] [(.long p5), (.int (oI 4)), (.int (oI r)), (.ref r0)])) rfl (by rw [hml]; rfl) (Steps.refl _) (argsL := [(.int (oI r)), (.int (oI 4)), (.long p5)]) (rest := []) (lenOf pd_1 rfl) rfl (by show 2 * 0 + _ ≤ _; exact Nat.le_of_eq rfl) (hb hby d3_172) (fun _ _ => ⟨rfl, rfl, (by decide : 0 + 0 ≤ _), (by decide : 0 + 0 ≤ _)⟩)
  dsimp only [Pt.U, Pt.locs, Pt.cells, Pt.slots] at X18 l18 y18 z18 st18 hQ18
  subst l18 y18 z18
  obtain ⟨rfl, N18q, K18, Vn18⟩ := hQ18
  replace N0 := Fr.app N0 N18q
  refine gt st18 ?_
  show Go p e below s QQ 0 0 (T18.setTop (mkF m 175 #[rv r0, jv p1, .second, jv p2, .second, jv p3, .second, jv p4, .second, jv p5, .second, iv 0, iv (oI (5 * r + 5)), iv (oI r)] []))
  replace F_pages_r0 := F_pages_r0.keep K18 (ninS ne_r0_pa nin0)
  replace F_size_r0 := F_size_r0.keep K18 (ninS ne_r0_pa nin0)
  replace E_r0 := E_r0.keep K18
  replace V_pg := V_pg.keep K18 (ninS ne_pg_pa nin0)
  replace ZZ := Nat.le_trans ZZ K18.1
  replace KK := KK.trans K18 (allS (Or.inl (by simp)) all0)
  have V_pa := Vn18
  refine gs (fun t => XS.iload X18.here hx rfl (hb hby d3_175) rfl) ?_
  exact goI X18 hx Bd.notSynchronized Bd.returns (hb hby d3_177) (by rw [← hQQ]; exact ⟨rfl, N0, KK, F_pages_r0, F_size_r0, V_pa⟩) (by decide) (by decide)
theorem d1_0 : decode prog_28_method_1_code 0 = .ok (.aload_n 0, 1) := by decide +kernel
theorem d1_1 : decode prog_28_method_1_code 1 = .ok (.invokespecial 3, 3) := by decide +kernel
theorem d1_4 : decode prog_28_method_1_code 4 = .ok (.aload_n 0, 1) := by decide +kernel
theorem d1_5 : decode prog_28_method_1_code 5 = .ok (.iconst 1, 1) := by decide +kernel
theorem d1_6 : decode prog_28_method_1_code 6 = .ok (.anewarray 9, 3) := by decide +kernel
theorem d1_9 : decode prog_28_method_1_code 9 = .ok (.dup, 1) := by decide +kernel
theorem d1_10 : decode prog_28_method_1_code 10 = .ok (.iconst 0, 1) := by decide +kernel
theorem d1_11 : decode prog_28_method_1_code 11 = .ok (.bipush 40, 2) := by decide +kernel
theorem d1_13 : decode prog_28_method_1_code 13 = .ok (.newarray .long, 2) := by decide +kernel
theorem d1_15 : decode prog_28_method_1_code 15 = .ok (.aastore, 1) := by decide +kernel
theorem d1_16 : decode prog_28_method_1_code 16 = .ok (.putfield 11, 3) := by decide +kernel
theorem d1_19 : decode prog_28_method_1_code 19 = .ok (.return_, 1) := by decide +kernel
theorem pn_1 : plainName "com/example/interval/interval/service/SlotTable" = true := by first | (simp [plainName, overriddenIn]; done) | decide +kernel
def Qrm1 (Z : State) (r0 : Addr) (h0 : Heap) (n0 : Nat) (v : Option Value) (h : Heap) (L : List Loc) : Prop := ∃ pg pa : Addr, v = none ∧ Fr n0 L ∧ Keep h0 h [r0] ∧ Fld Z h r0 "com/example/interval/interval/service/SlotTable" "pages" "[[J" (.ref pg) ∧ Fld Z h r0 "com/example/interval/interval/service/SlotTable" "size" "I" (.int (oI 0)) ∧ Arf Z h pg (.array .long) 1 (updv (fun _ => .null) 0 (.ref pa)) ∧ Arf Z h pa .long 40 (fun _ => .long 0) ∧ h0.size ≤ pg ∧ h0.size ≤ pa ∧ pg ≠ pa
set_option maxRecDepth 65536 in
set_option maxHeartbeats 40000000 in
theorem rm1 (l : Launch) (Z : State) (a0 : Array Value) (hw : ∀ d ∈ tables_1, d.before a0 Z = true) (ws : List Jvm.Cond) (r0 : Addr) (h0 : Heap) (n0 : Nat) (Z0 : n0 ≤ h0.size) (F_pages_r0 : Fld Z h0 r0 "com/example/interval/interval/service/SlotTable" "pages" "[[J" .null) (F_size_r0 : Fld Z h0 r0 "com/example/interval/interval/service/SlotTable" "size" "I" (.int (0 : Int32))) (E_r0 : Exa Z h0 r0 "com/example/interval/interval/service/SlotTable") (ge_r0 : n0 ≤ r0) :
    MetFree l (⟨"com/example/interval/interval/service/SlotTable", "<init>", "()V"⟩ : MethodName) (head1 (Jvm.Cond.code (⟨"com/example/interval/interval/service/SlotTable", "<init>", "()V"⟩ : MethodName) prog_28_method_1_code 1 none :: ws) ({ frames := 1, cells := 2, slots := 41, locals := 12 } : Room)) (fun a U => a = #[(.ref r0)] ∧ Z.Warmed39 U.vm ∧ U.heap = h0) (fun _ _ _ _ _ => True) (fun _ U o U' => ∃ v L, o = .returned v ∧ Qrm1 Z r0 h0 n0 v U'.heap L ∧ FrameEnd U o U' L ({ frames := 1, cells := 2, slots := 41, locals := 12 } : Room).cells ({ frames := 1, cells := 2, slots := 41, locals := 12 } : Room).slots) := by
  refine MetFree.of_bodySF (plainFor_of_name pn_1) hisR ?_
  intro p e s m args below meth c s₁ Bd hml0 hP hK
  obtain ⟨rfl, hZ, hh⟩ := hP
  have hx := Bd.exec
  have hby := Bd.bytes
  have hml : c.maxLocals = 1 := hml0
  have hown : s.vm.findClass "com/example/interval/interval/service/SlotTable" = some m.cls := findClass_of_methodNamed Bd.named
  have hnm := (name_of_methodNamed Bd.named Bd.method).1
  have X0 : Stand p l e ({ frames := 1, cells := 2, slots := 41, locals := 12 } : Room) s m #[(.ref r0)] below meth c s₁ [] 0 0 := Stand.of_body Bd
  have e0 : s₁.heap = h0 := by rw [← hh, Bd.state]; rfl
  have N0 := Fr.nil n0
  have ZZ := Z0
  have KK : Keep h0 h0 [r0] := Keep.refl h0 _
  show Go p e below s (Qrm1 Z r0 h0 n0) 2 41 (s₁.setTop (entryFrame m #[(.ref r0)] 1))
  generalize hQQ : (Qrm1 Z r0 h0 n0) = QQ
  refine gs (fun t k => castTop (g' := (mkF m 0 #[rv r0] [])) (by first | (simp [entryFrame, mkF, argsToLocals, Value.category, maxLocals]; done) | rfl) k) ?_
  show Go p e below s QQ 2 41 (s₁.setTop (mkF m 0 #[rv r0] []))
  refine gs (fun t => XS.aloadN X0.here hx rfl (hb hby d1_0) rfl rfl) ?_
  obtain ⟨T19, X19, e19, st19⟩ := initO X0 hx hZ hown (hw _ (List.mem_of_getElem? (i := 7) rfl)) (hw _ (List.mem_of_getElem? (i := 8) rfl)) (hw _ (List.mem_of_getElem? (i := 9) rfl)) e0 (g := (mkF m 1 #[rv r0] [(.ref r0)])) rfl (by rw [hml]; rfl) rfl (hb hby d1_1) (by decide) (W := 0) (by show 2 * 0 + _ ≤ _; exact Nat.le_of_eq rfl) (by decide)
  refine gs st19 ?_
  show Go p e below s QQ 2 41 (T19.setTop (mkF m 4 #[rv r0] []))
  refine gs (fun t => XS.aloadN X19.here hx rfl (hb hby d1_4) rfl rfl) ?_
  refine gs (fun t => XS.iconst X19.here hx rfl (hb hby d1_5)) ?_
  obtain ⟨T20, h20, k20, X20, e20, E20, A20, Q20, O20, st20⟩ := newRA X19 hx hZ hown (ty := .long) (by decide) (hw _ (List.mem_of_getElem? (i := 10) rfl)) (hw _ (List.mem_of_getElem? (i := 11) rfl)) e19 (g := (mkF m 6 #[rv r0] [(.int (1 : Int32)), (.ref r0)])) rfl (hb hby d1_6) rfl (by decide) (cap := 1) (by decide) (by decide) (by decide) (by decide) (ad := "[[J") (by decide)
  obtain ⟨b20, g20⟩ : ∃ z, z = h0.size := ⟨_, rfl⟩
  rw [← g20] at A20 st20 Q20
  have ge_b20 : n0 ≤ b20 := by rw [g20]; exact ZZ
  have sz_b20 : h0.size ≤ b20 := by rw [g20]; exact KK.1
  have ne_r0_b20 : r0 ≠ b20 := by rw [g20]; exact Nat.ne_of_lt F_pages_r0.lt
  refine gs st20 ?_
  show Go p e below s QQ 2 41 (T20.setTop (mkF m 9 #[rv r0] [(.ref b20), (.ref r0)]))
  replace F_pages_r0 := F_pages_r0.ext E20
  replace F_size_r0 := F_size_r0.ext E20
  replace E_r0 := E_r0.ext E20
  replace ZZ := Nat.le_trans ZZ E20.1
  replace KK := KK.ext E20
  have V_b20 : Arf Z h20 b20 (.array .long) 1 (fun _ => .null) := Arf.new A20
  have TK_b20 : Tak Z h20 b20 "[J" := Tak.ofA A20 O20
  refine gs (fun t => XS.dup X20.here hx rfl (hb hby d1_9) rfl rfl) ?_
  refine gs (fun t => XS.iconst X20.here hx rfl (hb hby d1_10)) ?_
  refine gs (fun t => XS.bipush X20.here hx rfl (hb hby d1_11)) ?_
  obtain ⟨T21, h21, k21, X21, e21, E21, A21, Q21, st21⟩ := newPE X20 hx hZ (hw _ (List.mem_of_getElem? (i := 0) rfl)) e20 (g := (mkF m 13 #[rv r0] [(.int (40 : Int32)), (.int (0 : Int32)), (.ref b20), (.ref b20), (.ref r0)])) rfl (hb hby d1_13) rfl (by decide) (cap := 40) (by decide) (by decide) (by decide) (by decide) (ad := "[J") (by decide)
  obtain ⟨b21, g21⟩ : ∃ z, z = h20.size := ⟨_, rfl⟩
  rw [← g21] at A21 st21 Q21
  have ge_b21 : n0 ≤ b21 := by rw [g21]; exact ZZ
  have sz_b21 : h0.size ≤ b21 := by rw [g21]; exact KK.1
  have ne_r0_b21 : r0 ≠ b21 := by rw [g21]; exact Nat.ne_of_lt F_pages_r0.lt
  have ne_b20_b21 : b20 ≠ b21 := by rw [g21]; exact Nat.ne_of_lt V_b20.lt
  refine gs st21 ?_
  show Go p e below s QQ 2 41 (T21.setTop (mkF m 15 #[rv r0] [(.ref b21), (.int (0 : Int32)), (.ref b20), (.ref b20), (.ref r0)]))
  replace F_pages_r0 := F_pages_r0.ext E21
  replace F_size_r0 := F_size_r0.ext E21
  replace E_r0 := E_r0.ext E21
  replace V_b20 := V_b20.ext E21
  replace TK_b20 := TK_b20.ext E21
  replace ZZ := Nat.le_trans ZZ E21.1
  replace KK := KK.ext E21
  have V_b21 : Arf Z h21 b21 .long 40 (fun _ => .long 0) := Arf.new A21
  have Ex_b21 := Q21
  obtain ⟨T22, h22, X22, e22, W22, V22, st22⟩ := stRf X21 hx hZ e21 V_b20 rfl (TK_b20.sto (Ins.self Ex_b21)) (j := (0 : Int32)) (by decide) (g := (mkF m 15 #[rv r0] [(.ref b21), (.int (0 : Int32)), (.ref b20), (.ref b20), (.ref r0)])) rfl rfl (hb hby d1_15)
  replace N0 := Fr.snoc X22 N0 ge_b20
  refine gs st22 ?_
  show Go p e below s QQ 2 41 (T22.setTop (mkF m 16 #[rv r0] [(.ref b20), (.ref r0)]))
  replace F_pages_r0 := F_pages_r0.other W22 (Or.inl ne_r0_b20)
  replace F_size_r0 := F_size_r0.other W22 (Or.inl ne_r0_b20)
  replace E_r0 := E_r0.wr W22
  replace TK_b20 := TK_b20.wr W22
  replace V_b21 := V_b21.other W22 (Ne.symm ne_b20_b21)
  replace Ex_b21 := Ex_b21.wr W22
  replace ZZ : n0 ≤ h22.size := by rw [W22.size]; exact ZZ
  replace KK := KK.wr W22 (Or.inr sz_b20)
  replace V_b20 : Arf Z h22 b20 (.array .long) 1 (updv (fun _ => .null) 0 (.ref b21)) := V22
  obtain ⟨T23, h23, X23, e23, W23, st23⟩ := putF X22 hx hZ hown (host := "") (Or.inl (hw _ (List.mem_of_getElem? (i := 13) rfl))) Via.refl e22 F_pages_r0 E_r0 (Or.inl (hw _ (List.mem_of_getElem? (i := 14) rfl))) (hw _ (List.mem_of_getElem? (i := 2) rfl)) (ty := (.array (.array .long))) (by decide) rfl rfl (g := (mkF m 16 #[rv r0] [(.ref b20), (.ref r0)])) rfl rfl (hb hby d1_16)
  replace N0 := Fr.snoc X23 N0 ge_r0
  refine gs st23 ?_
  show Go p e below s QQ 2 41 (T23.setTop (mkF m 19 #[rv r0] []))
  replace F_pages_r0 := F_pages_r0.same W23
  replace F_size_r0 := F_size_r0.other W23 (Or.inr (slot_ne (Or.inl (hw _ (List.mem_of_getElem? (i := 22) rfl))) (Or.inl (hw _ (List.mem_of_getElem? (i := 14) rfl))) (by decide) (t := .int) (t' := (.array (.array .long))) (by decide) (by decide)))
  replace E_r0 := E_r0.wr W23
  replace V_b20 := V_b20.other W23 (Ne.symm ne_r0_b20)
  replace TK_b20 := TK_b20.wr W23
  replace V_b21 := V_b21.other W23 (Ne.symm ne_r0_b21)
  replace Ex_b21 := Ex_b21.wr W23
  replace ZZ : n0 ≤ h23.size := by rw [W23.size]; exact ZZ
  replace KK := KK.wr W23 (Or.inl (by simp))
  exact goV X23 hx Bd.notSynchronized Bd.returns (hb hby d1_19) (by rw [← hQQ, e23]; exact ⟨b20, b21, rfl, N0, KK, F_pages_r0, F_size_r0, V_b20, V_b21, sz_b20, sz_b21, ne_b20_b21⟩) (by decide) (by decide)
theorem d15_0 : decode jdk_35_method_42_code 0 = .ok (.lload_n 0, 1) := by decide +kernel
theorem d15_1 : decode jdk_35_method_42_code 1 = .ok (.lload_n 2, 1) := by decide +kernel
theorem d15_2 : decode jdk_35_method_42_code 2 = .ok (.lcmp, 1) := by decide +kernel
theorem d15_3 : decode jdk_35_method_42_code 3 = .ok (.ifCond .ge 7, 3) := by decide +kernel
theorem d15_6 : decode jdk_35_method_42_code 6 = .ok (.iconst (-1), 1) := by decide +kernel
theorem d15_7 : decode jdk_35_method_42_code 7 = .ok (.goto 14, 3) := by decide +kernel
theorem d15_10 : decode jdk_35_method_42_code 10 = .ok (.lload_n 0, 1) := by decide +kernel
theorem d15_11 : decode jdk_35_method_42_code 11 = .ok (.lload_n 2, 1) := by decide +kernel
theorem d15_12 : decode jdk_35_method_42_code 12 = .ok (.lcmp, 1) := by decide +kernel
theorem d15_13 : decode jdk_35_method_42_code 13 = .ok (.ifCond .ne 7, 3) := by decide +kernel
theorem d15_16 : decode jdk_35_method_42_code 16 = .ok (.iconst 0, 1) := by decide +kernel
theorem d15_17 : decode jdk_35_method_42_code 17 = .ok (.goto 4, 3) := by decide +kernel
theorem d15_20 : decode jdk_35_method_42_code 20 = .ok (.iconst 1, 1) := by decide +kernel
theorem d15_21 : decode jdk_35_method_42_code 21 = .ok (.ireturn, 1) := by decide +kernel
theorem pn_15 : plainName "java/lang/Long" = true := by first | (simp [plainName, overriddenIn]; done) | decide +kernel
def QrmLc (Z : State) (p0 : Int64) (p1 : Int64) (h0 : Heap) (n0 : Nat) (v : Option Value) (h : Heap) (L : List Loc) : Prop := v = some (.int (own_lc p0 p1)) ∧ Fr n0 L ∧ h = h0
set_option maxRecDepth 65536 in
set_option maxHeartbeats 40000000 in
theorem rmLc (l : Launch) (Z : State) (a0 : Array Value) (hw : ∀ d ∈ tables_1, d.before a0 Z = true) (ws : List Jvm.Cond) (p0 : Int64) (p1 : Int64) (h0 : Heap) (n0 : Nat) (Z0 : n0 ≤ h0.size) :
    MetFree l (⟨"java/lang/Long", "compare", "(JJ)I"⟩ : MethodName) (head1 (Jvm.Cond.code (⟨"java/lang/Long", "compare", "(JJ)I"⟩ : MethodName) jdk_35_method_42_code 4 (some .int) :: ws) ({ frames := 0, cells := 0, slots := 0, locals := 0 } : Room)) (fun a U => a = #[(.long p0), (.long p1)] ∧ Z.Warmed39 U.vm ∧ U.heap = h0) (fun _ _ _ _ _ => True) (fun _ U o U' => ∃ v L, o = .returned v ∧ QrmLc Z p0 p1 h0 n0 v U'.heap L ∧ FrameEnd U o U' L ({ frames := 0, cells := 0, slots := 0, locals := 0 } : Room).cells ({ frames := 0, cells := 0, slots := 0, locals := 0 } : Room).slots) := by
  refine MetFree.of_bodySF (plainFor_of_name pn_15) hisR ?_
  intro p e s m args below meth c s₁ Bd hml0 hP hK
  obtain ⟨rfl, hZ, hh⟩ := hP
  have hx := Bd.exec
  have hby := Bd.bytes
  have hml : c.maxLocals = 4 := hml0
  have hown : s.vm.findClass "java/lang/Long" = some m.cls := findClass_of_methodNamed Bd.named
  have hnm := (name_of_methodNamed Bd.named Bd.method).1
  have X0 : Stand p l e ({ frames := 0, cells := 0, slots := 0, locals := 0 } : Room) s m #[(.long p0), (.long p1)] below meth c s₁ [] 0 0 := Stand.of_body Bd
  have e0 : s₁.heap = h0 := by rw [← hh, Bd.state]; rfl
  have N0 := Fr.nil n0
  have ZZ := Z0
  show Go p e below s (QrmLc Z p0 p1 h0 n0) 0 0 (s₁.setTop (entryFrame m #[(.long p0), (.long p1)] 4))
  generalize hQQ : (QrmLc Z p0 p1 h0 n0) = QQ
  refine gs (fun t k => castTop (g' := (mkF m 0 #[jv p0, .second, jv p1, .second] [])) (by first | (simp [entryFrame, mkF, argsToLocals, Value.category, maxLocals]; done) | rfl) k) ?_
  show Go p e below s QQ 0 0 (s₁.setTop (mkF m 0 #[jv p0, .second, jv p1, .second] []))
  refine gs (fun t => XS.lloadN X0.here hx rfl (hb hby d15_0) rfl) ?_
  refine gs (fun t => XS.lloadN X0.here hx rfl (hb hby d15_1) rfl) ?_
  refine gs (fun t => XS.lcmp X0.here hx rfl (hb hby d15_2) rfl) ?_
  by_cases hc : (lcmpW p0 p1) < (0 : Int32)
  · skip
    refine gs (fun t => XS.ifNo X0.here hx rfl (hb hby d15_3) rfl ((if0 _ _).trans (tlt hc).2.1)) ?_
    refine gs (fun t => XS.iconst X0.here hx rfl (hb hby d15_6)) ?_
    refine gs (fun t => XS.goto X0.here hx rfl (pc0 := 7) (pc' := 21) rfl (hb hby d15_7) (by decide) (by decide)) ?_
    show Go p e below s QQ 0 0 (s₁.setTop (mkF m 21 #[jv p0, .second, jv p1, .second] [(.int (-1 : Int32))]))
    exact goI X0 hx Bd.notSynchronized Bd.returns (hb hby d15_21) (by rw [← hQQ, e0]; exact ⟨by (rw [own_lc, if_pos ((lw_lt _ _).mp hc)]), N0, rfl⟩) (by decide) (by decide)
  · skip
    refine gs (fun t => XS.ifYes X0.here hx rfl (pc0 := 3) (pc' := 10) rfl (hb hby d15_3) rfl ((if0 _ _).trans (flt hc).2.1) (by decide) (by decide)) ?_
    refine gs (fun t => XS.lloadN X0.here hx rfl (hb hby d15_10) rfl) ?_
    refine gs (fun t => XS.lloadN X0.here hx rfl (hb hby d15_11) rfl) ?_
    show Go p e below s QQ 0 0 (s₁.setTop (mkF m 12 #[jv p0, .second, jv p1, .second] [(.long p1), (.long p0)]))
    refine gs (fun t => XS.lcmp X0.here hx rfl (hb hby d15_12) rfl) ?_
    by_cases hd : (lcmpW p0 p1) = (0 : Int32)
    · skip
      refine gs (fun t => XS.ifNo X0.here hx rfl (hb hby d15_13) rfl ((if0 _ _).trans (teq hd).2)) ?_
      refine gs (fun t => XS.iconst X0.here hx rfl (hb hby d15_16)) ?_
      refine gs (fun t => XS.goto X0.here hx rfl (pc0 := 17) (pc' := 21) rfl (hb hby d15_17) (by decide) (by decide)) ?_
      exact goI X0 hx Bd.notSynchronized Bd.returns (hb hby d15_21) (by rw [← hQQ, e0]; exact ⟨by (rw [own_lc, if_neg (fun q => hc ((lw_lt _ _).mpr q)), if_pos ((lw_eq _ _).mp hd)]; rfl), N0, rfl⟩) (by decide) (by decide)
    · skip
      refine gs (fun t => XS.ifYes X0.here hx rfl (pc0 := 13) (pc' := 20) rfl (hb hby d15_13) rfl ((if0 _ _).trans (feq hd).2) (by decide) (by decide)) ?_
      refine gs (fun t => XS.iconst X0.here hx rfl (hb hby d15_20)) ?_
      exact goI X0 hx Bd.notSynchronized Bd.returns (hb hby d15_21) (by rw [← hQQ, e0]; exact ⟨by (rw [own_lc, if_neg (fun q => hc ((lw_lt _ _).mpr q)), if_neg (fun q => hd ((lw_eq _ _).mpr q))]; rfl), N0, rfl⟩) (by decide) (by decide)
theorem d14_0 : decode prog_26_method_11_code 0 = .ok (.aload_n 0, 1) := by decide +kernel
theorem d14_1 : decode prog_26_method_11_code 1 = .ok (.getfield 18, 3) := by decide +kernel
theorem d14_4 : decode prog_26_method_11_code 4 = .ok (.iload_n 1, 1) := by decide +kernel
theorem d14_5 : decode prog_26_method_11_code 5 = .ok (.aload_n 0, 1) := by decide +kernel
theorem d14_6 : decode prog_26_method_11_code 6 = .ok (.getfield 22, 3) := by decide +kernel
theorem d14_9 : decode prog_26_method_11_code 9 = .ok (.invokevirtual 47, 3) := by decide +kernel
theorem d14_12 : decode prog_26_method_11_code 12 = .ok (.lload_n 2, 1) := by decide +kernel
theorem d14_13 : decode prog_26_method_11_code 13 = .ok (.invokestatic 95, 3) := by decide +kernel
theorem d14_16 : decode prog_26_method_11_code 16 = .ok (.istore 6, 2) := by decide +kernel
theorem d14_18 : decode prog_26_method_11_code 18 = .ok (.iload 6, 2) := by decide +kernel
theorem d14_20 : decode prog_26_method_11_code 20 = .ok (.ifCond .eq 8, 3) := by decide +kernel
theorem d14_23 : decode prog_26_method_11_code 23 = .ok (.iload 6, 2) := by decide +kernel
theorem d14_25 : decode prog_26_method_11_code 25 = .ok (.goto 17, 3) := by decide +kernel
theorem d14_28 : decode prog_26_method_11_code 28 = .ok (.aload_n 0, 1) := by decide +kernel
theorem d14_29 : decode prog_26_method_11_code 29 = .ok (.getfield 18, 3) := by decide +kernel
theorem d14_32 : decode prog_26_method_11_code 32 = .ok (.iload_n 1, 1) := by decide +kernel
theorem d14_33 : decode prog_26_method_11_code 33 = .ok (.iconst 0, 1) := by decide +kernel
theorem d14_34 : decode prog_26_method_11_code 34 = .ok (.invokevirtual 47, 3) := by decide +kernel
theorem d14_37 : decode prog_26_method_11_code 37 = .ok (.lload 4, 2) := by decide +kernel
theorem d14_39 : decode prog_26_method_11_code 39 = .ok (.invokestatic 95, 3) := by decide +kernel
theorem d14_42 : decode prog_26_method_11_code 42 = .ok (.ireturn, 1) := by decide +kernel
theorem pn_14 : plainName "com/example/interval/interval/service/SlotOrder" = true := by first | (simp [plainName, overriddenIn]; done) | decide +kernel
def QrmCm (Z : State) (r0 : Addr) (xr : Nat) (r : Nat) (tb : Addr) (pg : Addr) (pa : Addr) (fpg : Nat → Value) (fa : Nat → Value) (fl : Nat) (Vv : Nat → Int64) (Ss : Nat → Int64) (h0 : Heap) (n0 : Nat) (v : Option Value) (h : Heap) (L : List Loc) : Prop := ∃ cc : Int32, v = some (.int cc) ∧ Fr n0 L ∧ h = h0 ∧ (cc < 0 ↔ own_L Vv Ss xr r)
set_option maxRecDepth 65536 in
set_option maxHeartbeats 40000000 in
theorem rmCm (l : Launch) (Z : State) (a0 : Array Value) (hw : ∀ d ∈ tables_1, d.before a0 Z = true) (ws : List Jvm.Cond) (r0 : Addr) (xr : Nat) (r : Nat) (tb : Addr) (pg : Addr) (pa : Addr) (fpg : Nat → Value) (fa : Nat → Value) (fl : Nat) (Vv : Nat → Int64) (Ss : Nat → Int64) (h0 : Heap) (n0 : Nat) (Z0 : n0 ≤ h0.size) (F_table_r0 : Fld Z h0 r0 "com/example/interval/interval/service/SlotOrder" "table" "Lcom/example/interval/interval/service/SlotTable;" (.ref tb)) (F_field_r0 : Fld Z h0 r0 "com/example/interval/interval/service/SlotOrder" "field" "I" (.int (oI fl))) (E_tb : Exa Z h0 tb "com/example/interval/interval/service/SlotTable") (F_pages_tb : Fld Z h0 tb "com/example/interval/interval/service/SlotTable" "pages" "[[J" (.ref pg)) (V_pg : Arf Z h0 pg (.array .long) 1 fpg) (hpg : fpg 0 = .ref pa) (V_pa : Arf Z h0 pa .long 40 fa) (htab : own_tb fa fl Vv Ss) (hfl : fl < 5) (hxr : xr < 3) :
    MetFree l (⟨"com/example/interval/interval/service/SlotOrder", "compare", "(IJJ)I"⟩ : MethodName) (head1 (Jvm.Cond.code (⟨"com/example/interval/interval/service/SlotOrder", "compare", "(IJJ)I"⟩ : MethodName) prog_26_method_11_code 7 (some .int) :: ws) ({ frames := 2, cells := 0, slots := 0, locals := 27 } : Room)) (fun a U => a = #[(.ref r0), (.int (oI xr)), (.long (Vv r)), (.long (Ss r))] ∧ Z.Warmed39 U.vm ∧ U.heap = h0) (fun _ _ _ _ _ => True) (fun _ U o U' => ∃ v L, o = .returned v ∧ QrmCm Z r0 xr r tb pg pa fpg fa fl Vv Ss h0 n0 v U'.heap L ∧ FrameEnd U o U' L ({ frames := 2, cells := 0, slots := 0, locals := 27 } : Room).cells ({ frames := 2, cells := 0, slots := 0, locals := 27 } : Room).slots) := by
  refine MetFree.of_bodySF (plainFor_of_name pn_14) hisR ?_
  intro p e s m args below meth c s₁ Bd hml0 hP hK
  obtain ⟨rfl, hZ, hh⟩ := hP
  have hx := Bd.exec
  have hby := Bd.bytes
  have hml : c.maxLocals = 7 := hml0
  have hown : s.vm.findClass "com/example/interval/interval/service/SlotOrder" = some m.cls := findClass_of_methodNamed Bd.named
  have hnm := (name_of_methodNamed Bd.named Bd.method).1
  have X0 : Stand p l e ({ frames := 2, cells := 0, slots := 0, locals := 27 } : Room) s m #[(.ref r0), (.int (oI xr)), (.long (Vv r)), (.long (Ss r))] below meth c s₁ [] 0 0 := Stand.of_body Bd
  have e0 : s₁.heap = h0 := by rw [← hh, Bd.state]; rfl
  have N0 := Fr.nil n0
  have ZZ := Z0
  show Go p e below s (QrmCm Z r0 xr r tb pg pa fpg fa fl Vv Ss h0 n0) 0 0 (s₁.setTop (entryFrame m #[(.ref r0), (.int (oI xr)), (.long (Vv r)), (.long (Ss r))] 7))
  generalize hQQ : (QrmCm Z r0 xr r tb pg pa fpg fa fl Vv Ss h0 n0) = QQ
  refine gs (fun t k => castTop (g' := (mkF m 0 #[rv r0, iv (oI xr), jv (Vv r), .second, jv (Ss r), .second, .unset] [])) (by first | (simp [entryFrame, mkF, argsToLocals, Value.category, maxLocals]; done) | rfl) k) ?_
  show Go p e below s QQ 0 0 (s₁.setTop (mkF m 0 #[rv r0, iv (oI xr), jv (Vv r), .second, jv (Ss r), .second, .unset] []))
  refine gs (fun t => XS.aloadN X0.here hx rfl (hb hby d14_0) rfl rfl) ?_
  obtain ⟨T24, X24, e24, st24⟩ := getF X0 hx hZ hown (host := "") (Or.inl (hw _ (List.mem_of_getElem? (i := 44) rfl))) Via.refl e0 F_table_r0 (g := (mkF m 1 #[rv r0, iv (oI xr), jv (Vv r), .second, jv (Ss r), .second, .unset] [(.ref r0)])) rfl rfl (hb hby d14_1)
  refine gs st24 ?_
  show Go p e below s QQ 0 0 (T24.setTop (mkF m 4 #[rv r0, iv (oI xr), jv (Vv r), .second, jv (Ss r), .second, .unset] [(.ref tb)]))
  refine gs (fun t => XS.iloadN X24.here hx rfl (hb hby d14_4) rfl) ?_
  refine gs (fun t => XS.aloadN X24.here hx rfl (hb hby d14_5) rfl rfl) ?_
  obtain ⟨T25, X25, e25, st25⟩ := getF X24 hx hZ hown (host := "") (Or.inl (hw _ (List.mem_of_getElem? (i := 46) rfl))) Via.refl e24 F_field_r0 (g := (mkF m 6 #[rv r0, iv (oI xr), jv (Vv r), .second, jv (Ss r), .second, .unset] [(.ref r0), (.int (oI xr)), (.ref tb)])) rfl rfl (hb hby d14_6)
  refine gs st25 ?_
  show Go p e below s QQ 0 0 (T25.setTop (mkF m 9 #[rv r0, iv (oI xr), jv (Vv r), .second, jv (Ss r), .second, .unset] [(.int (oI fl)), (.int (oI xr)), (.ref tb)]))
  show Go p e below s QQ 0 0 (T25.setTop (mkF m 9 #[rv r0, iv (oI xr), jv (Vv r), .second, jv (Ss r), .second, .unset] [(.int (oI fl)), (.int (oI xr)), (.ref tb)]))
  obtain ⟨cq26, kq26, q26a, q26b, q26c⟩ := isOf hZ e25 E_tb
  obtain ⟨_, _, ⟨T26, L26, k26, n26⟩, -, X26, ⟨Lc26, hQ26, l26, y26, z26⟩, st26⟩ := X25.virtualBack hx (y := (⟨"com/example/interval/interval/service/SlotTable", "get", "(II)J"⟩ : MethodName)) (z := (⟨"com/example/interval/interval/service/SlotTable", "get", "(II)J"⟩ : MethodName)) hown (mvT hZ (hw _ (List.mem_of_getElem? (i := 65) rfl))) (mvT hZ (hw _ (List.mem_of_getElem? (i := 66) rfl))) (notFace_of_selects (args := #[]) (mvT hZ (hw _ (List.mem_of_getElem? (i := 68) rfl)))) (mvT hZ (hw _ (List.mem_of_getElem? (i := 68) rfl))) (mvT hZ (hw _ (List.mem_of_getElem? (i := 67) rfl))) (by decide) (backOf (W := 0) (rm10 l Z a0 hw [] tb xr fl pg pa fpg fa (Vv xr) h0 n0 ZZ F_pages_tb V_pg hpg V_pa (by omega) (by omega) (htab xr hxr).1) hZ (hw _ (List.mem_of_getElem? (i := 69) rfl)) (hw _ (List.mem_of_getElem? (i := 3) rfl)) (by decide) (by decide)) q26a q26c (g := (mkF m 9 #[rv r0, iv (oI xr), jv (Vv r), .second, jv (Ss r), .second, .unset] [(.int (oI fl)), (.int (oI xr)), (.ref tb)])) rfl (by rw [hml]; rfl) (Steps.refl _) (argsL := [(.int (oI xr)), (.int (oI fl))]) (rest := []) (lenOf pd_2 rfl) rfl (by show 2 * 0 + _ ≤ _; exact Nat.le_of_eq rfl) (hb hby d14_9) (fun _ _ => ⟨rfl, e25, (by decide : 0 + 0 ≤ _), (by decide : 0 + 0 ≤ _)⟩)
  dsimp only [Pt.U, Pt.locs, Pt.cells, Pt.slots] at X26 l26 y26 z26 st26 hQ26
  subst l26 y26 z26
  obtain ⟨rfl, N26q, e26⟩ := hQ26
  replace N0 := Fr.app N0 N26q
  refine gt st26 ?_
  show Go p e below s QQ 0 0 (T26.setTop (mkF m 12 #[rv r0, iv (oI xr), jv (Vv r), .second, jv (Ss r), .second, .unset] [(.long (Vv xr))]))
  refine gs (fun t => XS.lloadN X26.here hx rfl (hb hby d14_12) rfl) ?_
  obtain ⟨_, _, ⟨T27, L27, k27, n27⟩, -, X27, ⟨Lc27, hQ27, l27, y27, z27⟩, st27⟩ := Jvm.LawKit.callS X26 hx (y := (⟨"java/lang/Long", "compare", "(JJ)I"⟩ : MethodName)) hown (mvT hZ (hw _ (List.mem_of_getElem? (i := 93) rfl))) (mvT hZ (hw _ (List.mem_of_getElem? (i := 94) rfl))) (mvT hZ (hw _ (List.mem_of_getElem? (i := 95) rfl))) (mvT hZ (hw _ (List.mem_of_getElem? (i := 96) rfl))) (by decide) (backOf (W := 0) (rmLc l Z a0 hw [] (Vv xr) (Vv r) h0 n0 ZZ ) hZ (hw _ (List.mem_of_getElem? (i := 96) rfl)) (hw _ (List.mem_of_getElem? (i := 95) rfl)) (by decide) (by decide)) (g := (mkF m 13 #[rv r0, iv (oI xr), jv (Vv r), .second, jv (Ss r), .second, .unset] [(.long (Vv r)), (.long (Vv xr))])) rfl (by rw [hml]; rfl) (argsL := [(.long (Vv xr)), (.long (Vv r))]) (rest := []) (lenOf pd_3 rfl) rfl (by show 2 * 0 + _ ≤ _; exact Nat.le_of_eq rfl) (hb hby d14_13) (fun _ _ => ⟨rfl, e26, (by decide : 0 + 0 ≤ _), (by decide : 0 + 0 ≤ _)⟩)
  dsimp only [Pt.U, Pt.locs, Pt.cells, Pt.slots] at X27 l27 y27 z27 st27 hQ27
  subst l27 y27 z27
  obtain ⟨rfl, N27q, e27⟩ := hQ27
  replace N0 := Fr.app N0 N27q
  refine gs st27 ?_
  show Go p e below s QQ 0 0 (T27.setTop (mkF m 16 #[rv r0, iv (oI xr), jv (Vv r), .second, jv (Ss r), .second, .unset] [(.int (own_lc (Vv xr) (Vv r)))]))
  refine gs (fun t => XS.istore X27.here hx rfl (hb hby d14_16) rfl (l' := #[rv r0, iv (oI xr), jv (Vv r), .second, jv (Ss r), .second, iv (own_lc (Vv xr) (Vv r))]) rfl) ?_
  refine gs (fun t => XS.iload X27.here hx rfl (hb hby d14_18) rfl) ?_
  by_cases hc : (own_lc (Vv xr) (Vv r)) = (0 : Int32)
  · skip
    refine gs (fun t => XS.ifYes X27.here hx rfl (pc0 := 20) (pc' := 28) rfl (hb hby d14_20) rfl ((if0 _ _).trans (teq hc).1) (by decide) (by decide)) ?_
    refine gs (fun t => XS.aloadN X27.here hx rfl (hb hby d14_28) rfl rfl) ?_
    obtain ⟨T28, X28, e28, st28⟩ := getF X27 hx hZ hown (host := "") (Or.inl (hw _ (List.mem_of_getElem? (i := 44) rfl))) Via.refl e27 F_table_r0 (g := (mkF m 29 #[rv r0, iv (oI xr), jv (Vv r), .second, jv (Ss r), .second, iv (own_lc (Vv xr) (Vv r))] [(.ref r0)])) rfl rfl (hb hby d14_29)
    refine gs st28 ?_
    show Go p e below s QQ 0 0 (T28.setTop (mkF m 32 #[rv r0, iv (oI xr), jv (Vv r), .second, jv (Ss r), .second, iv (own_lc (Vv xr) (Vv r))] [(.ref tb)]))
    refine gs (fun t => XS.iloadN X28.here hx rfl (hb hby d14_32) rfl) ?_
    refine gs (fun t => XS.iconst X28.here hx rfl (hb hby d14_33)) ?_
    show Go p e below s QQ 0 0 (T28.setTop (mkF m 34 #[rv r0, iv (oI xr), jv (Vv r), .second, jv (Ss r), .second, iv (own_lc (Vv xr) (Vv r))] [(.int (oI 0)), (.int (oI xr)), (.ref tb)]))
    obtain ⟨cq29, kq29, q29a, q29b, q29c⟩ := isOf hZ e28 E_tb
    obtain ⟨_, _, ⟨T29, L29, k29, n29⟩, -, X29, ⟨Lc29, hQ29, l29, y29, z29⟩, st29⟩ := X28.virtualBack hx (y := (⟨"com/example/interval/interval/service/SlotTable", "get", "(II)J"⟩ : MethodName)) (z := (⟨"com/example/interval/interval/service/SlotTable", "get", "(II)J"⟩ : MethodName)) hown (mvT hZ (hw _ (List.mem_of_getElem? (i := 65) rfl))) (mvT hZ (hw _ (List.mem_of_getElem? (i := 66) rfl))) (notFace_of_selects (args := #[]) (mvT hZ (hw _ (List.mem_of_getElem? (i := 68) rfl)))) (mvT hZ (hw _ (List.mem_of_getElem? (i := 68) rfl))) (mvT hZ (hw _ (List.mem_of_getElem? (i := 67) rfl))) (by decide) (backOf (W := 0) (rm10 l Z a0 hw [] tb xr 0 pg pa fpg fa (Ss xr) h0 n0 ZZ F_pages_tb V_pg hpg V_pa (by omega) (by omega) (htab xr hxr).2) hZ (hw _ (List.mem_of_getElem? (i := 69) rfl)) (hw _ (List.mem_of_getElem? (i := 3) rfl)) (by decide) (by decide)) q29a q29c (g := (mkF m 34 #[rv r0, iv (oI xr), jv (Vv r), .second, jv (Ss r), .second, iv (own_lc (Vv xr) (Vv r))] [(.int (oI 0)), (.int (oI xr)), (.ref tb)])) rfl (by rw [hml]; rfl) (Steps.refl _) (argsL := [(.int (oI xr)), (.int (oI 0))]) (rest := []) (lenOf pd_2 rfl) rfl (by show 2 * 0 + _ ≤ _; exact Nat.le_of_eq rfl) (hb hby d14_34) (fun _ _ => ⟨rfl, e28, (by decide : 0 + 0 ≤ _), (by decide : 0 + 0 ≤ _)⟩)
    dsimp only [Pt.U, Pt.locs, Pt.cells, Pt.slots] at X29 l29 y29 z29 st29 hQ29
    subst l29 y29 z29
    obtain ⟨rfl, N29q, e29⟩ := hQ29
    replace N0 := Fr.app N0 N29q
    refine gt st29 ?_
    show Go p e below s QQ 0 0 (T29.setTop (mkF m 37 #[rv r0, iv (oI xr), jv (Vv r), .second, jv (Ss r), .second, iv (own_lc (Vv xr) (Vv r))] [(.long (Ss xr))]))
    refine gs (fun t => XS.lload X29.here hx rfl (hb hby d14_37) rfl) ?_
    obtain ⟨_, _, ⟨T30, L30, k30, n30⟩, -, X30, ⟨Lc30, hQ30, l30, y30, z30⟩, st30⟩ := Jvm.LawKit.callS X29 hx (y := (⟨"java/lang/Long", "compare", "(JJ)I"⟩ : MethodName)) hown (mvT hZ (hw _ (List.mem_of_getElem? (i := 93) rfl))) (mvT hZ (hw _ (List.mem_of_getElem? (i := 94) rfl))) (mvT hZ (hw _ (List.mem_of_getElem? (i := 95) rfl))) (mvT hZ (hw _ (List.mem_of_getElem? (i := 96) rfl))) (by decide) (backOf (W := 0) (rmLc l Z a0 hw [] (Ss xr) (Ss r) h0 n0 ZZ ) hZ (hw _ (List.mem_of_getElem? (i := 96) rfl)) (hw _ (List.mem_of_getElem? (i := 95) rfl)) (by decide) (by decide)) (g := (mkF m 39 #[rv r0, iv (oI xr), jv (Vv r), .second, jv (Ss r), .second, iv (own_lc (Vv xr) (Vv r))] [(.long (Ss r)), (.long (Ss xr))])) rfl (by rw [hml]; rfl) (argsL := [(.long (Ss xr)), (.long (Ss r))]) (rest := []) (lenOf pd_3 rfl) rfl (by show 2 * 0 + _ ≤ _; exact Nat.le_of_eq rfl) (hb hby d14_39) (fun _ _ => ⟨rfl, e29, (by decide : 0 + 0 ≤ _), (by decide : 0 + 0 ≤ _)⟩)
    dsimp only [Pt.U, Pt.locs, Pt.cells, Pt.slots] at X30 l30 y30 z30 st30 hQ30
    subst l30 y30 z30
    obtain ⟨rfl, N30q, e30⟩ := hQ30
    replace N0 := Fr.app N0 N30q
    refine gs st30 ?_
    show Go p e below s QQ 0 0 (T30.setTop (mkF m 42 #[rv r0, iv (oI xr), jv (Vv r), .second, jv (Ss r), .second, iv (own_lc (Vv xr) (Vv r))] [(.int (own_lc (Ss xr) (Ss r)))]))
    exact goI X30 hx Bd.notSynchronized Bd.returns (hb hby d14_42) (by rw [← hQQ, e30]; exact ⟨_, rfl, N0, rfl, own_c1 hc⟩) (by decide) (by decide)
  · skip
    refine gs (fun t => XS.ifNo X27.here hx rfl (hb hby d14_20) rfl ((if0 _ _).trans (feq hc).1)) ?_
    refine gs (fun t => XS.iload X27.here hx rfl (hb hby d14_23) rfl) ?_
    refine gs (fun t => XS.goto X27.here hx rfl (pc0 := 25) (pc' := 42) rfl (hb hby d14_25) (by decide) (by decide)) ?_
    exact goI X27 hx Bd.notSynchronized Bd.returns (hb hby d14_42) (by rw [← hQQ, e27]; exact ⟨_, rfl, N0, rfl, own_c2 hc⟩) (by decide) (by decide)
theorem d12_0 : decode prog_26_method_12_code 0 = .ok (.iconst 0, 1) := by decide +kernel
theorem d12_1 : decode prog_26_method_12_code 1 = .ok (.istore 5, 2) := by decide +kernel
theorem d12_3 : decode prog_26_method_12_code 3 = .ok (.aload_n 0, 1) := by decide +kernel
theorem d12_4 : decode prog_26_method_12_code 4 = .ok (.getfield 44, 3) := by decide +kernel
theorem d12_7 : decode prog_26_method_12_code 7 = .ok (.iconst 1, 1) := by decide +kernel
theorem d12_8 : decode prog_26_method_12_code 8 = .ok (.isub, 1) := by decide +kernel
theorem d12_9 : decode prog_26_method_12_code 9 = .ok (.istore 6, 2) := by decide +kernel
theorem d12_11 : decode prog_26_method_12_code 11 = .ok (.iload 5, 2) := by decide +kernel
theorem d12_13 : decode prog_26_method_12_code 13 = .ok (.iload 6, 2) := by decide +kernel
theorem d12_15 : decode prog_26_method_12_code 15 = .ok (.if_icmp .ge 48, 3) := by decide +kernel
theorem d12_18 : decode prog_26_method_12_code 18 = .ok (.iload 5, 2) := by decide +kernel
theorem d12_20 : decode prog_26_method_12_code 20 = .ok (.iload 6, 2) := by decide +kernel
theorem d12_22 : decode prog_26_method_12_code 22 = .ok (.iadd, 1) := by decide +kernel
theorem d12_23 : decode prog_26_method_12_code 23 = .ok (.iconst 1, 1) := by decide +kernel
theorem d12_24 : decode prog_26_method_12_code 24 = .ok (.iadd, 1) := by decide +kernel
theorem d12_25 : decode prog_26_method_12_code 25 = .ok (.iconst 1, 1) := by decide +kernel
theorem d12_26 : decode prog_26_method_12_code 26 = .ok (.iushr, 1) := by decide +kernel
theorem d12_27 : decode prog_26_method_12_code 27 = .ok (.istore 7, 2) := by decide +kernel
theorem d12_29 : decode prog_26_method_12_code 29 = .ok (.aload_n 0, 1) := by decide +kernel
theorem d12_30 : decode prog_26_method_12_code 30 = .ok (.aload_n 0, 1) := by decide +kernel
theorem d12_31 : decode prog_26_method_12_code 31 = .ok (.getfield 11, 3) := by decide +kernel
theorem d12_34 : decode prog_26_method_12_code 34 = .ok (.iload 7, 2) := by decide +kernel
theorem d12_36 : decode prog_26_method_12_code 36 = .ok (.aaload, 1) := by decide +kernel
theorem d12_37 : decode prog_26_method_12_code 37 = .ok (.iconst 0, 1) := by decide +kernel
theorem d12_38 : decode prog_26_method_12_code 38 = .ok (.iaload, 1) := by decide +kernel
theorem d12_39 : decode prog_26_method_12_code 39 = .ok (.lload_n 1, 1) := by decide +kernel
theorem d12_40 : decode prog_26_method_12_code 40 = .ok (.lload_n 3, 1) := by decide +kernel
theorem d12_41 : decode prog_26_method_12_code 41 = .ok (.invokevirtual 37, 3) := by decide +kernel
theorem d12_44 : decode prog_26_method_12_code 44 = .ok (.ifCond .gt 10, 3) := by decide +kernel
theorem d12_47 : decode prog_26_method_12_code 47 = .ok (.iload 7, 2) := by decide +kernel
theorem d12_49 : decode prog_26_method_12_code 49 = .ok (.istore 5, 2) := by decide +kernel
theorem d12_51 : decode prog_26_method_12_code 51 = .ok (.goto 9, 3) := by decide +kernel
theorem d12_54 : decode prog_26_method_12_code 54 = .ok (.iload 7, 2) := by decide +kernel
theorem d12_56 : decode prog_26_method_12_code 56 = .ok (.iconst 1, 1) := by decide +kernel
theorem d12_57 : decode prog_26_method_12_code 57 = .ok (.isub, 1) := by decide +kernel
theorem d12_58 : decode prog_26_method_12_code 58 = .ok (.istore 6, 2) := by decide +kernel
theorem d12_60 : decode prog_26_method_12_code 60 = .ok (.goto (-49), 3) := by decide +kernel
theorem d12_63 : decode prog_26_method_12_code 63 = .ok (.iload 5, 2) := by decide +kernel
theorem d12_65 : decode prog_26_method_12_code 65 = .ok (.ireturn, 1) := by decide +kernel
theorem pn_12 : plainName "com/example/interval/interval/service/SlotOrder" = true := by first | (simp [plainName, overriddenIn]; done) | decide +kernel
def QrmRo (Z : State) (r0 : Addr) (k1 : Int64) (k2 : Int64) (h0 : Heap) (n0 : Nat) (v : Option Value) (h : Heap) (L : List Loc) : Prop := v = some (.int 0) ∧ Fr n0 L ∧ h = h0
set_option maxRecDepth 65536 in
set_option maxHeartbeats 40000000 in
theorem rmRo (l : Launch) (Z : State) (a0 : Array Value) (hw : ∀ d ∈ tables_1, d.before a0 Z = true) (ws : List Jvm.Cond) (r0 : Addr) (k1 : Int64) (k2 : Int64) (h0 : Heap) (n0 : Nat) (Z0 : n0 ≤ h0.size) (F_runCount_r0 : Fld Z h0 r0 "com/example/interval/interval/service/SlotOrder" "runCount" "I" (.int (1 : Int32))) :
    MetFree l (⟨"com/example/interval/interval/service/SlotOrder", "runOf", "(JJ)I"⟩ : MethodName) (head1 (Jvm.Cond.code (⟨"com/example/interval/interval/service/SlotOrder", "runOf", "(JJ)I"⟩ : MethodName) prog_26_method_12_code 8 (some .int) :: ws) ({ frames := 0, cells := 0, slots := 0, locals := 0 } : Room)) (fun a U => a = #[(.ref r0), (.long k1), (.long k2)] ∧ Z.Warmed39 U.vm ∧ U.heap = h0) (fun _ _ _ _ _ => True) (fun _ U o U' => ∃ v L, o = .returned v ∧ QrmRo Z r0 k1 k2 h0 n0 v U'.heap L ∧ FrameEnd U o U' L ({ frames := 0, cells := 0, slots := 0, locals := 0 } : Room).cells ({ frames := 0, cells := 0, slots := 0, locals := 0 } : Room).slots) := by
  refine MetFree.of_bodySF (plainFor_of_name pn_12) hisR ?_
  intro p e s m args below meth c s₁ Bd hml0 hP hK
  obtain ⟨rfl, hZ, hh⟩ := hP
  have hx := Bd.exec
  have hby := Bd.bytes
  have hml : c.maxLocals = 8 := hml0
  have hown : s.vm.findClass "com/example/interval/interval/service/SlotOrder" = some m.cls := findClass_of_methodNamed Bd.named
  have hnm := (name_of_methodNamed Bd.named Bd.method).1
  have X0 : Stand p l e ({ frames := 0, cells := 0, slots := 0, locals := 0 } : Room) s m #[(.ref r0), (.long k1), (.long k2)] below meth c s₁ [] 0 0 := Stand.of_body Bd
  have e0 : s₁.heap = h0 := by rw [← hh, Bd.state]; rfl
  have N0 := Fr.nil n0
  have ZZ := Z0
  show Go p e below s (QrmRo Z r0 k1 k2 h0 n0) 0 0 (s₁.setTop (entryFrame m #[(.ref r0), (.long k1), (.long k2)] 8))
  generalize hQQ : (QrmRo Z r0 k1 k2 h0 n0) = QQ
  refine gs (fun t k => castTop (g' := (mkF m 0 #[rv r0, jv k1, .second, jv k2, .second, .unset, .unset, .unset] [])) (by first | (simp [entryFrame, mkF, argsToLocals, Value.category, maxLocals]; done) | rfl) k) ?_
  show Go p e below s QQ 0 0 (s₁.setTop (mkF m 0 #[rv r0, jv k1, .second, jv k2, .second, .unset, .unset, .unset] []))
  refine gs (fun t => XS.iconst X0.here hx rfl (hb hby d12_0)) ?_
  refine gs (fun t => XS.istore X0.here hx rfl (hb hby d12_1) rfl (l' := #[rv r0, jv k1, .second, jv k2, .second, iv 0, .unset, .unset]) rfl) ?_
  refine gs (fun t => XS.aloadN X0.here hx rfl (hb hby d12_3) rfl rfl) ?_
  obtain ⟨T31, X31, e31, st31⟩ := getF X0 hx hZ hown (host := "") (Or.inl (hw _ (List.mem_of_getElem? (i := 70) rfl))) Via.refl e0 F_runCount_r0 (g := (mkF m 4 #[rv r0, jv k1, .second, jv k2, .second, iv 0, .unset, .unset] [(.ref r0)])) rfl rfl (hb hby d12_4)
  refine gs st31 ?_
  show Go p e below s QQ 0 0 (T31.setTop (mkF m 7 #[rv r0, jv k1, .second, jv k2, .second, iv 0, .unset, .unset] [(.int (1 : Int32))]))
  refine gs (fun t => XS.iconst X31.here hx rfl (hb hby d12_7)) ?_
  refine gs (fun t => XS.isub X31.here hx rfl (hb hby d12_8) rfl) ?_
  refine gs (fun t => XS.istore X31.here hx rfl (hb hby d12_9) rfl (l' := #[rv r0, jv k1, .second, jv k2, .second, iv 0, iv 0, .unset]) rfl) ?_
  refine gs (fun t => XS.iload X31.here hx rfl (hb hby d12_11) rfl) ?_
  refine gs (fun t => XS.iload X31.here hx rfl (hb hby d12_13) rfl) ?_
  refine gs (fun t => XS.icmpYes X31.here hx rfl (pc0 := 15) (pc' := 63) rfl (hb hby d12_15) rfl (flt (by decide : ¬ ((0 : Int32) < (0 : Int32)))).2.1 (by decide) (by decide)) ?_
  show Go p e below s QQ 0 0 (T31.setTop (mkF m 63 #[rv r0, jv k1, .second, jv k2, .second, iv 0, iv 0, .unset] []))
  refine gs (fun t => XS.iload X31.here hx rfl (hb hby d12_63) rfl) ?_
  exact goI X31 hx Bd.notSynchronized Bd.returns (hb hby d12_65) (by rw [← hQQ, e31]; exact ⟨rfl, N0, rfl⟩) (by decide) (by decide)
theorem d13_0 : decode prog_26_method_13_code 0 = .ok (.aload_n 0, 1) := by decide +kernel
theorem d13_1 : decode prog_26_method_13_code 1 = .ok (.getfield 11, 3) := by decide +kernel
theorem d13_4 : decode prog_26_method_13_code 4 = .ok (.iload_n 1, 1) := by decide +kernel
theorem d13_5 : decode prog_26_method_13_code 5 = .ok (.aaload, 1) := by decide +kernel
theorem d13_6 : decode prog_26_method_13_code 6 = .ok (.astore 6, 2) := by decide +kernel
theorem d13_8 : decode prog_26_method_13_code 8 = .ok (.iconst 0, 1) := by decide +kernel
theorem d13_9 : decode prog_26_method_13_code 9 = .ok (.istore 7, 2) := by decide +kernel
theorem d13_11 : decode prog_26_method_13_code 11 = .ok (.aload_n 0, 1) := by decide +kernel
theorem d13_12 : decode prog_26_method_13_code 12 = .ok (.getfield 15, 3) := by decide +kernel
theorem d13_15 : decode prog_26_method_13_code 15 = .ok (.iload_n 1, 1) := by decide +kernel
theorem d13_16 : decode prog_26_method_13_code 16 = .ok (.iaload, 1) := by decide +kernel
theorem d13_17 : decode prog_26_method_13_code 17 = .ok (.istore 8, 2) := by decide +kernel
theorem d13_19 : decode prog_26_method_13_code 19 = .ok (.iload 7, 2) := by decide +kernel
theorem d13_21 : decode prog_26_method_13_code 21 = .ok (.iload 8, 2) := by decide +kernel
theorem d13_23 : decode prog_26_method_13_code 23 = .ok (.if_icmp .ge 43, 3) := by decide +kernel
theorem d13_26 : decode prog_26_method_13_code 26 = .ok (.iload 7, 2) := by decide +kernel
theorem d13_28 : decode prog_26_method_13_code 28 = .ok (.iload 8, 2) := by decide +kernel
theorem d13_30 : decode prog_26_method_13_code 30 = .ok (.iadd, 1) := by decide +kernel
theorem d13_31 : decode prog_26_method_13_code 31 = .ok (.iconst 1, 1) := by decide +kernel
theorem d13_32 : decode prog_26_method_13_code 32 = .ok (.iushr, 1) := by decide +kernel
theorem d13_33 : decode prog_26_method_13_code 33 = .ok (.istore 9, 2) := by decide +kernel
theorem d13_35 : decode prog_26_method_13_code 35 = .ok (.aload_n 0, 1) := by decide +kernel
theorem d13_36 : decode prog_26_method_13_code 36 = .ok (.aload 6, 2) := by decide +kernel
theorem d13_38 : decode prog_26_method_13_code 38 = .ok (.iload 9, 2) := by decide +kernel
theorem d13_40 : decode prog_26_method_13_code 40 = .ok (.iaload, 1) := by decide +kernel
theorem d13_41 : decode prog_26_method_13_code 41 = .ok (.lload_n 2, 1) := by decide +kernel
theorem d13_42 : decode prog_26_method_13_code 42 = .ok (.lload 4, 2) := by decide +kernel
theorem d13_44 : decode prog_26_method_13_code 44 = .ok (.invokevirtual 37, 3) := by decide +kernel
theorem d13_47 : decode prog_26_method_13_code 47 = .ok (.ifCond .ge 12, 3) := by decide +kernel
theorem d13_50 : decode prog_26_method_13_code 50 = .ok (.iload 9, 2) := by decide +kernel
theorem d13_52 : decode prog_26_method_13_code 52 = .ok (.iconst 1, 1) := by decide +kernel
theorem d13_53 : decode prog_26_method_13_code 53 = .ok (.iadd, 1) := by decide +kernel
theorem d13_54 : decode prog_26_method_13_code 54 = .ok (.istore 7, 2) := by decide +kernel
theorem d13_56 : decode prog_26_method_13_code 56 = .ok (.goto 7, 3) := by decide +kernel
theorem d13_59 : decode prog_26_method_13_code 59 = .ok (.iload 9, 2) := by decide +kernel
theorem d13_61 : decode prog_26_method_13_code 61 = .ok (.istore 8, 2) := by decide +kernel
theorem d13_63 : decode prog_26_method_13_code 63 = .ok (.goto (-44), 3) := by decide +kernel
theorem d13_66 : decode prog_26_method_13_code 66 = .ok (.iload 7, 2) := by decide +kernel
theorem d13_68 : decode prog_26_method_13_code 68 = .ok (.ireturn, 1) := by decide +kernel
theorem pn_13 : plainName "com/example/interval/interval/service/SlotOrder" = true := by first | (simp [plainName, overriddenIn]; done) | decide +kernel
def QrmIx (Z : State) (r0 : Addr) (r : Nat) (ra : Addr) (sz : Addr) (rn : Addr) (kn : Nat) (xs : Nat → Nat) (tb : Addr) (pg : Addr) (pa : Addr) (fpg : Nat → Value) (fa : Nat → Value) (fl : Nat) (Vv : Nat → Int64) (Ss : Nat → Int64) (h0 : Heap) (n0 : Nat) (v : Option Value) (h : Heap) (L : List Loc) : Prop := ∃ j : Nat, v = some (.int (oI j)) ∧ Fr n0 L ∧ h = h0 ∧ own_at Vv Ss xs kn r j
set_option maxRecDepth 65536 in
set_option maxHeartbeats 40000000 in
theorem rmIx (l : Launch) (Z : State) (a0 : Array Value) (hw : ∀ d ∈ tables_1, d.before a0 Z = true) (ws : List Jvm.Cond) (r0 : Addr) (r : Nat) (ra : Addr) (sz : Addr) (rn : Addr) (kn : Nat) (xs : Nat → Nat) (tb : Addr) (pg : Addr) (pa : Addr) (fpg : Nat → Value) (fa : Nat → Value) (fl : Nat) (Vv : Nat → Int64) (Ss : Nat → Int64) (h0 : Heap) (n0 : Nat) (Z0 : n0 ≤ h0.size) (F_runs_r0 : Fld Z h0 r0 "com/example/interval/interval/service/SlotOrder" "runs" "[[I" (.ref ra)) (F_sizes_r0 : Fld Z h0 r0 "com/example/interval/interval/service/SlotOrder" "sizes" "[I" (.ref sz)) (F_table_r0 : Fld Z h0 r0 "com/example/interval/interval/service/SlotOrder" "table" "Lcom/example/interval/interval/service/SlotTable;" (.ref tb)) (F_field_r0 : Fld Z h0 r0 "com/example/interval/interval/service/SlotOrder" "field" "I" (.int (oI fl))) (E_r0 : Exa Z h0 r0 "com/example/interval/interval/service/SlotOrder") (V_ra : Arf Z h0 ra (.array .int) 1 (fun _ => .ref rn)) (V_sz : Arf Z h0 sz .int 1 (fun _ => .int (oI kn))) (V_rn : Arf Z h0 rn .int 8 (fun i => .int (oI (xs i)))) (E_tb : Exa Z h0 tb "com/example/interval/interval/service/SlotTable") (F_pages_tb : Fld Z h0 tb "com/example/interval/interval/service/SlotTable" "pages" "[[J" (.ref pg)) (V_pg : Arf Z h0 pg (.array .long) 1 fpg) (hpg : fpg 0 = .ref pa) (V_pa : Arf Z h0 pa .long 40 fa) (htab : own_tb fa fl Vv Ss) (hfl : fl < 5) (hkn : kn ≤ 3) (hxs : ∀ i, i < kn → xs i < 3) (hmono : ∀ i i', i < i' → i' < kn → own_L Vv Ss (xs i') r → own_L Vv Ss (xs i) r) :
    MetFree l (⟨"com/example/interval/interval/service/SlotOrder", "indexIn", "(IJJ)I"⟩ : MethodName) (head1 (Jvm.Cond.code (⟨"com/example/interval/interval/service/SlotOrder", "indexIn", "(IJJ)I"⟩ : MethodName) prog_26_method_13_code 10 (some .int) :: ws) ({ frames := 3, cells := 0, slots := 0, locals := 45 } : Room)) (fun a U => a = #[(.ref r0), (.int (0 : Int32)), (.long (Vv r)), (.long (Ss r))] ∧ Z.Warmed39 U.vm ∧ U.heap = h0) (fun _ _ _ _ _ => True) (fun _ U o U' => ∃ v L, o = .returned v ∧ QrmIx Z r0 r ra sz rn kn xs tb pg pa fpg fa fl Vv Ss h0 n0 v U'.heap L ∧ FrameEnd U o U' L ({ frames := 3, cells := 0, slots := 0, locals := 45 } : Room).cells ({ frames := 3, cells := 0, slots := 0, locals := 45 } : Room).slots) := by
  refine MetFree.of_bodySF (plainFor_of_name pn_13) hisR ?_
  intro p e s m args below meth c s₁ Bd hml0 hP hK
  obtain ⟨rfl, hZ, hh⟩ := hP
  have hx := Bd.exec
  have hby := Bd.bytes
  have hml : c.maxLocals = 10 := hml0
  have hown : s.vm.findClass "com/example/interval/interval/service/SlotOrder" = some m.cls := findClass_of_methodNamed Bd.named
  have hnm := (name_of_methodNamed Bd.named Bd.method).1
  have X0 : Stand p l e ({ frames := 3, cells := 0, slots := 0, locals := 45 } : Room) s m #[(.ref r0), (.int (0 : Int32)), (.long (Vv r)), (.long (Ss r))] below meth c s₁ [] 0 0 := Stand.of_body Bd
  have e0 : s₁.heap = h0 := by rw [← hh, Bd.state]; rfl
  have N0 := Fr.nil n0
  have ZZ := Z0
  show Go p e below s (QrmIx Z r0 r ra sz rn kn xs tb pg pa fpg fa fl Vv Ss h0 n0) 0 0 (s₁.setTop (entryFrame m #[(.ref r0), (.int (0 : Int32)), (.long (Vv r)), (.long (Ss r))] 10))
  generalize hQQ : (QrmIx Z r0 r ra sz rn kn xs tb pg pa fpg fa fl Vv Ss h0 n0) = QQ
  refine gs (fun t k => castTop (g' := (mkF m 0 #[rv r0, iv 0, jv (Vv r), .second, jv (Ss r), .second, .unset, .unset, .unset, .unset] [])) (by first | (simp [entryFrame, mkF, argsToLocals, Value.category, maxLocals]; done) | rfl) k) ?_
  show Go p e below s QQ 0 0 (s₁.setTop (mkF m 0 #[rv r0, iv 0, jv (Vv r), .second, jv (Ss r), .second, .unset, .unset, .unset, .unset] []))
  refine gs (fun t => XS.aloadN X0.here hx rfl (hb hby d13_0) rfl rfl) ?_
  obtain ⟨T32, X32, e32, st32⟩ := getF X0 hx hZ hown (host := "") (Or.inl (hw _ (List.mem_of_getElem? (i := 40) rfl))) Via.refl e0 F_runs_r0 (g := (mkF m 1 #[rv r0, iv 0, jv (Vv r), .second, jv (Ss r), .second, .unset, .unset, .unset, .unset] [(.ref r0)])) rfl rfl (hb hby d13_1)
  refine gs st32 ?_
  show Go p e below s QQ 0 0 (T32.setTop (mkF m 4 #[rv r0, iv 0, jv (Vv r), .second, jv (Ss r), .second, .unset, .unset, .unset, .unset] [(.ref ra)]))
  refine gs (fun t => XS.iloadN X32.here hx rfl (hb hby d13_4) rfl) ?_
  refine gs (fun t => ldRf X32 hx hZ e32 V_ra rfl (j := (0 : Int32)) (v := (.ref rn)) (by decide) rfl (g := (mkF m 5 #[rv r0, iv 0, jv (Vv r), .second, jv (Ss r), .second, .unset, .unset, .unset, .unset] [(.int (0 : Int32)), (.ref ra)])) rfl rfl (hb hby d13_5) t) ?_
  refine gs (fun t => XS.astore X32.here hx rfl (hb hby d13_6) rfl rfl (l' := #[rv r0, iv 0, jv (Vv r), .second, jv (Ss r), .second, rv rn, .unset, .unset, .unset]) rfl) ?_
  refine gs (fun t => XS.iconst X32.here hx rfl (hb hby d13_8)) ?_
  refine gs (fun t => XS.istore X32.here hx rfl (hb hby d13_9) rfl (l' := #[rv r0, iv 0, jv (Vv r), .second, jv (Ss r), .second, rv rn, iv 0, .unset, .unset]) rfl) ?_
  refine gs (fun t => XS.aloadN X32.here hx rfl (hb hby d13_11) rfl rfl) ?_
  show Go p e below s QQ 0 0 (T32.setTop (mkF m 12 #[rv r0, iv 0, jv (Vv r), .second, jv (Ss r), .second, rv rn, iv 0, .unset, .unset] [(.ref r0)]))
  obtain ⟨T33, X33, e33, st33⟩ := getF X32 hx hZ hown (host := "") (Or.inl (hw _ (List.mem_of_getElem? (i := 42) rfl))) Via.refl e32 F_sizes_r0 (g := (mkF m 12 #[rv r0, iv 0, jv (Vv r), .second, jv (Ss r), .second, rv rn, iv 0, .unset, .unset] [(.ref r0)])) rfl rfl (hb hby d13_12)
  refine gs st33 ?_
  show Go p e below s QQ 0 0 (T33.setTop (mkF m 15 #[rv r0, iv 0, jv (Vv r), .second, jv (Ss r), .second, rv rn, iv 0, .unset, .unset] [(.ref sz)]))
  refine gs (fun t => XS.iloadN X33.here hx rfl (hb hby d13_15) rfl) ?_
  refine gs (fun t => ldIf X33 hx hZ e33 V_sz (j := (0 : Int32)) (v := (.int (oI kn))) (by decide) rfl (g := (mkF m 16 #[rv r0, iv 0, jv (Vv r), .second, jv (Ss r), .second, rv rn, iv 0, .unset, .unset] [(.int (0 : Int32)), (.ref sz)])) rfl rfl (hb hby d13_16) t) ?_
  refine gs (fun t => XS.istore X33.here hx rfl (hb hby d13_17) rfl (l' := #[rv r0, iv 0, jv (Vv r), .second, jv (Ss r), .second, rv rn, iv 0, iv (oI kn), .unset]) rfl) ?_
  show Go p e below s QQ 0 0 (T33.setTop (mkF m 19 #[rv r0, iv 0, jv (Vv r), .second, jv (Ss r), .second, rv rn, iv (oI 0), iv (oI kn), .unset] []))
  have loop : ∀ (k : Nat) (lo : Nat) (hi : Nat) (md : Int32) (T34 : State) (h34 : Heap) (lc34 : List Loc) (X34 : Stand p l e ({ frames := 3, cells := 0, slots := 0, locals := 45 } : Room) s m #[(.ref r0), (.int (0 : Int32)), (.long (Vv r)), (.long (Ss r))] below meth c T34 lc34 0 0) (N34 : Fr n0 lc34) (e34 : T34.heap = h34) (ZZ : n0 ≤ h34.size) (F_runs_r0 : Fld Z h34 r0 "com/example/interval/interval/service/SlotOrder" "runs" "[[I" (.ref ra)) (F_sizes_r0 : Fld Z h34 r0 "com/example/interval/interval/service/SlotOrder" "sizes" "[I" (.ref sz)) (F_table_r0 : Fld Z h34 r0 "com/example/interval/interval/service/SlotOrder" "table" "Lcom/example/interval/interval/service/SlotTable;" (.ref tb)) (F_field_r0 : Fld Z h34 r0 "com/example/interval/interval/service/SlotOrder" "field" "I" (.int (oI fl))) (E_r0 : Exa Z h34 r0 "com/example/interval/interval/service/SlotOrder") (V_ra : Arf Z h34 ra (.array .int) 1 (fun _ => .ref rn)) (V_sz : Arf Z h34 sz .int 1 (fun _ => .int (oI kn))) (V_rn : Arf Z h34 rn .int 8 (fun i => .int (oI (xs i)))) (E_tb : Exa Z h34 tb "com/example/interval/interval/service/SlotTable") (F_pages_tb : Fld Z h34 tb "com/example/interval/interval/service/SlotTable" "pages" "[[J" (.ref pg)) (V_pg : Arf Z h34 pg (.array .long) 1 fpg) (V_pa : Arf Z h34 pa .long 40 fa) (hk : hi - lo < k) (g1 : ∀ i, i < lo → own_L Vv Ss (xs i) r) (g2 : ∀ i, hi ≤ i → i < kn → ¬ own_L Vv Ss (xs i) r) (g3 : lo ≤ hi ∧ hi ≤ kn) (hH : h34 = h0), Go p e below s QQ 0 0 (T34.setTop (mkF m 19 #[rv r0, iv 0, jv (Vv r), .second, jv (Ss r), .second, rv rn, iv (oI lo), iv (oI hi), iv md] [])) := by
    intro k
    induction k with
    | zero =>
      intro lo hi md T34 h34 lc34 X34 N34 e34 ZZ F_runs_r0 F_sizes_r0 F_table_r0 F_field_r0 E_r0 V_ra V_sz V_rn E_tb F_pages_tb V_pg V_pa hk g1 g2 g3 hH
      exact absurd hk (Nat.not_lt_zero _)
    | succ k ih =>
      intro lo hi md T34 h34 lc34 X34 N34 e34 ZZ F_runs_r0 F_sizes_r0 F_table_r0 F_field_r0 E_r0 V_ra V_sz V_rn E_tb F_pages_tb V_pg V_pa hk g1 g2 g3 hH
      refine gs (fun t => XS.iload X34.here hx rfl (hb hby d13_19) rfl) ?_
      refine gs (fun t => XS.iload X34.here hx rfl (hb hby d13_21) rfl) ?_
      by_cases hq : (oI lo) < (oI hi)
      · skip
        refine gs (fun t => XS.icmpNo X34.here hx rfl (hb hby d13_23) rfl (tlt hq).2.1) ?_
        have hlh : lo < hi := by rw [Int32.lt_iff_toInt_lt, oI_t (by omega), oI_t (by omega)] at hq; omega
        refine gs (fun t => XS.iload X34.here hx rfl (hb hby d13_26) rfl) ?_
        refine gs (fun t => XS.iload X34.here hx rfl (hb hby d13_28) rfl) ?_
        refine gs (fun t => XS.iadd X34.here hx rfl (hb hby d13_30) rfl) ?_
        show Go p e below s QQ 0 0 (T34.setTop (mkF m 31 #[rv r0, iv 0, jv (Vv r), .second, jv (Ss r), .second, rv rn, iv (oI lo), iv (oI hi), iv md] [(.int ((oI lo) + (oI hi)))]))
        rw [show ((oI lo) + (oI hi)) = (oI (lo + hi)) from oI_add (by omega)]
        show Go p e below s QQ 0 0 (T34.setTop (mkF m 31 #[rv r0, iv 0, jv (Vv r), .second, jv (Ss r), .second, rv rn, iv (oI lo), iv (oI hi), iv md] [(.int (oI (lo + hi)))]))
        refine gs (fun t => XS.iconst X34.here hx rfl (hb hby d13_31)) ?_
        refine gs (fun t => XS.iushr X34.here hx rfl (hb hby d13_32) rfl) ?_
        show Go p e below s QQ 0 0 (T34.setTop (mkF m 33 #[rv r0, iv 0, jv (Vv r), .second, jv (Ss r), .second, rv rn, iv (oI lo), iv (oI hi), iv md] [(.int (((oI (lo + hi)).toUInt32 >>> ((1 : Int32) &&& 31).toUInt32).toInt32))]))
        rw [show (((oI (lo + hi)).toUInt32 >>> ((1 : Int32) &&& 31).toUInt32).toInt32) = (oI ((lo + hi) / 2)) from oI_half (by omega)]
        show Go p e below s QQ 0 0 (T34.setTop (mkF m 33 #[rv r0, iv 0, jv (Vv r), .second, jv (Ss r), .second, rv rn, iv (oI lo), iv (oI hi), iv md] [(.int (oI ((lo + hi) / 2)))]))
        refine gs (fun t => XS.istore X34.here hx rfl (hb hby d13_33) rfl (l' := #[rv r0, iv 0, jv (Vv r), .second, jv (Ss r), .second, rv rn, iv (oI lo), iv (oI hi), iv (oI ((lo + hi) / 2))]) rfl) ?_
        refine gs (fun t => XS.aloadN X34.here hx rfl (hb hby d13_35) rfl rfl) ?_
        refine gs (fun t => XS.aload X34.here hx rfl (hb hby d13_36) rfl rfl) ?_
        refine gs (fun t => XS.iload X34.here hx rfl (hb hby d13_38) rfl) ?_
        refine gs (fun t => ldIf X34 hx hZ e34 V_rn (j := (oI ((lo + hi) / 2))) (v := (.int (oI (xs ((lo + hi) / 2))))) (own_oin (by omega) (by decide)) (by rw [oI_c (by omega)]) (g := (mkF m 40 #[rv r0, iv 0, jv (Vv r), .second, jv (Ss r), .second, rv rn, iv (oI lo), iv (oI hi), iv (oI ((lo + hi) / 2))] [(.int (oI ((lo + hi) / 2))), (.ref rn), (.ref r0)])) rfl rfl (hb hby d13_40) t) ?_
        refine gs (fun t => XS.lloadN X34.here hx rfl (hb hby d13_41) rfl) ?_
        show Go p e below s QQ 0 0 (T34.setTop (mkF m 42 #[rv r0, iv 0, jv (Vv r), .second, jv (Ss r), .second, rv rn, iv (oI lo), iv (oI hi), iv (oI ((lo + hi) / 2))] [(.long (Vv r)), (.int (oI (xs ((lo + hi) / 2)))), (.ref r0)]))
        refine gs (fun t => XS.lload X34.here hx rfl (hb hby d13_42) rfl) ?_
        obtain ⟨cq35, q35, q35'⟩ := E_r0.cell
        obtain ⟨_, _, ⟨T35, L35, k35, n35⟩, -, X35, ⟨Lc35, hQ35, l35, y35, z35⟩, st35⟩ := X34.privateBack hx (y := (⟨"com/example/interval/interval/service/SlotOrder", "compare", "(IJJ)I"⟩ : MethodName)) hown (mvT hZ (hw _ (List.mem_of_getElem? (i := 89) rfl))) (mvT hZ (hw _ (List.mem_of_getElem? (i := 90) rfl))) (own_selP hown (mvT hZ (hw _ (List.mem_of_getElem? (i := 56) rfl)) (args := #[])) rfl (mvP hZ (hw _ (List.mem_of_getElem? (i := 91) rfl))) (mvT hZ (hw _ (List.mem_of_getElem? (i := 90) rfl))) (by decide)) (Cond.privateMethod_at (mvP hZ (hw _ (List.mem_of_getElem? (i := 91) rfl)) (args := #[]))) (mvT hZ (hw _ (List.mem_of_getElem? (i := 92) rfl))) (by decide) (backOf (W := 0) (rmCm l Z a0 hw [] r0 (xs ((lo + hi) / 2)) r tb pg pa fpg fa fl Vv Ss h34 n0 ZZ F_table_r0 F_field_r0 E_tb F_pages_tb V_pg hpg V_pa htab hfl (hxs _ (by omega))) hZ (hw _ (List.mem_of_getElem? (i := 92) rfl)) (hw _ (List.mem_of_getElem? (i := 33) rfl)) (by decide) (by decide)) (g := (mkF m 44 #[rv r0, iv 0, jv (Vv r), .second, jv (Ss r), .second, rv rn, iv (oI lo), iv (oI hi), iv (oI ((lo + hi) / 2))] [(.long (Ss r)), (.long (Vv r)), (.int (oI (xs ((lo + hi) / 2)))), (.ref r0)])) rfl (by rw [hml]; rfl) (Steps.refl _) (a := r0) (by rw [e34]; exact q35) q35' (argsL := [(.int (oI (xs ((lo + hi) / 2)))), (.long (Vv r)), (.long (Ss r))]) (rest := []) (lenOf pd_4 rfl) rfl (by show 2 * 0 + _ ≤ _; exact Nat.le_of_eq rfl) (hb hby d13_44) (fun _ _ => ⟨rfl, e34, (by decide : 0 + 0 ≤ _), (by decide : 0 + 0 ≤ _)⟩)
        dsimp only [Pt.U, Pt.locs, Pt.cells, Pt.slots] at X35 l35 y35 z35 st35 hQ35
        subst l35 y35 z35
        obtain ⟨cc35, rfl, N35q, e35, hc35⟩ := hQ35
        replace N34 := Fr.app N34 N35q
        refine gt st35 ?_
        show Go p e below s QQ 0 0 (T35.setTop (mkF m 47 #[rv r0, iv 0, jv (Vv r), .second, jv (Ss r), .second, rv rn, iv (oI lo), iv (oI hi), iv (oI ((lo + hi) / 2))] [(.int cc35)]))
        by_cases hd : cc35 < (0 : Int32)
        · skip
          refine gs (fun t => XS.ifNo X35.here hx rfl (hb hby d13_47) rfl ((if0 _ _).trans (tlt hd).2.1)) ?_
          refine gs (fun t => XS.iload X35.here hx rfl (hb hby d13_50) rfl) ?_
          refine gs (fun t => XS.iconst X35.here hx rfl (hb hby d13_52)) ?_
          refine gs (fun t => XS.iadd X35.here hx rfl (hb hby d13_53) rfl) ?_
          show Go p e below s QQ 0 0 (T35.setTop (mkF m 54 #[rv r0, iv 0, jv (Vv r), .second, jv (Ss r), .second, rv rn, iv (oI lo), iv (oI hi), iv (oI ((lo + hi) / 2))] [(.int ((oI ((lo + hi) / 2)) + (1 : Int32)))]))
          rw [show ((oI ((lo + hi) / 2)) + (1 : Int32)) = (oI (((lo + hi) / 2) + 1)) from oI_add (a := ((lo + hi) / 2)) (b := 1) (by omega)]
          show Go p e below s QQ 0 0 (T35.setTop (mkF m 54 #[rv r0, iv 0, jv (Vv r), .second, jv (Ss r), .second, rv rn, iv (oI lo), iv (oI hi), iv (oI ((lo + hi) / 2))] [(.int (oI (((lo + hi) / 2) + 1)))]))
          refine gs (fun t => XS.istore X35.here hx rfl (hb hby d13_54) rfl (l' := #[rv r0, iv 0, jv (Vv r), .second, jv (Ss r), .second, rv rn, iv (oI (((lo + hi) / 2) + 1)), iv (oI hi), iv (oI ((lo + hi) / 2))]) rfl) ?_
          refine gs (fun t => XS.goto X35.here hx rfl (pc0 := 56) (pc' := 63) rfl (hb hby d13_56) (by decide) (by decide)) ?_
          refine gs (fun t => XS.goto X35.here hx rfl (pc0 := 63) (pc' := 19) rfl (hb hby d13_63) (by decide) (by decide)) ?_
          exact ih (((lo + hi) / 2) + 1) hi (oI ((lo + hi) / 2)) _ _ _ (X35) N34 e35 ZZ F_runs_r0 F_sizes_r0 F_table_r0 F_field_r0 E_r0 V_ra V_sz V_rn E_tb F_pages_tb V_pg V_pa (by omega) (own_bs1 hmono g1 g3 hlh (hc35.mp hd)) (g2) (by omega) hH
        · skip
          refine gs (fun t => XS.ifYes X35.here hx rfl (pc0 := 47) (pc' := 59) rfl (hb hby d13_47) rfl ((if0 _ _).trans (flt hd).2.1) (by decide) (by decide)) ?_
          refine gs (fun t => XS.iload X35.here hx rfl (hb hby d13_59) rfl) ?_
          refine gs (fun t => XS.istore X35.here hx rfl (hb hby d13_61) rfl (l' := #[rv r0, iv 0, jv (Vv r), .second, jv (Ss r), .second, rv rn, iv (oI lo), iv (oI ((lo + hi) / 2)), iv (oI ((lo + hi) / 2))]) rfl) ?_
          refine gs (fun t => XS.goto X35.here hx rfl (pc0 := 63) (pc' := 19) rfl (hb hby d13_63) (by decide) (by decide)) ?_
          exact ih lo ((lo + hi) / 2) (oI ((lo + hi) / 2)) _ _ _ (X35) N34 e35 ZZ F_runs_r0 F_sizes_r0 F_table_r0 F_field_r0 E_r0 V_ra V_sz V_rn E_tb F_pages_tb V_pg V_pa (by omega) (g1) (own_bs2 hmono g2 g3 hlh (fun q => hd (hc35.mpr q))) (by omega) hH
      · skip
        refine gs (fun t => XS.icmpYes X34.here hx rfl (pc0 := 23) (pc' := 66) rfl (hb hby d13_23) rfl (flt hq).2.1 (by decide) (by decide)) ?_
        refine gs (fun t => XS.iload X34.here hx rfl (hb hby d13_66) rfl) ?_
        exact goI X34 hx Bd.notSynchronized Bd.returns (hb hby d13_68) (by rw [← hQQ, e34]; exact ⟨lo, rfl, N34, hH, own_bs_end g1 g2 g3 (by rw [Int32.lt_iff_toInt_lt, oI_t (by omega), oI_t (by omega)] at hq; omega)⟩) (by decide) (by decide)
  have g1 : ∀ i, i < 0 → own_L Vv Ss (xs i) r := fun i hi => absurd hi (Nat.not_lt_zero _)
  have g2 : ∀ i, kn ≤ i → i < kn → ¬ own_L Vv Ss (xs i) r := fun i h1 h2 => absurd h2 (Nat.not_lt.mpr h1)
  have g3 : 0 ≤ kn ∧ kn ≤ kn := ⟨Nat.zero_le _, Nat.le_refl _⟩
  refine gs (fun t => XS.iload X33.here hx rfl (hb hby d13_19) rfl) ?_
  refine gs (fun t => XS.iload X33.here hx rfl (hb hby d13_21) rfl) ?_
  by_cases hq : (oI 0) < (oI kn)
  · skip
    refine gs (fun t => XS.icmpNo X33.here hx rfl (hb hby d13_23) rfl (tlt hq).2.1) ?_
    have hlh : 0 < kn := by rw [Int32.lt_iff_toInt_lt, oI_t (by omega), oI_t (by omega)] at hq; omega
    refine gs (fun t => XS.iload X33.here hx rfl (hb hby d13_26) rfl) ?_
    refine gs (fun t => XS.iload X33.here hx rfl (hb hby d13_28) rfl) ?_
    refine gs (fun t => XS.iadd X33.here hx rfl (hb hby d13_30) rfl) ?_
    show Go p e below s QQ 0 0 (T33.setTop (mkF m 31 #[rv r0, iv 0, jv (Vv r), .second, jv (Ss r), .second, rv rn, iv (oI 0), iv (oI kn), .unset] [(.int ((oI 0) + (oI kn)))]))
    rw [show ((oI 0) + (oI kn)) = (oI (0 + kn)) from oI_add (by omega)]
    show Go p e below s QQ 0 0 (T33.setTop (mkF m 31 #[rv r0, iv 0, jv (Vv r), .second, jv (Ss r), .second, rv rn, iv (oI 0), iv (oI kn), .unset] [(.int (oI (0 + kn)))]))
    refine gs (fun t => XS.iconst X33.here hx rfl (hb hby d13_31)) ?_
    refine gs (fun t => XS.iushr X33.here hx rfl (hb hby d13_32) rfl) ?_
    show Go p e below s QQ 0 0 (T33.setTop (mkF m 33 #[rv r0, iv 0, jv (Vv r), .second, jv (Ss r), .second, rv rn, iv (oI 0), iv (oI kn), .unset] [(.int (((oI (0 + kn)).toUInt32 >>> ((1 : Int32) &&& 31).toUInt32).toInt32))]))
    rw [show (((oI (0 + kn)).toUInt32 >>> ((1 : Int32) &&& 31).toUInt32).toInt32) = (oI ((0 + kn) / 2)) from oI_half (by omega)]
    show Go p e below s QQ 0 0 (T33.setTop (mkF m 33 #[rv r0, iv 0, jv (Vv r), .second, jv (Ss r), .second, rv rn, iv (oI 0), iv (oI kn), .unset] [(.int (oI ((0 + kn) / 2)))]))
    refine gs (fun t => XS.istore X33.here hx rfl (hb hby d13_33) rfl (l' := #[rv r0, iv 0, jv (Vv r), .second, jv (Ss r), .second, rv rn, iv (oI 0), iv (oI kn), iv (oI ((0 + kn) / 2))]) rfl) ?_
    refine gs (fun t => XS.aloadN X33.here hx rfl (hb hby d13_35) rfl rfl) ?_
    refine gs (fun t => XS.aload X33.here hx rfl (hb hby d13_36) rfl rfl) ?_
    refine gs (fun t => XS.iload X33.here hx rfl (hb hby d13_38) rfl) ?_
    refine gs (fun t => ldIf X33 hx hZ e33 V_rn (j := (oI ((0 + kn) / 2))) (v := (.int (oI (xs ((0 + kn) / 2))))) (own_oin (by omega) (by decide)) (by rw [oI_c (by omega)]) (g := (mkF m 40 #[rv r0, iv 0, jv (Vv r), .second, jv (Ss r), .second, rv rn, iv (oI 0), iv (oI kn), iv (oI ((0 + kn) / 2))] [(.int (oI ((0 + kn) / 2))), (.ref rn), (.ref r0)])) rfl rfl (hb hby d13_40) t) ?_
    refine gs (fun t => XS.lloadN X33.here hx rfl (hb hby d13_41) rfl) ?_
    show Go p e below s QQ 0 0 (T33.setTop (mkF m 42 #[rv r0, iv 0, jv (Vv r), .second, jv (Ss r), .second, rv rn, iv (oI 0), iv (oI kn), iv (oI ((0 + kn) / 2))] [(.long (Vv r)), (.int (oI (xs ((0 + kn) / 2)))), (.ref r0)]))
    refine gs (fun t => XS.lload X33.here hx rfl (hb hby d13_42) rfl) ?_
    obtain ⟨cq36, q36, q36'⟩ := E_r0.cell
    obtain ⟨_, _, ⟨T36, L36, k36, n36⟩, -, X36, ⟨Lc36, hQ36, l36, y36, z36⟩, st36⟩ := X33.privateBack hx (y := (⟨"com/example/interval/interval/service/SlotOrder", "compare", "(IJJ)I"⟩ : MethodName)) hown (mvT hZ (hw _ (List.mem_of_getElem? (i := 89) rfl))) (mvT hZ (hw _ (List.mem_of_getElem? (i := 90) rfl))) (own_selP hown (mvT hZ (hw _ (List.mem_of_getElem? (i := 56) rfl)) (args := #[])) rfl (mvP hZ (hw _ (List.mem_of_getElem? (i := 91) rfl))) (mvT hZ (hw _ (List.mem_of_getElem? (i := 90) rfl))) (by decide)) (Cond.privateMethod_at (mvP hZ (hw _ (List.mem_of_getElem? (i := 91) rfl)) (args := #[]))) (mvT hZ (hw _ (List.mem_of_getElem? (i := 92) rfl))) (by decide) (backOf (W := 0) (rmCm l Z a0 hw [] r0 (xs ((0 + kn) / 2)) r tb pg pa fpg fa fl Vv Ss h0 n0 ZZ F_table_r0 F_field_r0 E_tb F_pages_tb V_pg hpg V_pa htab hfl (hxs _ (by omega))) hZ (hw _ (List.mem_of_getElem? (i := 92) rfl)) (hw _ (List.mem_of_getElem? (i := 33) rfl)) (by decide) (by decide)) (g := (mkF m 44 #[rv r0, iv 0, jv (Vv r), .second, jv (Ss r), .second, rv rn, iv (oI 0), iv (oI kn), iv (oI ((0 + kn) / 2))] [(.long (Ss r)), (.long (Vv r)), (.int (oI (xs ((0 + kn) / 2)))), (.ref r0)])) rfl (by rw [hml]; rfl) (Steps.refl _) (a := r0) (by rw [e33]; exact q36) q36' (argsL := [(.int (oI (xs ((0 + kn) / 2)))), (.long (Vv r)), (.long (Ss r))]) (rest := []) (lenOf pd_4 rfl) rfl (by show 2 * 0 + _ ≤ _; exact Nat.le_of_eq rfl) (hb hby d13_44) (fun _ _ => ⟨rfl, e33, (by decide : 0 + 0 ≤ _), (by decide : 0 + 0 ≤ _)⟩)
    dsimp only [Pt.U, Pt.locs, Pt.cells, Pt.slots] at X36 l36 y36 z36 st36 hQ36
    subst l36 y36 z36
    obtain ⟨cc36, rfl, N36q, e36, hc36⟩ := hQ36
    replace N0 := Fr.app N0 N36q
    refine gt st36 ?_
    show Go p e below s QQ 0 0 (T36.setTop (mkF m 47 #[rv r0, iv 0, jv (Vv r), .second, jv (Ss r), .second, rv rn, iv (oI 0), iv (oI kn), iv (oI ((0 + kn) / 2))] [(.int cc36)]))
    by_cases hd : cc36 < (0 : Int32)
    · skip
      refine gs (fun t => XS.ifNo X36.here hx rfl (hb hby d13_47) rfl ((if0 _ _).trans (tlt hd).2.1)) ?_
      refine gs (fun t => XS.iload X36.here hx rfl (hb hby d13_50) rfl) ?_
      refine gs (fun t => XS.iconst X36.here hx rfl (hb hby d13_52)) ?_
      refine gs (fun t => XS.iadd X36.here hx rfl (hb hby d13_53) rfl) ?_
      show Go p e below s QQ 0 0 (T36.setTop (mkF m 54 #[rv r0, iv 0, jv (Vv r), .second, jv (Ss r), .second, rv rn, iv (oI 0), iv (oI kn), iv (oI ((0 + kn) / 2))] [(.int ((oI ((0 + kn) / 2)) + (1 : Int32)))]))
      rw [show ((oI ((0 + kn) / 2)) + (1 : Int32)) = (oI (((0 + kn) / 2) + 1)) from oI_add (a := ((0 + kn) / 2)) (b := 1) (by omega)]
      show Go p e below s QQ 0 0 (T36.setTop (mkF m 54 #[rv r0, iv 0, jv (Vv r), .second, jv (Ss r), .second, rv rn, iv (oI 0), iv (oI kn), iv (oI ((0 + kn) / 2))] [(.int (oI (((0 + kn) / 2) + 1)))]))
      refine gs (fun t => XS.istore X36.here hx rfl (hb hby d13_54) rfl (l' := #[rv r0, iv 0, jv (Vv r), .second, jv (Ss r), .second, rv rn, iv (oI (((0 + kn) / 2) + 1)), iv (oI kn), iv (oI ((0 + kn) / 2))]) rfl) ?_
      refine gs (fun t => XS.goto X36.here hx rfl (pc0 := 56) (pc' := 63) rfl (hb hby d13_56) (by decide) (by decide)) ?_
      refine gs (fun t => XS.goto X36.here hx rfl (pc0 := 63) (pc' := 19) rfl (hb hby d13_63) (by decide) (by decide)) ?_
      exact loop 9 (((0 + kn) / 2) + 1) kn (oI ((0 + kn) / 2)) _ _ _ (X36) N0 e36 ZZ F_runs_r0 F_sizes_r0 F_table_r0 F_field_r0 E_r0 V_ra V_sz V_rn E_tb F_pages_tb V_pg V_pa (by omega) (own_bs1 hmono g1 g3 hlh (hc36.mp hd)) (g2) (by omega) rfl
    · skip
      refine gs (fun t => XS.ifYes X36.here hx rfl (pc0 := 47) (pc' := 59) rfl (hb hby d13_47) rfl ((if0 _ _).trans (flt hd).2.1) (by decide) (by decide)) ?_
      refine gs (fun t => XS.iload X36.here hx rfl (hb hby d13_59) rfl) ?_
      refine gs (fun t => XS.istore X36.here hx rfl (hb hby d13_61) rfl (l' := #[rv r0, iv 0, jv (Vv r), .second, jv (Ss r), .second, rv rn, iv (oI 0), iv (oI ((0 + kn) / 2)), iv (oI ((0 + kn) / 2))]) rfl) ?_
      refine gs (fun t => XS.goto X36.here hx rfl (pc0 := 63) (pc' := 19) rfl (hb hby d13_63) (by decide) (by decide)) ?_
      exact loop 9 0 ((0 + kn) / 2) (oI ((0 + kn) / 2)) _ _ _ (X36) N0 e36 ZZ F_runs_r0 F_sizes_r0 F_table_r0 F_field_r0 E_r0 V_ra V_sz V_rn E_tb F_pages_tb V_pg V_pa (by omega) (g1) (own_bs2 hmono g2 g3 hlh (fun q => hd (hc36.mpr q))) (by omega) rfl
  · skip
    refine gs (fun t => XS.icmpYes X33.here hx rfl (pc0 := 23) (pc' := 66) rfl (hb hby d13_23) rfl (flt hq).2.1 (by decide) (by decide)) ?_
    refine gs (fun t => XS.iload X33.here hx rfl (hb hby d13_66) rfl) ?_
    exact goI X33 hx Bd.notSynchronized Bd.returns (hb hby d13_68) (by rw [← hQQ, e33]; exact ⟨0, rfl, N0, rfl, own_bs_end g1 g2 g3 (by rw [Int32.lt_iff_toInt_lt, oI_t (by omega), oI_t (by omega)] at hq; omega)⟩) (by decide) (by decide)
theorem d11_0 : decode prog_26_method_17_code 0 = .ok (.aload_n 0, 1) := by decide +kernel
theorem d11_1 : decode prog_26_method_17_code 1 = .ok (.getfield 44, 3) := by decide +kernel
theorem d11_4 : decode prog_26_method_17_code 4 = .ok (.aload_n 0, 1) := by decide +kernel
theorem d11_5 : decode prog_26_method_17_code 5 = .ok (.getfield 11, 3) := by decide +kernel
theorem d11_8 : decode prog_26_method_17_code 8 = .ok (.arraylength, 1) := by decide +kernel
theorem d11_9 : decode prog_26_method_17_code 9 = .ok (.if_icmp .ne 40, 3) := by decide +kernel
theorem d11_12 : decode prog_26_method_17_code 12 = .ok (.aload_n 0, 1) := by decide +kernel
theorem d11_13 : decode prog_26_method_17_code 13 = .ok (.aload_n 0, 1) := by decide +kernel
theorem d11_14 : decode prog_26_method_17_code 14 = .ok (.getfield 11, 3) := by decide +kernel
theorem d11_17 : decode prog_26_method_17_code 17 = .ok (.iconst 2, 1) := by decide +kernel
theorem d11_18 : decode prog_26_method_17_code 18 = .ok (.aload_n 0, 1) := by decide +kernel
theorem d11_19 : decode prog_26_method_17_code 19 = .ok (.getfield 44, 3) := by decide +kernel
theorem d11_22 : decode prog_26_method_17_code 22 = .ok (.imul, 1) := by decide +kernel
theorem d11_23 : decode prog_26_method_17_code 23 = .ok (.invokestatic 104, 3) := by decide +kernel
theorem d11_26 : decode prog_26_method_17_code 26 = .ok (.checkcast 107, 3) := by decide +kernel
theorem d11_29 : decode prog_26_method_17_code 29 = .ok (.putfield 11, 3) := by decide +kernel
theorem d11_32 : decode prog_26_method_17_code 32 = .ok (.aload_n 0, 1) := by decide +kernel
theorem d11_33 : decode prog_26_method_17_code 33 = .ok (.aload_n 0, 1) := by decide +kernel
theorem d11_34 : decode prog_26_method_17_code 34 = .ok (.getfield 15, 3) := by decide +kernel
theorem d11_37 : decode prog_26_method_17_code 37 = .ok (.iconst 2, 1) := by decide +kernel
theorem d11_38 : decode prog_26_method_17_code 38 = .ok (.aload_n 0, 1) := by decide +kernel
theorem d11_39 : decode prog_26_method_17_code 39 = .ok (.getfield 44, 3) := by decide +kernel
theorem d11_42 : decode prog_26_method_17_code 42 = .ok (.imul, 1) := by decide +kernel
theorem d11_43 : decode prog_26_method_17_code 43 = .ok (.invokestatic 70, 3) := by decide +kernel
theorem d11_46 : decode prog_26_method_17_code 46 = .ok (.putfield 15, 3) := by decide +kernel
theorem d11_49 : decode prog_26_method_17_code 49 = .ok (.aload_n 0, 1) := by decide +kernel
theorem d11_50 : decode prog_26_method_17_code 50 = .ok (.getfield 11, 3) := by decide +kernel
theorem d11_53 : decode prog_26_method_17_code 53 = .ok (.iload_n 1, 1) := by decide +kernel
theorem d11_54 : decode prog_26_method_17_code 54 = .ok (.aload_n 0, 1) := by decide +kernel
theorem d11_55 : decode prog_26_method_17_code 55 = .ok (.getfield 11, 3) := by decide +kernel
theorem d11_58 : decode prog_26_method_17_code 58 = .ok (.iload_n 1, 1) := by decide +kernel
theorem d11_59 : decode prog_26_method_17_code 59 = .ok (.iconst 1, 1) := by decide +kernel
theorem d11_60 : decode prog_26_method_17_code 60 = .ok (.iadd, 1) := by decide +kernel
theorem d11_61 : decode prog_26_method_17_code 61 = .ok (.aload_n 0, 1) := by decide +kernel
theorem d11_62 : decode prog_26_method_17_code 62 = .ok (.getfield 44, 3) := by decide +kernel
theorem d11_65 : decode prog_26_method_17_code 65 = .ok (.iload_n 1, 1) := by decide +kernel
theorem d11_66 : decode prog_26_method_17_code 66 = .ok (.isub, 1) := by decide +kernel
theorem d11_67 : decode prog_26_method_17_code 67 = .ok (.invokestatic 76, 3) := by decide +kernel
theorem d11_70 : decode prog_26_method_17_code 70 = .ok (.aload_n 0, 1) := by decide +kernel
theorem d11_71 : decode prog_26_method_17_code 71 = .ok (.getfield 15, 3) := by decide +kernel
theorem d11_74 : decode prog_26_method_17_code 74 = .ok (.iload_n 1, 1) := by decide +kernel
theorem d11_75 : decode prog_26_method_17_code 75 = .ok (.aload_n 0, 1) := by decide +kernel
theorem d11_76 : decode prog_26_method_17_code 76 = .ok (.getfield 15, 3) := by decide +kernel
theorem d11_79 : decode prog_26_method_17_code 79 = .ok (.iload_n 1, 1) := by decide +kernel
theorem d11_80 : decode prog_26_method_17_code 80 = .ok (.iconst 1, 1) := by decide +kernel
theorem d11_81 : decode prog_26_method_17_code 81 = .ok (.iadd, 1) := by decide +kernel
theorem d11_82 : decode prog_26_method_17_code 82 = .ok (.aload_n 0, 1) := by decide +kernel
theorem d11_83 : decode prog_26_method_17_code 83 = .ok (.getfield 44, 3) := by decide +kernel
theorem d11_86 : decode prog_26_method_17_code 86 = .ok (.iload_n 1, 1) := by decide +kernel
theorem d11_87 : decode prog_26_method_17_code 87 = .ok (.isub, 1) := by decide +kernel
theorem d11_88 : decode prog_26_method_17_code 88 = .ok (.invokestatic 76, 3) := by decide +kernel
theorem d11_91 : decode prog_26_method_17_code 91 = .ok (.aload_n 0, 1) := by decide +kernel
theorem d11_92 : decode prog_26_method_17_code 92 = .ok (.getfield 11, 3) := by decide +kernel
theorem d11_95 : decode prog_26_method_17_code 95 = .ok (.iload_n 1, 1) := by decide +kernel
theorem d11_96 : decode prog_26_method_17_code 96 = .ok (.aload_n 2, 1) := by decide +kernel
theorem d11_97 : decode prog_26_method_17_code 97 = .ok (.aastore, 1) := by decide +kernel
theorem d11_98 : decode prog_26_method_17_code 98 = .ok (.aload_n 0, 1) := by decide +kernel
theorem d11_99 : decode prog_26_method_17_code 99 = .ok (.getfield 15, 3) := by decide +kernel
theorem d11_102 : decode prog_26_method_17_code 102 = .ok (.iload_n 1, 1) := by decide +kernel
theorem d11_103 : decode prog_26_method_17_code 103 = .ok (.iload_n 3, 1) := by decide +kernel
theorem d11_104 : decode prog_26_method_17_code 104 = .ok (.iastore, 1) := by decide +kernel
theorem d11_105 : decode prog_26_method_17_code 105 = .ok (.aload_n 0, 1) := by decide +kernel
theorem d11_106 : decode prog_26_method_17_code 106 = .ok (.dup, 1) := by decide +kernel
theorem d11_107 : decode prog_26_method_17_code 107 = .ok (.getfield 44, 3) := by decide +kernel
theorem d11_110 : decode prog_26_method_17_code 110 = .ok (.iconst 1, 1) := by decide +kernel
theorem d11_111 : decode prog_26_method_17_code 111 = .ok (.iadd, 1) := by decide +kernel
theorem d11_112 : decode prog_26_method_17_code 112 = .ok (.putfield 44, 3) := by decide +kernel
theorem d11_115 : decode prog_26_method_17_code 115 = .ok (.return_, 1) := by decide +kernel
theorem pn_11 : plainName "com/example/interval/interval/service/SlotOrder" = true := by first | (simp [plainName, overriddenIn]; done) | decide +kernel
def QrmIr (Z : State) (r0 : Addr) (rn : Addr) (ra : Addr) (sz : Addr) (tb : Addr) (fl : Nat) (h0 : Heap) (n0 : Nat) (v : Option Value) (h : Heap) (L : List Loc) : Prop := v = none ∧ Fr n0 L ∧ Keep h0 h [r0, ra, sz] ∧ Fld Z h r0 "com/example/interval/interval/service/SlotOrder" "runs" "[[I" (.ref ra) ∧ Fld Z h r0 "com/example/interval/interval/service/SlotOrder" "sizes" "[I" (.ref sz) ∧ Fld Z h r0 "com/example/interval/interval/service/SlotOrder" "table" "Lcom/example/interval/interval/service/SlotTable;" (.ref tb) ∧ Fld Z h r0 "com/example/interval/interval/service/SlotOrder" "field" "I" (.int (oI fl)) ∧ Fld Z h r0 "com/example/interval/interval/service/SlotOrder" "size" "I" (.int (oI 0)) ∧ Fld Z h r0 "com/example/interval/interval/service/SlotOrder" "runCount" "I" (.int (1 : Int32)) ∧ Arf Z h ra (.array .int) 1 (fun _ => .ref rn) ∧ Arf Z h sz .int 1 (fun _ => .int (oI 0))
set_option maxRecDepth 65536 in
set_option maxHeartbeats 40000000 in
theorem rmIr (l : Launch) (Z : State) (a0 : Array Value) (hw : ∀ d ∈ tables_1, d.before a0 Z = true) (ws : List Jvm.Cond) (r0 : Addr) (rn : Addr) (ra : Addr) (sz : Addr) (tb : Addr) (fl : Nat) (h0 : Heap) (n0 : Nat) (Z0 : n0 ≤ h0.size) (F_runs_r0 : Fld Z h0 r0 "com/example/interval/interval/service/SlotOrder" "runs" "[[I" (.ref ra)) (F_sizes_r0 : Fld Z h0 r0 "com/example/interval/interval/service/SlotOrder" "sizes" "[I" (.ref sz)) (F_table_r0 : Fld Z h0 r0 "com/example/interval/interval/service/SlotOrder" "table" "Lcom/example/interval/interval/service/SlotTable;" (.ref tb)) (F_field_r0 : Fld Z h0 r0 "com/example/interval/interval/service/SlotOrder" "field" "I" (.int (oI fl))) (F_size_r0 : Fld Z h0 r0 "com/example/interval/interval/service/SlotOrder" "size" "I" (.int (oI 0))) (F_runCount_r0 : Fld Z h0 r0 "com/example/interval/interval/service/SlotOrder" "runCount" "I" (.int (0 : Int32))) (E_r0 : Exa Z h0 r0 "com/example/interval/interval/service/SlotOrder") (V_ra : Arf Z h0 ra (.array .int) 1 (fun _ => .null)) (TK_ra : Tak Z h0 ra "[I") (V_sz : Arf Z h0 sz .int 1 (fun _ => .int (oI 0))) (E_rn : Exa Z h0 rn "[I") (ge_r0 : n0 ≤ r0) (ge_ra : n0 ≤ ra) (ge_sz : n0 ≤ sz) (ne_r0_ra : r0 ≠ ra) (ne_r0_sz : r0 ≠ sz) (ne_r0_rn : r0 ≠ rn) (ne_ra_sz : ra ≠ sz) :
    MetFree l (⟨"com/example/interval/interval/service/SlotOrder", "insertRun", "(I[II)V"⟩ : MethodName) (head1 (Jvm.Cond.code (⟨"com/example/interval/interval/service/SlotOrder", "insertRun", "(I[II)V"⟩ : MethodName) prog_26_method_17_code 4 none :: ws) ({ frames := 1, cells := 0, slots := 0, locals := 18 } : Room)) (fun a U => a = #[(.ref r0), (.int (0 : Int32)), (.ref rn), (.int (0 : Int32))] ∧ Z.Warmed39 U.vm ∧ U.heap = h0) (fun _ _ _ _ _ => True) (fun _ U o U' => ∃ v L, o = .returned v ∧ QrmIr Z r0 rn ra sz tb fl h0 n0 v U'.heap L ∧ FrameEnd U o U' L ({ frames := 1, cells := 0, slots := 0, locals := 18 } : Room).cells ({ frames := 1, cells := 0, slots := 0, locals := 18 } : Room).slots) := by
  refine MetFree.of_bodySF (plainFor_of_name pn_11) hisR ?_
  intro p e s m args below meth c s₁ Bd hml0 hP hK
  obtain ⟨rfl, hZ, hh⟩ := hP
  have hx := Bd.exec
  have hby := Bd.bytes
  have hml : c.maxLocals = 4 := hml0
  have hown : s.vm.findClass "com/example/interval/interval/service/SlotOrder" = some m.cls := findClass_of_methodNamed Bd.named
  have hnm := (name_of_methodNamed Bd.named Bd.method).1
  have X0 : Stand p l e ({ frames := 1, cells := 0, slots := 0, locals := 18 } : Room) s m #[(.ref r0), (.int (0 : Int32)), (.ref rn), (.int (0 : Int32))] below meth c s₁ [] 0 0 := Stand.of_body Bd
  have e0 : s₁.heap = h0 := by rw [← hh, Bd.state]; rfl
  have N0 := Fr.nil n0
  have ZZ := Z0
  have KK : Keep h0 h0 [r0, ra, sz] := Keep.refl h0 _
  show Go p e below s (QrmIr Z r0 rn ra sz tb fl h0 n0) 0 0 (s₁.setTop (entryFrame m #[(.ref r0), (.int (0 : Int32)), (.ref rn), (.int (0 : Int32))] 4))
  generalize hQQ : (QrmIr Z r0 rn ra sz tb fl h0 n0) = QQ
  refine gs (fun t k => castTop (g' := (mkF m 0 #[rv r0, iv 0, rv rn, iv 0] [])) (by first | (simp [entryFrame, mkF, argsToLocals, Value.category, maxLocals]; done) | rfl) k) ?_
  show Go p e below s QQ 0 0 (s₁.setTop (mkF m 0 #[rv r0, iv 0, rv rn, iv 0] []))
  refine gs (fun t => XS.aloadN X0.here hx rfl (hb hby d11_0) rfl rfl) ?_
  obtain ⟨T37, X37, e37, st37⟩ := getF X0 hx hZ hown (host := "") (Or.inl (hw _ (List.mem_of_getElem? (i := 70) rfl))) Via.refl e0 F_runCount_r0 (g := (mkF m 1 #[rv r0, iv 0, rv rn, iv 0] [(.ref r0)])) rfl rfl (hb hby d11_1)
  refine gs st37 ?_
  show Go p e below s QQ 0 0 (T37.setTop (mkF m 4 #[rv r0, iv 0, rv rn, iv 0] [(.int (0 : Int32))]))
  refine gs (fun t => XS.aloadN X37.here hx rfl (hb hby d11_4) rfl rfl) ?_
  obtain ⟨T38, X38, e38, st38⟩ := getF X37 hx hZ hown (host := "") (Or.inl (hw _ (List.mem_of_getElem? (i := 40) rfl))) Via.refl e37 F_runs_r0 (g := (mkF m 5 #[rv r0, iv 0, rv rn, iv 0] [(.ref r0), (.int (0 : Int32))])) rfl rfl (hb hby d11_5)
  refine gs st38 ?_
  show Go p e below s QQ 0 0 (T38.setTop (mkF m 8 #[rv r0, iv 0, rv rn, iv 0] [(.ref ra), (.int (0 : Int32))]))
  refine gs (fun t => lenf X38 hx hZ e38 V_ra (z := (1 : Int32)) rfl (g := (mkF m 8 #[rv r0, iv 0, rv rn, iv 0] [(.ref ra), (.int (0 : Int32))])) rfl rfl (hb hby d11_8) t) ?_
  refine gs (fun t => XS.icmpYes X38.here hx rfl (pc0 := 9) (pc' := 49) rfl (hb hby d11_9) rfl (feq (by decide : ¬ ((0 : Int32) = (1 : Int32)))).2 (by decide) (by decide)) ?_
  refine gs (fun t => XS.aloadN X38.here hx rfl (hb hby d11_49) rfl rfl) ?_
  obtain ⟨T39, X39, e39, st39⟩ := getF X38 hx hZ hown (host := "") (Or.inl (hw _ (List.mem_of_getElem? (i := 40) rfl))) Via.refl e38 F_runs_r0 (g := (mkF m 50 #[rv r0, iv 0, rv rn, iv 0] [(.ref r0)])) rfl rfl (hb hby d11_50)
  refine gs st39 ?_
  show Go p e below s QQ 0 0 (T39.setTop (mkF m 53 #[rv r0, iv 0, rv rn, iv 0] [(.ref ra)]))
  refine gs (fun t => XS.iloadN X39.here hx rfl (hb hby d11_53) rfl) ?_
  refine gs (fun t => XS.aloadN X39.here hx rfl (hb hby d11_54) rfl rfl) ?_
  obtain ⟨T40, X40, e40, st40⟩ := getF X39 hx hZ hown (host := "") (Or.inl (hw _ (List.mem_of_getElem? (i := 40) rfl))) Via.refl e39 F_runs_r0 (g := (mkF m 55 #[rv r0, iv 0, rv rn, iv 0] [(.ref r0), (.int (0 : Int32)), (.ref ra)])) rfl rfl (hb hby d11_55)
  refine gs st40 ?_
  show Go p e below s QQ 0 0 (T40.setTop (mkF m 58 #[rv r0, iv 0, rv rn, iv 0] [(.ref ra), (.int (0 : Int32)), (.ref ra)]))
  refine gs (fun t => XS.iloadN X40.here hx rfl (hb hby d11_58) rfl) ?_
  refine gs (fun t => XS.iconst X40.here hx rfl (hb hby d11_59)) ?_
  refine gs (fun t => XS.iadd X40.here hx rfl (hb hby d11_60) rfl) ?_
  refine gs (fun t => XS.aloadN X40.here hx rfl (hb hby d11_61) rfl rfl) ?_
  obtain ⟨T41, X41, e41, st41⟩ := getF X40 hx hZ hown (host := "") (Or.inl (hw _ (List.mem_of_getElem? (i := 70) rfl))) Via.refl e40 F_runCount_r0 (g := (mkF m 62 #[rv r0, iv 0, rv rn, iv 0] [(.ref r0), (.int (1 : Int32)), (.ref ra), (.int (0 : Int32)), (.ref ra)])) rfl rfl (hb hby d11_62)
  refine gs st41 ?_
  show Go p e below s QQ 0 0 (T41.setTop (mkF m 65 #[rv r0, iv 0, rv rn, iv 0] [(.int (0 : Int32)), (.int (1 : Int32)), (.ref ra), (.int (0 : Int32)), (.ref ra)]))
  refine gs (fun t => XS.iloadN X41.here hx rfl (hb hby d11_65) rfl) ?_
  refine gs (fun t => XS.isub X41.here hx rfl (hb hby d11_66) rfl) ?_
  obtain ⟨T42, h42, L42, X42, e42, Nn42, K42, V42, st42⟩ := own_cp X41 hx hZ hown (hw _ (List.mem_of_getElem? (i := 76) rfl)) (hw _ (List.mem_of_getElem? (i := 79) rfl)) (hw _ (List.mem_of_getElem? (i := 77) rfl)) (hw _ (List.mem_of_getElem? (i := 78) rfl)) e41 V_ra (fun _ _ => rfl) (S := 0) (D := 1) (K := 0) (Or.inr ⟨rfl, rfl⟩) (by decide) (by decide) (by decide) (by decide) (by decide) (by decide) (by decide) (by decide) (f' := (fun _ => .null)) (fun i hi => by rw [if_neg (by omega)]) N0 ge_ra (g := (mkF m 67 #[rv r0, iv 0, rv rn, iv 0] [(.int (0 : Int32)), (.int (1 : Int32)), (.ref ra), (.int (0 : Int32)), (.ref ra)])) rfl (by rw [hml]; rfl) rfl (hb hby d11_67) (by decide) (W := 0) (by show 2 * 0 + _ ≤ _; exact Nat.le_of_eq rfl) (by decide)
  replace N0 := Nn42
  refine gs st42 ?_
  show Go p e below s QQ 0 0 (T42.setTop (mkF m 70 #[rv r0, iv 0, rv rn, iv 0] []))
  replace F_runs_r0 := F_runs_r0.keep K42 (ninS ne_r0_ra nin0)
  replace F_sizes_r0 := F_sizes_r0.keep K42 (ninS ne_r0_ra nin0)
  replace F_table_r0 := F_table_r0.keep K42 (ninS ne_r0_ra nin0)
  replace F_field_r0 := F_field_r0.keep K42 (ninS ne_r0_ra nin0)
  replace F_size_r0 := F_size_r0.keep K42 (ninS ne_r0_ra nin0)
  replace F_runCount_r0 := F_runCount_r0.keep K42 (ninS ne_r0_ra nin0)
  replace E_r0 := E_r0.keep K42
  replace TK_ra := TK_ra.keep K42
  replace V_sz := V_sz.keep K42 (ninS (Ne.symm ne_ra_sz) nin0)
  replace E_rn := E_rn.keep K42
  replace ZZ := Nat.le_trans ZZ K42.1
  replace KK := KK.trans K42 (allS (Or.inl (by simp)) all0)
  have V_ra := V42
  refine gs (fun t => XS.aloadN X42.here hx rfl (hb hby d11_70) rfl rfl) ?_
  obtain ⟨T43, X43, e43, st43⟩ := getF X42 hx hZ hown (host := "") (Or.inl (hw _ (List.mem_of_getElem? (i := 42) rfl))) Via.refl e42 F_sizes_r0 (g := (mkF m 71 #[rv r0, iv 0, rv rn, iv 0] [(.ref r0)])) rfl rfl (hb hby d11_71)
  refine gs st43 ?_
  show Go p e below s QQ 0 0 (T43.setTop (mkF m 74 #[rv r0, iv 0, rv rn, iv 0] [(.ref sz)]))
  refine gs (fun t => XS.iloadN X43.here hx rfl (hb hby d11_74) rfl) ?_
  refine gs (fun t => XS.aloadN X43.here hx rfl (hb hby d11_75) rfl rfl) ?_
  obtain ⟨T44, X44, e44, st44⟩ := getF X43 hx hZ hown (host := "") (Or.inl (hw _ (List.mem_of_getElem? (i := 42) rfl))) Via.refl e43 F_sizes_r0 (g := (mkF m 76 #[rv r0, iv 0, rv rn, iv 0] [(.ref r0), (.int (0 : Int32)), (.ref sz)])) rfl rfl (hb hby d11_76)
  refine gs st44 ?_
  show Go p e below s QQ 0 0 (T44.setTop (mkF m 79 #[rv r0, iv 0, rv rn, iv 0] [(.ref sz), (.int (0 : Int32)), (.ref sz)]))
  refine gs (fun t => XS.iloadN X44.here hx rfl (hb hby d11_79) rfl) ?_
  refine gs (fun t => XS.iconst X44.here hx rfl (hb hby d11_80)) ?_
  refine gs (fun t => XS.iadd X44.here hx rfl (hb hby d11_81) rfl) ?_
  refine gs (fun t => XS.aloadN X44.here hx rfl (hb hby d11_82) rfl rfl) ?_
  obtain ⟨T45, X45, e45, st45⟩ := getF X44 hx hZ hown (host := "") (Or.inl (hw _ (List.mem_of_getElem? (i := 70) rfl))) Via.refl e44 F_runCount_r0 (g := (mkF m 83 #[rv r0, iv 0, rv rn, iv 0] [(.ref r0), (.int (1 : Int32)), (.ref sz), (.int (0 : Int32)), (.ref sz)])) rfl rfl (hb hby d11_83)
  refine gs st45 ?_
  show Go p e below s QQ 0 0 (T45.setTop (mkF m 86 #[rv r0, iv 0, rv rn, iv 0] [(.int (0 : Int32)), (.int (1 : Int32)), (.ref sz), (.int (0 : Int32)), (.ref sz)]))
  refine gs (fun t => XS.iloadN X45.here hx rfl (hb hby d11_86) rfl) ?_
  refine gs (fun t => XS.isub X45.here hx rfl (hb hby d11_87) rfl) ?_
  obtain ⟨T46, h46, L46, X46, e46, Nn46, K46, V46, st46⟩ := own_cp X45 hx hZ hown (hw _ (List.mem_of_getElem? (i := 76) rfl)) (hw _ (List.mem_of_getElem? (i := 79) rfl)) (hw _ (List.mem_of_getElem? (i := 77) rfl)) (hw _ (List.mem_of_getElem? (i := 78) rfl)) e45 V_sz (fun _ _ => rfl) (S := 0) (D := 1) (K := 0) (Or.inl rfl) (by decide) (by decide) (by decide) (by decide) (by decide) (by decide) (by decide) (by decide) (f' := (fun _ => .int (oI 0))) (fun i hi => by rw [if_neg (by omega)]) N0 ge_sz (g := (mkF m 88 #[rv r0, iv 0, rv rn, iv 0] [(.int (0 : Int32)), (.int (1 : Int32)), (.ref sz), (.int (0 : Int32)), (.ref sz)])) rfl (by rw [hml]; rfl) rfl (hb hby d11_88) (by decide) (W := 0) (by show 2 * 0 + _ ≤ _; exact Nat.le_of_eq rfl) (by decide)
  replace N0 := Nn46
  refine gs st46 ?_
  show Go p e below s QQ 0 0 (T46.setTop (mkF m 91 #[rv r0, iv 0, rv rn, iv 0] []))
  replace F_runs_r0 := F_runs_r0.keep K46 (ninS ne_r0_sz nin0)
  replace F_sizes_r0 := F_sizes_r0.keep K46 (ninS ne_r0_sz nin0)
  replace F_table_r0 := F_table_r0.keep K46 (ninS ne_r0_sz nin0)
  replace F_field_r0 := F_field_r0.keep K46 (ninS ne_r0_sz nin0)
  replace F_size_r0 := F_size_r0.keep K46 (ninS ne_r0_sz nin0)
  replace F_runCount_r0 := F_runCount_r0.keep K46 (ninS ne_r0_sz nin0)
  replace E_r0 := E_r0.keep K46
  replace TK_ra := TK_ra.keep K46
  replace E_rn := E_rn.keep K46
  replace V_ra := V_ra.keep K46 (ninS ne_ra_sz nin0)
  replace ZZ := Nat.le_trans ZZ K46.1
  replace KK := KK.trans K46 (allS (Or.inl (by simp)) all0)
  have V_sz := V46
  refine gs (fun t => XS.aloadN X46.here hx rfl (hb hby d11_91) rfl rfl) ?_
  obtain ⟨T47, X47, e47, st47⟩ := getF X46 hx hZ hown (host := "") (Or.inl (hw _ (List.mem_of_getElem? (i := 40) rfl))) Via.refl e46 F_runs_r0 (g := (mkF m 92 #[rv r0, iv 0, rv rn, iv 0] [(.ref r0)])) rfl rfl (hb hby d11_92)
  refine gs st47 ?_
  show Go p e below s QQ 0 0 (T47.setTop (mkF m 95 #[rv r0, iv 0, rv rn, iv 0] [(.ref ra)]))
  refine gs (fun t => XS.iloadN X47.here hx rfl (hb hby d11_95) rfl) ?_
  refine gs (fun t => XS.aloadN X47.here hx rfl (hb hby d11_96) rfl rfl) ?_
  obtain ⟨T48, h48, X48, e48, W48, V48, st48⟩ := stRf X47 hx hZ e47 V_ra rfl (TK_ra.sto (Ins.self E_rn)) (j := (0 : Int32)) (by decide) (g := (mkF m 97 #[rv r0, iv 0, rv rn, iv 0] [(.ref rn), (.int (0 : Int32)), (.ref ra)])) rfl rfl (hb hby d11_97)
  replace N0 := Fr.snoc X48 N0 ge_ra
  refine gs st48 ?_
  show Go p e below s QQ 0 0 (T48.setTop (mkF m 98 #[rv r0, iv 0, rv rn, iv 0] []))
  replace F_runs_r0 := F_runs_r0.other W48 (Or.inl ne_r0_ra)
  replace F_sizes_r0 := F_sizes_r0.other W48 (Or.inl ne_r0_ra)
  replace F_table_r0 := F_table_r0.other W48 (Or.inl ne_r0_ra)
  replace F_field_r0 := F_field_r0.other W48 (Or.inl ne_r0_ra)
  replace F_size_r0 := F_size_r0.other W48 (Or.inl ne_r0_ra)
  replace F_runCount_r0 := F_runCount_r0.other W48 (Or.inl ne_r0_ra)
  replace E_r0 := E_r0.wr W48
  replace TK_ra := TK_ra.wr W48
  replace E_rn := E_rn.wr W48
  replace V_sz := V_sz.other W48 (Ne.symm ne_ra_sz)
  replace ZZ : n0 ≤ h48.size := by rw [W48.size]; exact ZZ
  replace KK := KK.wr W48 (Or.inl (by simp))
  replace V_ra : Arf Z h48 ra (.array .int) 1 (updv (fun _ => .null) 0 (.ref rn)) := V48
  replace V_ra : Arf Z h48 ra (.array .int) 1 (fun _ => .ref rn) := V_ra.congr (fun i hi => by have q : i = 0 := (by omega); subst q; rfl)
  refine gs (fun t => XS.aloadN X48.here hx rfl (hb hby d11_98) rfl rfl) ?_
  obtain ⟨T49, X49, e49, st49⟩ := getF X48 hx hZ hown (host := "") (Or.inl (hw _ (List.mem_of_getElem? (i := 42) rfl))) Via.refl e48 F_sizes_r0 (g := (mkF m 99 #[rv r0, iv 0, rv rn, iv 0] [(.ref r0)])) rfl rfl (hb hby d11_99)
  refine gs st49 ?_
  show Go p e below s QQ 0 0 (T49.setTop (mkF m 102 #[rv r0, iv 0, rv rn, iv 0] [(.ref sz)]))
  refine gs (fun t => XS.iloadN X49.here hx rfl (hb hby d11_102) rfl) ?_
  refine gs (fun t => XS.iloadN X49.here hx rfl (hb hby d11_103) rfl) ?_
  obtain ⟨T50, h50, X50, e50, W50, V50, st50⟩ := stIf X49 hx hZ e49 V_sz (j := (0 : Int32)) (by decide) (g := (mkF m 104 #[rv r0, iv 0, rv rn, iv 0] [(.int (0 : Int32)), (.int (0 : Int32)), (.ref sz)])) rfl rfl (hb hby d11_104)
  replace N0 := Fr.snoc X50 N0 ge_sz
  refine gs st50 ?_
  show Go p e below s QQ 0 0 (T50.setTop (mkF m 105 #[rv r0, iv 0, rv rn, iv 0] []))
  replace F_runs_r0 := F_runs_r0.other W50 (Or.inl ne_r0_sz)
  replace F_sizes_r0 := F_sizes_r0.other W50 (Or.inl ne_r0_sz)
  replace F_table_r0 := F_table_r0.other W50 (Or.inl ne_r0_sz)
  replace F_field_r0 := F_field_r0.other W50 (Or.inl ne_r0_sz)
  replace F_size_r0 := F_size_r0.other W50 (Or.inl ne_r0_sz)
  replace F_runCount_r0 := F_runCount_r0.other W50 (Or.inl ne_r0_sz)
  replace E_r0 := E_r0.wr W50
  replace TK_ra := TK_ra.wr W50
  replace E_rn := E_rn.wr W50
  replace V_ra := V_ra.other W50 ne_ra_sz
  replace ZZ : n0 ≤ h50.size := by rw [W50.size]; exact ZZ
  replace KK := KK.wr W50 (Or.inl (by simp))
  replace V_sz : Arf Z h50 sz .int 1 (updv (fun _ => .int (oI 0)) 0 (.int (0 : Int32))) := V50
  replace V_sz : Arf Z h50 sz .int 1 (fun _ => .int (oI 0)) := V_sz.congr (fun i hi => by have q : i = 0 := (by omega); subst q; rfl)
  refine gs (fun t => XS.aloadN X50.here hx rfl (hb hby d11_105) rfl rfl) ?_
  refine gs (fun t => XS.dup X50.here hx rfl (hb hby d11_106) rfl rfl) ?_
  obtain ⟨T51, X51, e51, st51⟩ := getF X50 hx hZ hown (host := "") (Or.inl (hw _ (List.mem_of_getElem? (i := 70) rfl))) Via.refl e50 F_runCount_r0 (g := (mkF m 107 #[rv r0, iv 0, rv rn, iv 0] [(.ref r0), (.ref r0)])) rfl rfl (hb hby d11_107)
  refine gs st51 ?_
  show Go p e below s QQ 0 0 (T51.setTop (mkF m 110 #[rv r0, iv 0, rv rn, iv 0] [(.int (0 : Int32)), (.ref r0)]))
  refine gs (fun t => XS.iconst X51.here hx rfl (hb hby d11_110)) ?_
  refine gs (fun t => XS.iadd X51.here hx rfl (hb hby d11_111) rfl) ?_
  obtain ⟨T52, h52, X52, e52, W52, st52⟩ := putF X51 hx hZ hown (host := "") (Or.inl (hw _ (List.mem_of_getElem? (i := 70) rfl))) Via.refl e51 F_runCount_r0 E_r0 (Or.inl (hw _ (List.mem_of_getElem? (i := 71) rfl))) (hw _ (List.mem_of_getElem? (i := 32) rfl)) (ty := .int) (by decide) rfl rfl (g := (mkF m 112 #[rv r0, iv 0, rv rn, iv 0] [(.int (1 : Int32)), (.ref r0)])) rfl rfl (hb hby d11_112)
  replace N0 := Fr.snoc X52 N0 ge_r0
  refine gs st52 ?_
  show Go p e below s QQ 0 0 (T52.setTop (mkF m 115 #[rv r0, iv 0, rv rn, iv 0] []))
  replace F_runs_r0 := F_runs_r0.other W52 (Or.inr (slot_ne (Or.inl (hw _ (List.mem_of_getElem? (i := 41) rfl))) (Or.inl (hw _ (List.mem_of_getElem? (i := 71) rfl))) (by decide) (t := (.array (.array .int))) (t' := .int) (by decide) (by decide)))
  replace F_sizes_r0 := F_sizes_r0.other W52 (Or.inr (slot_ne (Or.inl (hw _ (List.mem_of_getElem? (i := 43) rfl))) (Or.inl (hw _ (List.mem_of_getElem? (i := 71) rfl))) (by decide) (t := (.array .int)) (t' := .int) (by decide) (by decide)))
  replace F_table_r0 := F_table_r0.other W52 (Or.inr (slot_ne (Or.inr (hw _ (List.mem_of_getElem? (i := 45) rfl))) (Or.inl (hw _ (List.mem_of_getElem? (i := 71) rfl))) (by decide) (t := (.object "com/example/interval/interval/service/SlotTable")) (t' := .int) (by decide) (by decide)))
  replace F_field_r0 := F_field_r0.other W52 (Or.inr (slot_ne (Or.inr (hw _ (List.mem_of_getElem? (i := 47) rfl))) (Or.inl (hw _ (List.mem_of_getElem? (i := 71) rfl))) (by decide) (t := .int) (t' := .int) (by decide) (by decide)))
  replace F_size_r0 := F_size_r0.other W52 (Or.inr (slot_ne (Or.inl (hw _ (List.mem_of_getElem? (i := 59) rfl))) (Or.inl (hw _ (List.mem_of_getElem? (i := 71) rfl))) (by decide) (t := .int) (t' := .int) (by decide) (by decide)))
  replace F_runCount_r0 := F_runCount_r0.same W52
  replace E_r0 := E_r0.wr W52
  replace TK_ra := TK_ra.wr W52
  replace E_rn := E_rn.wr W52
  replace V_ra := V_ra.other W52 (Ne.symm ne_r0_ra)
  replace V_sz := V_sz.other W52 (Ne.symm ne_r0_sz)
  replace ZZ : n0 ≤ h52.size := by rw [W52.size]; exact ZZ
  replace KK := KK.wr W52 (Or.inl (by simp))
  exact goV X52 hx Bd.notSynchronized Bd.returns (hb hby d11_115) (by rw [← hQQ, e52]; exact ⟨rfl, N0, KK, F_runs_r0, F_sizes_r0, F_table_r0, F_field_r0, F_size_r0, F_runCount_r0, V_ra, V_sz⟩) (by decide) (by decide)
theorem d9_0 : decode prog_26_method_7_code 0 = .ok (.aload_n 0, 1) := by decide +kernel
theorem d9_1 : decode prog_26_method_7_code 1 = .ok (.getfield 18, 3) := by decide +kernel
theorem d9_4 : decode prog_26_method_7_code 4 = .ok (.iload_n 1, 1) := by decide +kernel
theorem d9_5 : decode prog_26_method_7_code 5 = .ok (.aload_n 0, 1) := by decide +kernel
theorem d9_6 : decode prog_26_method_7_code 6 = .ok (.getfield 22, 3) := by decide +kernel
theorem d9_9 : decode prog_26_method_7_code 9 = .ok (.invokevirtual 47, 3) := by decide +kernel
theorem d9_12 : decode prog_26_method_7_code 12 = .ok (.lstore_n 2, 1) := by decide +kernel
theorem d9_13 : decode prog_26_method_7_code 13 = .ok (.aload_n 0, 1) := by decide +kernel
theorem d9_14 : decode prog_26_method_7_code 14 = .ok (.getfield 18, 3) := by decide +kernel
theorem d9_17 : decode prog_26_method_7_code 17 = .ok (.iload_n 1, 1) := by decide +kernel
theorem d9_18 : decode prog_26_method_7_code 18 = .ok (.iconst 0, 1) := by decide +kernel
theorem d9_19 : decode prog_26_method_7_code 19 = .ok (.invokevirtual 47, 3) := by decide +kernel
theorem d9_22 : decode prog_26_method_7_code 22 = .ok (.lstore 4, 2) := by decide +kernel
theorem d9_24 : decode prog_26_method_7_code 24 = .ok (.aload_n 0, 1) := by decide +kernel
theorem d9_25 : decode prog_26_method_7_code 25 = .ok (.getfield 44, 3) := by decide +kernel
theorem d9_28 : decode prog_26_method_7_code 28 = .ok (.ifCond .ne 13, 3) := by decide +kernel
theorem d9_31 : decode prog_26_method_7_code 31 = .ok (.aload_n 0, 1) := by decide +kernel
theorem d9_32 : decode prog_26_method_7_code 32 = .ok (.iconst 0, 1) := by decide +kernel
theorem d9_33 : decode prog_26_method_7_code 33 = .ok (.bipush 8, 2) := by decide +kernel
theorem d9_35 : decode prog_26_method_7_code 35 = .ok (.newarray .int, 2) := by decide +kernel
theorem d9_37 : decode prog_26_method_7_code 37 = .ok (.iconst 0, 1) := by decide +kernel
theorem d9_38 : decode prog_26_method_7_code 38 = .ok (.invokevirtual 53, 3) := by decide +kernel
theorem d9_41 : decode prog_26_method_7_code 41 = .ok (.aload_n 0, 1) := by decide +kernel
theorem d9_42 : decode prog_26_method_7_code 42 = .ok (.lload_n 2, 1) := by decide +kernel
theorem d9_43 : decode prog_26_method_7_code 43 = .ok (.lload 4, 2) := by decide +kernel
theorem d9_45 : decode prog_26_method_7_code 45 = .ok (.invokevirtual 29, 3) := by decide +kernel
theorem d9_48 : decode prog_26_method_7_code 48 = .ok (.istore 6, 2) := by decide +kernel
theorem d9_50 : decode prog_26_method_7_code 50 = .ok (.aload_n 0, 1) := by decide +kernel
theorem d9_51 : decode prog_26_method_7_code 51 = .ok (.iload 6, 2) := by decide +kernel
theorem d9_53 : decode prog_26_method_7_code 53 = .ok (.lload_n 2, 1) := by decide +kernel
theorem d9_54 : decode prog_26_method_7_code 54 = .ok (.lload 4, 2) := by decide +kernel
theorem d9_56 : decode prog_26_method_7_code 56 = .ok (.invokevirtual 33, 3) := by decide +kernel
theorem d9_59 : decode prog_26_method_7_code 59 = .ok (.istore 7, 2) := by decide +kernel
theorem d9_61 : decode prog_26_method_7_code 61 = .ok (.aload_n 0, 1) := by decide +kernel
theorem d9_62 : decode prog_26_method_7_code 62 = .ok (.getfield 15, 3) := by decide +kernel
theorem d9_65 : decode prog_26_method_7_code 65 = .ok (.iload 6, 2) := by decide +kernel
theorem d9_67 : decode prog_26_method_7_code 67 = .ok (.iaload, 1) := by decide +kernel
theorem d9_68 : decode prog_26_method_7_code 68 = .ok (.sipush 1024, 3) := by decide +kernel
theorem d9_71 : decode prog_26_method_7_code 71 = .ok (.if_icmp .ne 46, 3) := by decide +kernel
theorem d9_74 : decode prog_26_method_7_code 74 = .ok (.iload 7, 2) := by decide +kernel
theorem d9_76 : decode prog_26_method_7_code 76 = .ok (.sipush 1024, 3) := by decide +kernel
theorem d9_79 : decode prog_26_method_7_code 79 = .ok (.if_icmp .ne 38, 3) := by decide +kernel
theorem d9_82 : decode prog_26_method_7_code 82 = .ok (.iload 6, 2) := by decide +kernel
theorem d9_84 : decode prog_26_method_7_code 84 = .ok (.iconst 1, 1) := by decide +kernel
theorem d9_85 : decode prog_26_method_7_code 85 = .ok (.iadd, 1) := by decide +kernel
theorem d9_86 : decode prog_26_method_7_code 86 = .ok (.aload_n 0, 1) := by decide +kernel
theorem d9_87 : decode prog_26_method_7_code 87 = .ok (.getfield 44, 3) := by decide +kernel
theorem d9_90 : decode prog_26_method_7_code 90 = .ok (.if_icmp .ge 27, 3) := by decide +kernel
theorem d9_93 : decode prog_26_method_7_code 93 = .ok (.aload_n 0, 1) := by decide +kernel
theorem d9_94 : decode prog_26_method_7_code 94 = .ok (.getfield 15, 3) := by decide +kernel
theorem d9_97 : decode prog_26_method_7_code 97 = .ok (.iload 6, 2) := by decide +kernel
theorem d9_99 : decode prog_26_method_7_code 99 = .ok (.iconst 1, 1) := by decide +kernel
theorem d9_100 : decode prog_26_method_7_code 100 = .ok (.iadd, 1) := by decide +kernel
theorem d9_101 : decode prog_26_method_7_code 101 = .ok (.iaload, 1) := by decide +kernel
theorem d9_102 : decode prog_26_method_7_code 102 = .ok (.sipush 1024, 3) := by decide +kernel
theorem d9_105 : decode prog_26_method_7_code 105 = .ok (.if_icmp .ge 12, 3) := by decide +kernel
theorem d9_108 : decode prog_26_method_7_code 108 = .ok (.iinc 6 1, 3) := by decide +kernel
theorem d9_111 : decode prog_26_method_7_code 111 = .ok (.iconst 0, 1) := by decide +kernel
theorem d9_112 : decode prog_26_method_7_code 112 = .ok (.istore 7, 2) := by decide +kernel
theorem d9_114 : decode prog_26_method_7_code 114 = .ok (.goto 51, 3) := by decide +kernel
theorem d9_117 : decode prog_26_method_7_code 117 = .ok (.aload_n 0, 1) := by decide +kernel
theorem d9_118 : decode prog_26_method_7_code 118 = .ok (.getfield 15, 3) := by decide +kernel
theorem d9_121 : decode prog_26_method_7_code 121 = .ok (.iload 6, 2) := by decide +kernel
theorem d9_123 : decode prog_26_method_7_code 123 = .ok (.iaload, 1) := by decide +kernel
theorem d9_124 : decode prog_26_method_7_code 124 = .ok (.sipush 1024, 3) := by decide +kernel
theorem d9_127 : decode prog_26_method_7_code 127 = .ok (.if_icmp .ne 38, 3) := by decide +kernel
theorem d9_130 : decode prog_26_method_7_code 130 = .ok (.iload 7, 2) := by decide +kernel
theorem d9_132 : decode prog_26_method_7_code 132 = .ok (.sipush 512, 3) := by decide +kernel
theorem d9_135 : decode prog_26_method_7_code 135 = .ok (.invokestatic 57, 3) := by decide +kernel
theorem d9_138 : decode prog_26_method_7_code 138 = .ok (.istore 8, 2) := by decide +kernel
theorem d9_140 : decode prog_26_method_7_code 140 = .ok (.aload_n 0, 1) := by decide +kernel
theorem d9_141 : decode prog_26_method_7_code 141 = .ok (.iload 6, 2) := by decide +kernel
theorem d9_143 : decode prog_26_method_7_code 143 = .ok (.iload 8, 2) := by decide +kernel
theorem d9_145 : decode prog_26_method_7_code 145 = .ok (.invokevirtual 63, 3) := by decide +kernel
theorem d9_148 : decode prog_26_method_7_code 148 = .ok (.iload 7, 2) := by decide +kernel
theorem d9_150 : decode prog_26_method_7_code 150 = .ok (.iload 8, 2) := by decide +kernel
theorem d9_152 : decode prog_26_method_7_code 152 = .ok (.if_icmp .lt 13, 3) := by decide +kernel
theorem d9_155 : decode prog_26_method_7_code 155 = .ok (.iinc 6 1, 3) := by decide +kernel
theorem d9_158 : decode prog_26_method_7_code 158 = .ok (.iload 7, 2) := by decide +kernel
theorem d9_160 : decode prog_26_method_7_code 160 = .ok (.iload 8, 2) := by decide +kernel
theorem d9_162 : decode prog_26_method_7_code 162 = .ok (.isub, 1) := by decide +kernel
theorem d9_163 : decode prog_26_method_7_code 163 = .ok (.istore 7, 2) := by decide +kernel
theorem d9_165 : decode prog_26_method_7_code 165 = .ok (.aload_n 0, 1) := by decide +kernel
theorem d9_166 : decode prog_26_method_7_code 166 = .ok (.getfield 15, 3) := by decide +kernel
theorem d9_169 : decode prog_26_method_7_code 169 = .ok (.iload 6, 2) := by decide +kernel
theorem d9_171 : decode prog_26_method_7_code 171 = .ok (.iaload, 1) := by decide +kernel
theorem d9_172 : decode prog_26_method_7_code 172 = .ok (.aload_n 0, 1) := by decide +kernel
theorem d9_173 : decode prog_26_method_7_code 173 = .ok (.getfield 11, 3) := by decide +kernel
theorem d9_176 : decode prog_26_method_7_code 176 = .ok (.iload 6, 2) := by decide +kernel
theorem d9_178 : decode prog_26_method_7_code 178 = .ok (.aaload, 1) := by decide +kernel
theorem d9_179 : decode prog_26_method_7_code 179 = .ok (.arraylength, 1) := by decide +kernel
theorem d9_180 : decode prog_26_method_7_code 180 = .ok (.if_icmp .ne 35, 3) := by decide +kernel
theorem d9_183 : decode prog_26_method_7_code 183 = .ok (.aload_n 0, 1) := by decide +kernel
theorem d9_184 : decode prog_26_method_7_code 184 = .ok (.getfield 11, 3) := by decide +kernel
theorem d9_187 : decode prog_26_method_7_code 187 = .ok (.iload 6, 2) := by decide +kernel
theorem d9_189 : decode prog_26_method_7_code 189 = .ok (.aload_n 0, 1) := by decide +kernel
theorem d9_190 : decode prog_26_method_7_code 190 = .ok (.getfield 11, 3) := by decide +kernel
theorem d9_193 : decode prog_26_method_7_code 193 = .ok (.iload 6, 2) := by decide +kernel
theorem d9_195 : decode prog_26_method_7_code 195 = .ok (.aaload, 1) := by decide +kernel
theorem d9_196 : decode prog_26_method_7_code 196 = .ok (.iconst 2, 1) := by decide +kernel
theorem d9_197 : decode prog_26_method_7_code 197 = .ok (.aload_n 0, 1) := by decide +kernel
theorem d9_198 : decode prog_26_method_7_code 198 = .ok (.getfield 15, 3) := by decide +kernel
theorem d9_201 : decode prog_26_method_7_code 201 = .ok (.iload 6, 2) := by decide +kernel
theorem d9_203 : decode prog_26_method_7_code 203 = .ok (.iaload, 1) := by decide +kernel
theorem d9_204 : decode prog_26_method_7_code 204 = .ok (.imul, 1) := by decide +kernel
theorem d9_205 : decode prog_26_method_7_code 205 = .ok (.sipush 1024, 3) := by decide +kernel
theorem d9_208 : decode prog_26_method_7_code 208 = .ok (.invokestatic 67, 3) := by decide +kernel
theorem d9_211 : decode prog_26_method_7_code 211 = .ok (.invokestatic 70, 3) := by decide +kernel
theorem d9_214 : decode prog_26_method_7_code 214 = .ok (.aastore, 1) := by decide +kernel
theorem d9_215 : decode prog_26_method_7_code 215 = .ok (.aload_n 0, 1) := by decide +kernel
theorem d9_216 : decode prog_26_method_7_code 216 = .ok (.getfield 11, 3) := by decide +kernel
theorem d9_219 : decode prog_26_method_7_code 219 = .ok (.iload 6, 2) := by decide +kernel
theorem d9_221 : decode prog_26_method_7_code 221 = .ok (.aaload, 1) := by decide +kernel
theorem d9_222 : decode prog_26_method_7_code 222 = .ok (.astore 8, 2) := by decide +kernel
theorem d9_224 : decode prog_26_method_7_code 224 = .ok (.aload 8, 2) := by decide +kernel
theorem d9_226 : decode prog_26_method_7_code 226 = .ok (.iload 7, 2) := by decide +kernel
theorem d9_228 : decode prog_26_method_7_code 228 = .ok (.aload 8, 2) := by decide +kernel
theorem d9_230 : decode prog_26_method_7_code 230 = .ok (.iload 7, 2) := by decide +kernel
theorem d9_232 : decode prog_26_method_7_code 232 = .ok (.iconst 1, 1) := by decide +kernel
theorem d9_233 : decode prog_26_method_7_code 233 = .ok (.iadd, 1) := by decide +kernel
theorem d9_234 : decode prog_26_method_7_code 234 = .ok (.aload_n 0, 1) := by decide +kernel
theorem d9_235 : decode prog_26_method_7_code 235 = .ok (.getfield 15, 3) := by decide +kernel
theorem d9_238 : decode prog_26_method_7_code 238 = .ok (.iload 6, 2) := by decide +kernel
theorem d9_240 : decode prog_26_method_7_code 240 = .ok (.iaload, 1) := by decide +kernel
theorem d9_241 : decode prog_26_method_7_code 241 = .ok (.iload 7, 2) := by decide +kernel
theorem d9_243 : decode prog_26_method_7_code 243 = .ok (.isub, 1) := by decide +kernel
theorem d9_244 : decode prog_26_method_7_code 244 = .ok (.invokestatic 76, 3) := by decide +kernel
theorem d9_247 : decode prog_26_method_7_code 247 = .ok (.aload 8, 2) := by decide +kernel
theorem d9_249 : decode prog_26_method_7_code 249 = .ok (.iload 7, 2) := by decide +kernel
theorem d9_251 : decode prog_26_method_7_code 251 = .ok (.iload_n 1, 1) := by decide +kernel
theorem d9_252 : decode prog_26_method_7_code 252 = .ok (.iastore, 1) := by decide +kernel
theorem d9_253 : decode prog_26_method_7_code 253 = .ok (.aload_n 0, 1) := by decide +kernel
theorem d9_254 : decode prog_26_method_7_code 254 = .ok (.getfield 15, 3) := by decide +kernel
theorem d9_257 : decode prog_26_method_7_code 257 = .ok (.iload 6, 2) := by decide +kernel
theorem d9_259 : decode prog_26_method_7_code 259 = .ok (.dup2, 1) := by decide +kernel
theorem d9_260 : decode prog_26_method_7_code 260 = .ok (.iaload, 1) := by decide +kernel
theorem d9_261 : decode prog_26_method_7_code 261 = .ok (.iconst 1, 1) := by decide +kernel
theorem d9_262 : decode prog_26_method_7_code 262 = .ok (.iadd, 1) := by decide +kernel
theorem d9_263 : decode prog_26_method_7_code 263 = .ok (.iastore, 1) := by decide +kernel
theorem d9_264 : decode prog_26_method_7_code 264 = .ok (.aload_n 0, 1) := by decide +kernel
theorem d9_265 : decode prog_26_method_7_code 265 = .ok (.dup, 1) := by decide +kernel
theorem d9_266 : decode prog_26_method_7_code 266 = .ok (.getfield 26, 3) := by decide +kernel
theorem d9_269 : decode prog_26_method_7_code 269 = .ok (.iconst 1, 1) := by decide +kernel
theorem d9_270 : decode prog_26_method_7_code 270 = .ok (.iadd, 1) := by decide +kernel
theorem d9_271 : decode prog_26_method_7_code 271 = .ok (.putfield 26, 3) := by decide +kernel
theorem d9_274 : decode prog_26_method_7_code 274 = .ok (.return_, 1) := by decide +kernel
theorem pn_9 : plainName "com/example/interval/interval/service/SlotOrder" = true := by first | (simp [plainName, overriddenIn]; done) | decide +kernel
def QrmA0 (Z : State) (r0 : Addr) (r : Nat) (ra : Addr) (sz : Addr) (tb : Addr) (pg : Addr) (pa : Addr) (fpg : Nat → Value) (fa : Nat → Value) (fl : Nat) (Vv : Nat → Int64) (Ss : Nat → Int64) (h0 : Heap) (n0 : Nat) (v : Option Value) (h : Heap) (L : List Loc) : Prop := ∃ (rn : Addr) (j : Nat), v = none ∧ Fr n0 L ∧ h0.size ≤ rn ∧ Keep h0 h [r0, ra, sz] ∧ Fld Z h r0 "com/example/interval/interval/service/SlotOrder" "runs" "[[I" (.ref ra) ∧ Fld Z h r0 "com/example/interval/interval/service/SlotOrder" "sizes" "[I" (.ref sz) ∧ Fld Z h r0 "com/example/interval/interval/service/SlotOrder" "table" "Lcom/example/interval/interval/service/SlotTable;" (.ref tb) ∧ Fld Z h r0 "com/example/interval/interval/service/SlotOrder" "field" "I" (.int (oI fl)) ∧ Fld Z h r0 "com/example/interval/interval/service/SlotOrder" "size" "I" (.int (oI (0 + 1))) ∧ Fld Z h r0 "com/example/interval/interval/service/SlotOrder" "runCount" "I" (.int (1 : Int32)) ∧ Arf Z h ra (.array .int) 1 (fun _ => .ref rn) ∧ Arf Z h sz .int 1 (fun _ => .int (oI (0 + 1))) ∧ Arf Z h rn .int 8 (fun i => .int (oI (own_ins (fun _ => 0) j r 0 i))) ∧ own_at Vv Ss (fun _ => 0) 0 r j
set_option maxRecDepth 65536 in
set_option maxHeartbeats 40000000 in
theorem rmA0 (l : Launch) (Z : State) (a0 : Array Value) (hw : ∀ d ∈ tables_1, d.before a0 Z = true) (ws : List Jvm.Cond) (r0 : Addr) (r : Nat) (ra : Addr) (sz : Addr) (tb : Addr) (pg : Addr) (pa : Addr) (fpg : Nat → Value) (fa : Nat → Value) (fl : Nat) (Vv : Nat → Int64) (Ss : Nat → Int64) (h0 : Heap) (n0 : Nat) (Z0 : n0 ≤ h0.size) (F_runs_r0 : Fld Z h0 r0 "com/example/interval/interval/service/SlotOrder" "runs" "[[I" (.ref ra)) (F_sizes_r0 : Fld Z h0 r0 "com/example/interval/interval/service/SlotOrder" "sizes" "[I" (.ref sz)) (F_table_r0 : Fld Z h0 r0 "com/example/interval/interval/service/SlotOrder" "table" "Lcom/example/interval/interval/service/SlotTable;" (.ref tb)) (F_field_r0 : Fld Z h0 r0 "com/example/interval/interval/service/SlotOrder" "field" "I" (.int (oI fl))) (F_size_r0 : Fld Z h0 r0 "com/example/interval/interval/service/SlotOrder" "size" "I" (.int (oI 0))) (F_runCount_r0 : Fld Z h0 r0 "com/example/interval/interval/service/SlotOrder" "runCount" "I" (.int (0 : Int32))) (E_r0 : Exa Z h0 r0 "com/example/interval/interval/service/SlotOrder") (V_ra : Arf Z h0 ra (.array .int) 1 (fun _ => .null)) (TK_ra : Tak Z h0 ra "[I") (V_sz : Arf Z h0 sz .int 1 (fun _ => .int (oI 0))) (E_tb : Exa Z h0 tb "com/example/interval/interval/service/SlotTable") (F_pages_tb : Fld Z h0 tb "com/example/interval/interval/service/SlotTable" "pages" "[[J" (.ref pg)) (V_pg : Arf Z h0 pg (.array .long) 1 fpg) (hpg : fpg 0 = .ref pa) (V_pa : Arf Z h0 pa .long 40 fa) (htab : own_tb fa fl Vv Ss) (hfl : fl < 5) (ge_r0 : n0 ≤ r0) (ge_ra : n0 ≤ ra) (ge_sz : n0 ≤ sz) (ne_r0_ra : r0 ≠ ra) (ne_r0_sz : r0 ≠ sz) (ne_ra_sz : ra ≠ sz) (ne_r0_tb : r0 ≠ tb) (ne_r0_pg : r0 ≠ pg) (ne_r0_pa : r0 ≠ pa) (ne_ra_tb : ra ≠ tb) (ne_ra_pg : ra ≠ pg) (ne_ra_pa : ra ≠ pa) (ne_sz_tb : sz ≠ tb) (ne_sz_pg : sz ≠ pg) (ne_sz_pa : sz ≠ pa) (hr : r < 3) :
    MetFree l (⟨"com/example/interval/interval/service/SlotOrder", "add", "(I)V"⟩ : MethodName) (head1 (Jvm.Cond.code (⟨"com/example/interval/interval/service/SlotOrder", "add", "(I)V"⟩ : MethodName) prog_26_method_7_code 9 none :: ws) ({ frames := 4, cells := 1, slots := 8, locals := 66 } : Room)) (fun a U => a = #[(.ref r0), (.int (oI r))] ∧ Z.Warmed39 U.vm ∧ U.heap = h0) (fun _ _ _ _ _ => True) (fun _ U o U' => ∃ v L, o = .returned v ∧ QrmA0 Z r0 r ra sz tb pg pa fpg fa fl Vv Ss h0 n0 v U'.heap L ∧ FrameEnd U o U' L ({ frames := 4, cells := 1, slots := 8, locals := 66 } : Room).cells ({ frames := 4, cells := 1, slots := 8, locals := 66 } : Room).slots) := by
  refine MetFree.of_bodySF (plainFor_of_name pn_9) hisR ?_
  intro p e s m args below meth c s₁ Bd hml0 hP hK
  obtain ⟨rfl, hZ, hh⟩ := hP
  have hx := Bd.exec
  have hby := Bd.bytes
  have hml : c.maxLocals = 9 := hml0
  have hown : s.vm.findClass "com/example/interval/interval/service/SlotOrder" = some m.cls := findClass_of_methodNamed Bd.named
  have hnm := (name_of_methodNamed Bd.named Bd.method).1
  have X0 : Stand p l e ({ frames := 4, cells := 1, slots := 8, locals := 66 } : Room) s m #[(.ref r0), (.int (oI r))] below meth c s₁ [] 0 0 := Stand.of_body Bd
  have e0 : s₁.heap = h0 := by rw [← hh, Bd.state]; rfl
  have N0 := Fr.nil n0
  have ZZ := Z0
  have KK : Keep h0 h0 [r0, ra, sz] := Keep.refl h0 _
  show Go p e below s (QrmA0 Z r0 r ra sz tb pg pa fpg fa fl Vv Ss h0 n0) 1 8 (s₁.setTop (entryFrame m #[(.ref r0), (.int (oI r))] 9))
  generalize hQQ : (QrmA0 Z r0 r ra sz tb pg pa fpg fa fl Vv Ss h0 n0) = QQ
  refine gs (fun t k => castTop (g' := (mkF m 0 #[rv r0, iv (oI r), .unset, .unset, .unset, .unset, .unset, .unset, .unset] [])) (by first | (simp [entryFrame, mkF, argsToLocals, Value.category, maxLocals]; done) | rfl) k) ?_
  show Go p e below s QQ 1 8 (s₁.setTop (mkF m 0 #[rv r0, iv (oI r), .unset, .unset, .unset, .unset, .unset, .unset, .unset] []))
  refine gs (fun t => XS.aloadN X0.here hx rfl (hb hby d9_0) rfl rfl) ?_
  obtain ⟨T53, X53, e53, st53⟩ := getF X0 hx hZ hown (host := "") (Or.inl (hw _ (List.mem_of_getElem? (i := 44) rfl))) Via.refl e0 F_table_r0 (g := (mkF m 1 #[rv r0, iv (oI r), .unset, .unset, .unset, .unset, .unset, .unset, .unset] [(.ref r0)])) rfl rfl (hb hby d9_1)
  refine gs st53 ?_
  show Go p e below s QQ 1 8 (T53.setTop (mkF m 4 #[rv r0, iv (oI r), .unset, .unset, .unset, .unset, .unset, .unset, .unset] [(.ref tb)]))
  refine gs (fun t => XS.iloadN X53.here hx rfl (hb hby d9_4) rfl) ?_
  refine gs (fun t => XS.aloadN X53.here hx rfl (hb hby d9_5) rfl rfl) ?_
  obtain ⟨T54, X54, e54, st54⟩ := getF X53 hx hZ hown (host := "") (Or.inl (hw _ (List.mem_of_getElem? (i := 46) rfl))) Via.refl e53 F_field_r0 (g := (mkF m 6 #[rv r0, iv (oI r), .unset, .unset, .unset, .unset, .unset, .unset, .unset] [(.ref r0), (.int (oI r)), (.ref tb)])) rfl rfl (hb hby d9_6)
  refine gs st54 ?_
  show Go p e below s QQ 1 8 (T54.setTop (mkF m 9 #[rv r0, iv (oI r), .unset, .unset, .unset, .unset, .unset, .unset, .unset] [(.int (oI fl)), (.int (oI r)), (.ref tb)]))
  show Go p e below s QQ 1 8 (T54.setTop (mkF m 9 #[rv r0, iv (oI r), .unset, .unset, .unset, .unset, .unset, .unset, .unset] [(.int (oI fl)), (.int (oI r)), (.ref tb)]))
  obtain ⟨cq55, kq55, q55a, q55b, q55c⟩ := isOf hZ e54 E_tb
  obtain ⟨_, _, ⟨T55, L55, k55, n55⟩, -, X55, ⟨Lc55, hQ55, l55, y55, z55⟩, st55⟩ := X54.virtualBack hx (y := (⟨"com/example/interval/interval/service/SlotTable", "get", "(II)J"⟩ : MethodName)) (z := (⟨"com/example/interval/interval/service/SlotTable", "get", "(II)J"⟩ : MethodName)) hown (mvT hZ (hw _ (List.mem_of_getElem? (i := 65) rfl))) (mvT hZ (hw _ (List.mem_of_getElem? (i := 66) rfl))) (notFace_of_selects (args := #[]) (mvT hZ (hw _ (List.mem_of_getElem? (i := 68) rfl)))) (mvT hZ (hw _ (List.mem_of_getElem? (i := 68) rfl))) (mvT hZ (hw _ (List.mem_of_getElem? (i := 67) rfl))) (by decide) (backOf (W := 0) (rm10 l Z a0 hw [] tb r fl pg pa fpg fa (Vv r) h0 n0 ZZ F_pages_tb V_pg hpg V_pa (by omega) (by omega) (htab r hr).1) hZ (hw _ (List.mem_of_getElem? (i := 69) rfl)) (hw _ (List.mem_of_getElem? (i := 3) rfl)) (by decide) (by decide)) q55a q55c (g := (mkF m 9 #[rv r0, iv (oI r), .unset, .unset, .unset, .unset, .unset, .unset, .unset] [(.int (oI fl)), (.int (oI r)), (.ref tb)])) rfl (by rw [hml]; rfl) (Steps.refl _) (argsL := [(.int (oI r)), (.int (oI fl))]) (rest := []) (lenOf pd_2 rfl) rfl (by show 2 * 0 + _ ≤ _; exact Nat.le_of_eq rfl) (hb hby d9_9) (fun _ _ => ⟨rfl, e54, (by decide : 0 + 0 ≤ _), (by decide : 0 + 0 ≤ _)⟩)
  dsimp only [Pt.U, Pt.locs, Pt.cells, Pt.slots] at X55 l55 y55 z55 st55 hQ55
  subst l55 y55 z55
  obtain ⟨rfl, N55q, e55⟩ := hQ55
  replace N0 := Fr.app N0 N55q
  refine gt st55 ?_
  show Go p e below s QQ 1 8 (T55.setTop (mkF m 12 #[rv r0, iv (oI r), .unset, .unset, .unset, .unset, .unset, .unset, .unset] [(.long (Vv r))]))
  refine gs (fun t => XS.lstoreN X55.here hx rfl (hb hby d9_12) rfl (l' := #[rv r0, iv (oI r), jv (Vv r), .second, .unset, .unset, .unset, .unset, .unset]) rfl) ?_
  refine gs (fun t => XS.aloadN X55.here hx rfl (hb hby d9_13) rfl rfl) ?_
  obtain ⟨T56, X56, e56, st56⟩ := getF X55 hx hZ hown (host := "") (Or.inl (hw _ (List.mem_of_getElem? (i := 44) rfl))) Via.refl e55 F_table_r0 (g := (mkF m 14 #[rv r0, iv (oI r), jv (Vv r), .second, .unset, .unset, .unset, .unset, .unset] [(.ref r0)])) rfl rfl (hb hby d9_14)
  refine gs st56 ?_
  show Go p e below s QQ 1 8 (T56.setTop (mkF m 17 #[rv r0, iv (oI r), jv (Vv r), .second, .unset, .unset, .unset, .unset, .unset] [(.ref tb)]))
  refine gs (fun t => XS.iloadN X56.here hx rfl (hb hby d9_17) rfl) ?_
  refine gs (fun t => XS.iconst X56.here hx rfl (hb hby d9_18)) ?_
  show Go p e below s QQ 1 8 (T56.setTop (mkF m 19 #[rv r0, iv (oI r), jv (Vv r), .second, .unset, .unset, .unset, .unset, .unset] [(.int (oI 0)), (.int (oI r)), (.ref tb)]))
  obtain ⟨cq57, kq57, q57a, q57b, q57c⟩ := isOf hZ e56 E_tb
  obtain ⟨_, _, ⟨T57, L57, k57, n57⟩, -, X57, ⟨Lc57, hQ57, l57, y57, z57⟩, st57⟩ := X56.virtualBack hx (y := (⟨"com/example/interval/interval/service/SlotTable", "get", "(II)J"⟩ : MethodName)) (z := (⟨"com/example/interval/interval/service/SlotTable", "get", "(II)J"⟩ : MethodName)) hown (mvT hZ (hw _ (List.mem_of_getElem? (i := 65) rfl))) (mvT hZ (hw _ (List.mem_of_getElem? (i := 66) rfl))) (notFace_of_selects (args := #[]) (mvT hZ (hw _ (List.mem_of_getElem? (i := 68) rfl)))) (mvT hZ (hw _ (List.mem_of_getElem? (i := 68) rfl))) (mvT hZ (hw _ (List.mem_of_getElem? (i := 67) rfl))) (by decide) (backOf (W := 0) (rm10 l Z a0 hw [] tb r 0 pg pa fpg fa (Ss r) h0 n0 ZZ F_pages_tb V_pg hpg V_pa (by omega) (by omega) (htab r hr).2) hZ (hw _ (List.mem_of_getElem? (i := 69) rfl)) (hw _ (List.mem_of_getElem? (i := 3) rfl)) (by decide) (by decide)) q57a q57c (g := (mkF m 19 #[rv r0, iv (oI r), jv (Vv r), .second, .unset, .unset, .unset, .unset, .unset] [(.int (oI 0)), (.int (oI r)), (.ref tb)])) rfl (by rw [hml]; rfl) (Steps.refl _) (argsL := [(.int (oI r)), (.int (oI 0))]) (rest := []) (lenOf pd_2 rfl) rfl (by show 2 * 0 + _ ≤ _; exact Nat.le_of_eq rfl) (hb hby d9_19) (fun _ _ => ⟨rfl, e56, (by decide : 0 + 0 ≤ _), (by decide : 0 + 0 ≤ _)⟩)
  dsimp only [Pt.U, Pt.locs, Pt.cells, Pt.slots] at X57 l57 y57 z57 st57 hQ57
  subst l57 y57 z57
  obtain ⟨rfl, N57q, e57⟩ := hQ57
  replace N0 := Fr.app N0 N57q
  refine gt st57 ?_
  show Go p e below s QQ 1 8 (T57.setTop (mkF m 22 #[rv r0, iv (oI r), jv (Vv r), .second, .unset, .unset, .unset, .unset, .unset] [(.long (Ss r))]))
  refine gs (fun t => XS.lstore X57.here hx rfl (hb hby d9_22) rfl (l' := #[rv r0, iv (oI r), jv (Vv r), .second, jv (Ss r), .second, .unset, .unset, .unset]) rfl) ?_
  refine gs (fun t => XS.aloadN X57.here hx rfl (hb hby d9_24) rfl rfl) ?_
  obtain ⟨T58, X58, e58, st58⟩ := getF X57 hx hZ hown (host := "") (Or.inl (hw _ (List.mem_of_getElem? (i := 70) rfl))) Via.refl e57 F_runCount_r0 (g := (mkF m 25 #[rv r0, iv (oI r), jv (Vv r), .second, jv (Ss r), .second, .unset, .unset, .unset] [(.ref r0)])) rfl rfl (hb hby d9_25)
  refine gs st58 ?_
  show Go p e below s QQ 1 8 (T58.setTop (mkF m 28 #[rv r0, iv (oI r), jv (Vv r), .second, jv (Ss r), .second, .unset, .unset, .unset] [(.int (0 : Int32))]))
  refine gs (fun t => XS.ifNo X58.here hx rfl (hb hby d9_28) rfl ((if0 _ _).trans (teq (by decide : (0 : Int32) = (0 : Int32))).2)) ?_
  refine gs (fun t => XS.aloadN X58.here hx rfl (hb hby d9_31) rfl rfl) ?_
  refine gs (fun t => XS.iconst X58.here hx rfl (hb hby d9_32)) ?_
  refine gs (fun t => XS.bipush X58.here hx rfl (hb hby d9_33)) ?_
  obtain ⟨T59, h59, k59, X59, e59, E59, A59, Q59, st59⟩ := newPE X58 hx hZ (hw _ (List.mem_of_getElem? (i := 15) rfl)) e58 (g := (mkF m 35 #[rv r0, iv (oI r), jv (Vv r), .second, jv (Ss r), .second, .unset, .unset, .unset] [(.int (8 : Int32)), (.int (0 : Int32)), (.ref r0)])) rfl (hb hby d9_35) rfl (by decide) (cap := 8) (by decide) (by decide) (by decide) (by decide) (ad := "[I") (by decide)
  obtain ⟨b59, g59⟩ : ∃ z, z = h0.size := ⟨_, rfl⟩
  rw [← g59] at A59 st59 Q59
  have ge_b59 : n0 ≤ b59 := by rw [g59]; exact ZZ
  have sz_b59 : h0.size ≤ b59 := by rw [g59]; exact KK.1
  have ne_r0_b59 : r0 ≠ b59 := by rw [g59]; exact Nat.ne_of_lt F_runs_r0.lt
  have ne_ra_b59 : ra ≠ b59 := by rw [g59]; exact Nat.ne_of_lt V_ra.lt
  have ne_sz_b59 : sz ≠ b59 := by rw [g59]; exact Nat.ne_of_lt V_sz.lt
  have ne_tb_b59 : tb ≠ b59 := by rw [g59]; exact Nat.ne_of_lt E_tb.lt
  have ne_pg_b59 : pg ≠ b59 := by rw [g59]; exact Nat.ne_of_lt V_pg.lt
  have ne_pa_b59 : pa ≠ b59 := by rw [g59]; exact Nat.ne_of_lt V_pa.lt
  refine gs st59 ?_
  show Go p e below s QQ 1 8 (T59.setTop (mkF m 37 #[rv r0, iv (oI r), jv (Vv r), .second, jv (Ss r), .second, .unset, .unset, .unset] [(.ref b59), (.int (0 : Int32)), (.ref r0)]))
  replace F_runs_r0 := F_runs_r0.ext E59
  replace F_sizes_r0 := F_sizes_r0.ext E59
  replace F_table_r0 := F_table_r0.ext E59
  replace F_field_r0 := F_field_r0.ext E59
  replace F_size_r0 := F_size_r0.ext E59
  replace F_runCount_r0 := F_runCount_r0.ext E59
  replace E_r0 := E_r0.ext E59
  replace V_ra := V_ra.ext E59
  replace TK_ra := TK_ra.ext E59
  replace V_sz := V_sz.ext E59
  replace E_tb := E_tb.ext E59
  replace F_pages_tb := F_pages_tb.ext E59
  replace V_pg := V_pg.ext E59
  replace V_pa := V_pa.ext E59
  replace ZZ := Nat.le_trans ZZ E59.1
  replace KK := KK.ext E59
  have V_b59 : Arf Z h59 b59 .int 8 (fun _ => .int 0) := Arf.new A59
  have Ex_b59 := Q59
  obtain ⟨rn, hrn⟩ : ∃ z, z = b59 := ⟨_, rfl⟩
  refine gs (fun t => XS.iconst X59.here hx rfl (hb hby d9_37)) ?_
  obtain ⟨cq60, q60, q60'⟩ := E_r0.cell
  obtain ⟨_, _, ⟨T60, L60, k60, n60⟩, -, X60, ⟨Lc60, hQ60, l60, y60, z60⟩, st60⟩ := X59.privateBack hx (y := (⟨"com/example/interval/interval/service/SlotOrder", "insertRun", "(I[II)V"⟩ : MethodName)) hown (mvT hZ (hw _ (List.mem_of_getElem? (i := 72) rfl))) (mvT hZ (hw _ (List.mem_of_getElem? (i := 73) rfl))) (own_selP hown (mvT hZ (hw _ (List.mem_of_getElem? (i := 56) rfl)) (args := #[])) rfl (mvP hZ (hw _ (List.mem_of_getElem? (i := 74) rfl))) (mvT hZ (hw _ (List.mem_of_getElem? (i := 73) rfl))) (by decide)) (Cond.privateMethod_at (mvP hZ (hw _ (List.mem_of_getElem? (i := 74) rfl)) (args := #[]))) (mvT hZ (hw _ (List.mem_of_getElem? (i := 75) rfl))) (by decide) (backOf (W := 0) (rmIr l Z a0 hw [] r0 b59 ra sz tb fl h59 n0 ZZ F_runs_r0 F_sizes_r0 F_table_r0 F_field_r0 F_size_r0 F_runCount_r0 E_r0 V_ra TK_ra V_sz Ex_b59 ge_r0 ge_ra ge_sz ne_r0_ra ne_r0_sz ne_r0_b59 ne_ra_sz) hZ (hw _ (List.mem_of_getElem? (i := 75) rfl)) (hw _ (List.mem_of_getElem? (i := 33) rfl)) (by decide) (by decide)) (g := (mkF m 38 #[rv r0, iv (oI r), jv (Vv r), .second, jv (Ss r), .second, .unset, .unset, .unset] [(.int (0 : Int32)), (.ref b59), (.int (0 : Int32)), (.ref r0)])) rfl (by rw [hml]; rfl) (Steps.refl _) (a := r0) (by rw [e59]; exact q60) q60' (argsL := [(.int (0 : Int32)), (.ref b59), (.int (0 : Int32))]) (rest := []) (lenOf pd_5 rfl) rfl (by show 2 * 0 + _ ≤ _; exact Nat.le_of_eq rfl) (hb hby d9_38) (fun _ _ => ⟨rfl, e59, (by decide : 1 + 0 ≤ _), (by decide : 8 + 0 ≤ _)⟩)
  dsimp only [Pt.U, Pt.locs, Pt.cells, Pt.slots] at X60 l60 y60 z60 st60 hQ60
  subst l60 y60 z60
  obtain ⟨rfl, N60q, K60, Gruns_60, Gsizes_60, Gtable_60, Gfield_60, Gsize_60, GrunCount_60, Ha60, Hs60⟩ := hQ60
  replace N0 := Fr.app N0 N60q
  refine gt st60 ?_
  show Go p e below s QQ 1 8 (T60.setTop (mkF m 41 #[rv r0, iv (oI r), jv (Vv r), .second, jv (Ss r), .second, .unset, .unset, .unset] []))
  replace E_r0 := E_r0.keep K60
  replace TK_ra := TK_ra.keep K60
  replace E_tb := E_tb.keep K60
  replace F_pages_tb := F_pages_tb.keep K60 (ninS (Ne.symm ne_r0_tb) (ninS (Ne.symm ne_ra_tb) (ninS (Ne.symm ne_sz_tb) nin0)))
  replace V_pg := V_pg.keep K60 (ninS (Ne.symm ne_r0_pg) (ninS (Ne.symm ne_ra_pg) (ninS (Ne.symm ne_sz_pg) nin0)))
  replace V_pa := V_pa.keep K60 (ninS (Ne.symm ne_r0_pa) (ninS (Ne.symm ne_ra_pa) (ninS (Ne.symm ne_sz_pa) nin0)))
  replace V_b59 := V_b59.keep K60 (ninS (Ne.symm ne_r0_b59) (ninS (Ne.symm ne_ra_b59) (ninS (Ne.symm ne_sz_b59) nin0)))
  replace Ex_b59 := Ex_b59.keep K60
  replace ZZ := Nat.le_trans ZZ K60.1
  replace KK := KK.trans K60 (allS (Or.inl (by simp)) (allS (Or.inl (by simp)) (allS (Or.inl (by simp)) all0)))
  have F_runs_r0 := Gruns_60
  have F_sizes_r0 := Gsizes_60
  have F_table_r0 := Gtable_60
  have F_field_r0 := Gfield_60
  have F_size_r0 := Gsize_60
  have F_runCount_r0 := GrunCount_60
  have V_ra := Ha60
  have V_sz := Hs60
  have V_rn : Arf Z T60.heap b59 .int 8 (fun i => .int (oI ((fun _ => 0) i))) := V_b59
  have hxs : ∀ i, i < 0 → (fun _ : Nat => 0) i < 3 := fun i hi => absurd hi (Nat.not_lt_zero _)
  have hmono : ∀ i i', i < i' → i' < 0 → own_L Vv Ss ((fun _ : Nat => 0) i') r → own_L Vv Ss ((fun _ : Nat => 0) i) r := fun i i' _ hi => absurd hi (Nat.not_lt_zero _)
  refine gs (fun t => XS.aloadN X60.here hx rfl (hb hby d9_41) rfl rfl) ?_
  refine gs (fun t => XS.lloadN X60.here hx rfl (hb hby d9_42) rfl) ?_
  refine gs (fun t => XS.lload X60.here hx rfl (hb hby d9_43) rfl) ?_
  obtain ⟨cq61, q61, q61'⟩ := E_r0.cell
  obtain ⟨_, _, ⟨T61, L61, k61, n61⟩, -, X61, ⟨Lc61, hQ61, l61, y61, z61⟩, st61⟩ := X60.privateBack hx (y := (⟨"com/example/interval/interval/service/SlotOrder", "runOf", "(JJ)I"⟩ : MethodName)) hown (mvT hZ (hw _ (List.mem_of_getElem? (i := 81) rfl))) (mvT hZ (hw _ (List.mem_of_getElem? (i := 82) rfl))) (own_selP hown (mvT hZ (hw _ (List.mem_of_getElem? (i := 56) rfl)) (args := #[])) rfl (mvP hZ (hw _ (List.mem_of_getElem? (i := 83) rfl))) (mvT hZ (hw _ (List.mem_of_getElem? (i := 82) rfl))) (by decide)) (Cond.privateMethod_at (mvP hZ (hw _ (List.mem_of_getElem? (i := 83) rfl)) (args := #[]))) (mvT hZ (hw _ (List.mem_of_getElem? (i := 84) rfl))) (by decide) (backOf (W := 0) (rmRo l Z a0 hw [] r0 (Vv r) (Ss r) T60.heap n0 ZZ F_runCount_r0) hZ (hw _ (List.mem_of_getElem? (i := 84) rfl)) (hw _ (List.mem_of_getElem? (i := 33) rfl)) (by decide) (by decide)) (g := (mkF m 45 #[rv r0, iv (oI r), jv (Vv r), .second, jv (Ss r), .second, .unset, .unset, .unset] [(.long (Ss r)), (.long (Vv r)), (.ref r0)])) rfl (by rw [hml]; rfl) (Steps.refl _) (a := r0) q61 q61' (argsL := [(.long (Vv r)), (.long (Ss r))]) (rest := []) (lenOf pd_3 rfl) rfl (by show 2 * 0 + _ ≤ _; exact Nat.le_of_eq rfl) (hb hby d9_45) (fun _ _ => ⟨rfl, rfl, (by decide : 1 + 0 ≤ _), (by decide : 8 + 0 ≤ _)⟩)
  dsimp only [Pt.U, Pt.locs, Pt.cells, Pt.slots] at X61 l61 y61 z61 st61 hQ61
  subst l61 y61 z61
  obtain ⟨rfl, N61q, e61⟩ := hQ61
  replace N0 := Fr.app N0 N61q
  refine gt st61 ?_
  show Go p e below s QQ 1 8 (T61.setTop (mkF m 48 #[rv r0, iv (oI r), jv (Vv r), .second, jv (Ss r), .second, .unset, .unset, .unset] [(.int (0 : Int32))]))
  refine gs (fun t => XS.istore X61.here hx rfl (hb hby d9_48) rfl (l' := #[rv r0, iv (oI r), jv (Vv r), .second, jv (Ss r), .second, iv 0, .unset, .unset]) rfl) ?_
  refine gs (fun t => XS.aloadN X61.here hx rfl (hb hby d9_50) rfl rfl) ?_
  refine gs (fun t => XS.iload X61.here hx rfl (hb hby d9_51) rfl) ?_
  refine gs (fun t => XS.lloadN X61.here hx rfl (hb hby d9_53) rfl) ?_
  refine gs (fun t => XS.lload X61.here hx rfl (hb hby d9_54) rfl) ?_
  obtain ⟨cq62, q62, q62'⟩ := E_r0.cell
  obtain ⟨_, _, ⟨T62, L62, k62, n62⟩, -, X62, ⟨Lc62, hQ62, l62, y62, z62⟩, st62⟩ := X61.privateBack hx (y := (⟨"com/example/interval/interval/service/SlotOrder", "indexIn", "(IJJ)I"⟩ : MethodName)) hown (mvT hZ (hw _ (List.mem_of_getElem? (i := 85) rfl))) (mvT hZ (hw _ (List.mem_of_getElem? (i := 86) rfl))) (own_selP hown (mvT hZ (hw _ (List.mem_of_getElem? (i := 56) rfl)) (args := #[])) rfl (mvP hZ (hw _ (List.mem_of_getElem? (i := 87) rfl))) (mvT hZ (hw _ (List.mem_of_getElem? (i := 86) rfl))) (by decide)) (Cond.privateMethod_at (mvP hZ (hw _ (List.mem_of_getElem? (i := 87) rfl)) (args := #[]))) (mvT hZ (hw _ (List.mem_of_getElem? (i := 88) rfl))) (by decide) (backOf (W := 0) (rmIx l Z a0 hw [] r0 r ra sz b59 0 (fun _ => 0) tb pg pa fpg fa fl Vv Ss T60.heap n0 ZZ F_runs_r0 F_sizes_r0 F_table_r0 F_field_r0 E_r0 V_ra V_sz V_rn E_tb F_pages_tb V_pg hpg V_pa htab hfl (by omega) hxs hmono) hZ (hw _ (List.mem_of_getElem? (i := 88) rfl)) (hw _ (List.mem_of_getElem? (i := 33) rfl)) (by decide) (by decide)) (g := (mkF m 56 #[rv r0, iv (oI r), jv (Vv r), .second, jv (Ss r), .second, iv 0, .unset, .unset] [(.long (Ss r)), (.long (Vv r)), (.int (0 : Int32)), (.ref r0)])) rfl (by rw [hml]; rfl) (Steps.refl _) (a := r0) (by rw [e61]; exact q62) q62' (argsL := [(.int (0 : Int32)), (.long (Vv r)), (.long (Ss r))]) (rest := []) (lenOf pd_4 rfl) rfl (by show 2 * 0 + _ ≤ _; exact Nat.le_of_eq rfl) (hb hby d9_56) (fun _ _ => ⟨rfl, e61, (by decide : 1 + 0 ≤ _), (by decide : 8 + 0 ≤ _)⟩)
  dsimp only [Pt.U, Pt.locs, Pt.cells, Pt.slots] at X62 l62 y62 z62 st62 hQ62
  subst l62 y62 z62
  obtain ⟨j62, rfl, N62q, e62, hj62⟩ := hQ62
  replace N0 := Fr.app N0 N62q
  refine gt st62 ?_
  show Go p e below s QQ 1 8 (T62.setTop (mkF m 59 #[rv r0, iv (oI r), jv (Vv r), .second, jv (Ss r), .second, iv 0, .unset, .unset] [(.int (oI j62))]))
  have hjk := hj62.1
  refine gs (fun t => XS.istore X62.here hx rfl (hb hby d9_59) rfl (l' := #[rv r0, iv (oI r), jv (Vv r), .second, jv (Ss r), .second, iv 0, iv (oI j62), .unset]) rfl) ?_
  refine gs (fun t => XS.aloadN X62.here hx rfl (hb hby d9_61) rfl rfl) ?_
  obtain ⟨T63, X63, e63, st63⟩ := getF X62 hx hZ hown (host := "") (Or.inl (hw _ (List.mem_of_getElem? (i := 42) rfl))) Via.refl e62 F_sizes_r0 (g := (mkF m 62 #[rv r0, iv (oI r), jv (Vv r), .second, jv (Ss r), .second, iv 0, iv (oI j62), .unset] [(.ref r0)])) rfl rfl (hb hby d9_62)
  refine gs st63 ?_
  show Go p e below s QQ 1 8 (T63.setTop (mkF m 65 #[rv r0, iv (oI r), jv (Vv r), .second, jv (Ss r), .second, iv 0, iv (oI j62), .unset] [(.ref sz)]))
  refine gs (fun t => XS.iload X63.here hx rfl (hb hby d9_65) rfl) ?_
  refine gs (fun t => ldIf X63 hx hZ e63 V_sz (j := (0 : Int32)) (v := (.int (oI 0))) (by decide) rfl (g := (mkF m 67 #[rv r0, iv (oI r), jv (Vv r), .second, jv (Ss r), .second, iv 0, iv (oI j62), .unset] [(.int (0 : Int32)), (.ref sz)])) rfl rfl (hb hby d9_67) t) ?_
  refine gs (fun t => XS.sipush X63.here hx rfl (hb hby d9_68)) ?_
  refine gs (fun t => XS.icmpYes X63.here hx rfl (pc0 := 71) (pc' := 117) rfl (hb hby d9_71) rfl (feq (fun q => by have q2 := congrArg Int32.toInt q; rw [oI_t (by omega)] at q2; have q3 : (1024 : Int32).toInt = 1024 := rfl; omega : ¬ ((oI 0) = (1024 : Int32)))).2 (by decide) (by decide)) ?_
  refine gs (fun t => XS.aloadN X63.here hx rfl (hb hby d9_117) rfl rfl) ?_
  obtain ⟨T64, X64, e64, st64⟩ := getF X63 hx hZ hown (host := "") (Or.inl (hw _ (List.mem_of_getElem? (i := 42) rfl))) Via.refl e63 F_sizes_r0 (g := (mkF m 118 #[rv r0, iv (oI r), jv (Vv r), .second, jv (Ss r), .second, iv 0, iv (oI j62), .unset] [(.ref r0)])) rfl rfl (hb hby d9_118)
  refine gs st64 ?_
  show Go p e below s QQ 1 8 (T64.setTop (mkF m 121 #[rv r0, iv (oI r), jv (Vv r), .second, jv (Ss r), .second, iv 0, iv (oI j62), .unset] [(.ref sz)]))
  refine gs (fun t => XS.iload X64.here hx rfl (hb hby d9_121) rfl) ?_
  refine gs (fun t => ldIf X64 hx hZ e64 V_sz (j := (0 : Int32)) (v := (.int (oI 0))) (by decide) rfl (g := (mkF m 123 #[rv r0, iv (oI r), jv (Vv r), .second, jv (Ss r), .second, iv 0, iv (oI j62), .unset] [(.int (0 : Int32)), (.ref sz)])) rfl rfl (hb hby d9_123) t) ?_
  refine gs (fun t => XS.sipush X64.here hx rfl (hb hby d9_124)) ?_
  refine gs (fun t => XS.icmpYes X64.here hx rfl (pc0 := 127) (pc' := 165) rfl (hb hby d9_127) rfl (feq (fun q => by have q2 := congrArg Int32.toInt q; rw [oI_t (by omega)] at q2; have q3 : (1024 : Int32).toInt = 1024 := rfl; omega : ¬ ((oI 0) = (1024 : Int32)))).2 (by decide) (by decide)) ?_
  refine gs (fun t => XS.aloadN X64.here hx rfl (hb hby d9_165) rfl rfl) ?_
  obtain ⟨T65, X65, e65, st65⟩ := getF X64 hx hZ hown (host := "") (Or.inl (hw _ (List.mem_of_getElem? (i := 42) rfl))) Via.refl e64 F_sizes_r0 (g := (mkF m 166 #[rv r0, iv (oI r), jv (Vv r), .second, jv (Ss r), .second, iv 0, iv (oI j62), .unset] [(.ref r0)])) rfl rfl (hb hby d9_166)
  refine gs st65 ?_
  show Go p e below s QQ 1 8 (T65.setTop (mkF m 169 #[rv r0, iv (oI r), jv (Vv r), .second, jv (Ss r), .second, iv 0, iv (oI j62), .unset] [(.ref sz)]))
  refine gs (fun t => XS.iload X65.here hx rfl (hb hby d9_169) rfl) ?_
  refine gs (fun t => ldIf X65 hx hZ e65 V_sz (j := (0 : Int32)) (v := (.int (oI 0))) (by decide) rfl (g := (mkF m 171 #[rv r0, iv (oI r), jv (Vv r), .second, jv (Ss r), .second, iv 0, iv (oI j62), .unset] [(.int (0 : Int32)), (.ref sz)])) rfl rfl (hb hby d9_171) t) ?_
  refine gs (fun t => XS.aloadN X65.here hx rfl (hb hby d9_172) rfl rfl) ?_
  obtain ⟨T66, X66, e66, st66⟩ := getF X65 hx hZ hown (host := "") (Or.inl (hw _ (List.mem_of_getElem? (i := 40) rfl))) Via.refl e65 F_runs_r0 (g := (mkF m 173 #[rv r0, iv (oI r), jv (Vv r), .second, jv (Ss r), .second, iv 0, iv (oI j62), .unset] [(.ref r0), (.int (oI 0))])) rfl rfl (hb hby d9_173)
  refine gs st66 ?_
  show Go p e below s QQ 1 8 (T66.setTop (mkF m 176 #[rv r0, iv (oI r), jv (Vv r), .second, jv (Ss r), .second, iv 0, iv (oI j62), .unset] [(.ref ra), (.int (oI 0))]))
  refine gs (fun t => XS.iload X66.here hx rfl (hb hby d9_176) rfl) ?_
  refine gs (fun t => ldRf X66 hx hZ e66 V_ra rfl (j := (0 : Int32)) (v := (.ref b59)) (by decide) rfl (g := (mkF m 178 #[rv r0, iv (oI r), jv (Vv r), .second, jv (Ss r), .second, iv 0, iv (oI j62), .unset] [(.int (0 : Int32)), (.ref ra), (.int (oI 0))])) rfl rfl (hb hby d9_178) t) ?_
  refine gs (fun t => lenf X66 hx hZ e66 V_rn (z := (8 : Int32)) rfl (g := (mkF m 179 #[rv r0, iv (oI r), jv (Vv r), .second, jv (Ss r), .second, iv 0, iv (oI j62), .unset] [(.ref b59), (.int (oI 0))])) rfl rfl (hb hby d9_179) t) ?_
  refine gs (fun t => XS.icmpYes X66.here hx rfl (pc0 := 180) (pc' := 215) rfl (hb hby d9_180) rfl (feq (fun q => by have q2 := congrArg Int32.toInt q; rw [oI_t (by omega)] at q2; have q3 : (8 : Int32).toInt = 8 := rfl; omega : ¬ ((oI 0) = (8 : Int32)))).2 (by decide) (by decide)) ?_
  refine gs (fun t => XS.aloadN X66.here hx rfl (hb hby d9_215) rfl rfl) ?_
  obtain ⟨T67, X67, e67, st67⟩ := getF X66 hx hZ hown (host := "") (Or.inl (hw _ (List.mem_of_getElem? (i := 40) rfl))) Via.refl e66 F_runs_r0 (g := (mkF m 216 #[rv r0, iv (oI r), jv (Vv r), .second, jv (Ss r), .second, iv 0, iv (oI j62), .unset] [(.ref r0)])) rfl rfl (hb hby d9_216)
  refine gs st67 ?_
  show Go p e below s QQ 1 8 (T67.setTop (mkF m 219 #[rv r0, iv (oI r), jv (Vv r), .second, jv (Ss r), .second, iv 0, iv (oI j62), .unset] [(.ref ra)]))
  refine gs (fun t => XS.iload X67.here hx rfl (hb hby d9_219) rfl) ?_
  refine gs (fun t => ldRf X67 hx hZ e67 V_ra rfl (j := (0 : Int32)) (v := (.ref b59)) (by decide) rfl (g := (mkF m 221 #[rv r0, iv (oI r), jv (Vv r), .second, jv (Ss r), .second, iv 0, iv (oI j62), .unset] [(.int (0 : Int32)), (.ref ra)])) rfl rfl (hb hby d9_221) t) ?_
  refine gs (fun t => XS.astore X67.here hx rfl (hb hby d9_222) rfl rfl (l' := #[rv r0, iv (oI r), jv (Vv r), .second, jv (Ss r), .second, iv 0, iv (oI j62), rv b59]) rfl) ?_
  refine gs (fun t => XS.aload X67.here hx rfl (hb hby d9_224) rfl rfl) ?_
  refine gs (fun t => XS.iload X67.here hx rfl (hb hby d9_226) rfl) ?_
  refine gs (fun t => XS.aload X67.here hx rfl (hb hby d9_228) rfl rfl) ?_
  show Go p e below s QQ 1 8 (T67.setTop (mkF m 230 #[rv r0, iv (oI r), jv (Vv r), .second, jv (Ss r), .second, iv 0, iv (oI j62), rv b59] [(.ref b59), (.int (oI j62)), (.ref b59)]))
  refine gs (fun t => XS.iload X67.here hx rfl (hb hby d9_230) rfl) ?_
  refine gs (fun t => XS.iconst X67.here hx rfl (hb hby d9_232)) ?_
  refine gs (fun t => XS.iadd X67.here hx rfl (hb hby d9_233) rfl) ?_
  show Go p e below s QQ 1 8 (T67.setTop (mkF m 234 #[rv r0, iv (oI r), jv (Vv r), .second, jv (Ss r), .second, iv 0, iv (oI j62), rv b59] [(.int ((oI j62) + (1 : Int32))), (.ref b59), (.int (oI j62)), (.ref b59)]))
  rw [show ((oI j62) + (1 : Int32)) = (oI (j62 + 1)) from oI_add (a := j62) (b := 1) (by omega)]
  show Go p e below s QQ 1 8 (T67.setTop (mkF m 234 #[rv r0, iv (oI r), jv (Vv r), .second, jv (Ss r), .second, iv 0, iv (oI j62), rv b59] [(.int (oI (j62 + 1))), (.ref b59), (.int (oI j62)), (.ref b59)]))
  refine gs (fun t => XS.aloadN X67.here hx rfl (hb hby d9_234) rfl rfl) ?_
  obtain ⟨T68, X68, e68, st68⟩ := getF X67 hx hZ hown (host := "") (Or.inl (hw _ (List.mem_of_getElem? (i := 42) rfl))) Via.refl e67 F_sizes_r0 (g := (mkF m 235 #[rv r0, iv (oI r), jv (Vv r), .second, jv (Ss r), .second, iv 0, iv (oI j62), rv b59] [(.ref r0), (.int (oI (j62 + 1))), (.ref b59), (.int (oI j62)), (.ref b59)])) rfl rfl (hb hby d9_235)
  refine gs st68 ?_
  show Go p e below s QQ 1 8 (T68.setTop (mkF m 238 #[rv r0, iv (oI r), jv (Vv r), .second, jv (Ss r), .second, iv 0, iv (oI j62), rv b59] [(.ref sz), (.int (oI (j62 + 1))), (.ref b59), (.int (oI j62)), (.ref b59)]))
  refine gs (fun t => XS.iload X68.here hx rfl (hb hby d9_238) rfl) ?_
  refine gs (fun t => ldIf X68 hx hZ e68 V_sz (j := (0 : Int32)) (v := (.int (oI 0))) (by decide) rfl (g := (mkF m 240 #[rv r0, iv (oI r), jv (Vv r), .second, jv (Ss r), .second, iv 0, iv (oI j62), rv b59] [(.int (0 : Int32)), (.ref sz), (.int (oI (j62 + 1))), (.ref b59), (.int (oI j62)), (.ref b59)])) rfl rfl (hb hby d9_240) t) ?_
  refine gs (fun t => XS.iload X68.here hx rfl (hb hby d9_241) rfl) ?_
  refine gs (fun t => XS.isub X68.here hx rfl (hb hby d9_243) rfl) ?_
  show Go p e below s QQ 1 8 (T68.setTop (mkF m 244 #[rv r0, iv (oI r), jv (Vv r), .second, jv (Ss r), .second, iv 0, iv (oI j62), rv b59] [(.int ((oI 0) - (oI j62))), (.int (oI (j62 + 1))), (.ref b59), (.int (oI j62)), (.ref b59)]))
  rw [show ((oI 0) - (oI j62)) = (oI (0 - j62)) from oI_sub hjk (by omega)]
  show Go p e below s QQ 1 8 (T68.setTop (mkF m 244 #[rv r0, iv (oI r), jv (Vv r), .second, jv (Ss r), .second, iv 0, iv (oI j62), rv b59] [(.int (oI (0 - j62))), (.int (oI (j62 + 1))), (.ref b59), (.int (oI j62)), (.ref b59)]))
  obtain ⟨T69, h69, L69, X69, e69, Nn69, K69, V69, st69⟩ := own_cp X68 hx hZ hown (hw _ (List.mem_of_getElem? (i := 76) rfl)) (hw _ (List.mem_of_getElem? (i := 79) rfl)) (hw _ (List.mem_of_getElem? (i := 77) rfl)) (hw _ (List.mem_of_getElem? (i := 78) rfl)) e68 V_rn (fun _ _ => rfl) (S := j62) (D := (j62 + 1)) (K := (0 - j62)) (Or.inl rfl) (oI_nn (by omega)) (oI_nn (by omega)) (oI_nn (by omega)) (oI_c (by omega)) (oI_c (by omega)) (oI_c (by omega)) (by omega) (by omega) (f' := (fun i => .int (oI (own_mv (fun _ => 0) j62 (j62 + 1) (0 - j62) i)))) (fun i hi => own_mvf _ _ _ _ i) N0 ge_b59 (g := (mkF m 244 #[rv r0, iv (oI r), jv (Vv r), .second, jv (Ss r), .second, iv 0, iv (oI j62), rv b59] [(.int (oI (0 - j62))), (.int (oI (j62 + 1))), (.ref b59), (.int (oI j62)), (.ref b59)])) rfl (by rw [hml]; rfl) rfl (hb hby d9_244) (by decide) (W := 0) (by show 2 * 0 + _ ≤ _; exact Nat.le_of_eq rfl) (by decide)
  replace N0 := Nn69
  refine gs st69 ?_
  show Go p e below s QQ 1 8 (T69.setTop (mkF m 247 #[rv r0, iv (oI r), jv (Vv r), .second, jv (Ss r), .second, iv 0, iv (oI j62), rv b59] []))
  replace E_r0 := E_r0.keep K69
  replace TK_ra := TK_ra.keep K69
  replace E_tb := E_tb.keep K69
  replace F_pages_tb := F_pages_tb.keep K69 (ninS ne_tb_b59 nin0)
  replace V_pg := V_pg.keep K69 (ninS ne_pg_b59 nin0)
  replace V_pa := V_pa.keep K69 (ninS ne_pa_b59 nin0)
  replace Ex_b59 := Ex_b59.keep K69
  replace F_runs_r0 := F_runs_r0.keep K69 (ninS ne_r0_b59 nin0)
  replace F_sizes_r0 := F_sizes_r0.keep K69 (ninS ne_r0_b59 nin0)
  replace F_table_r0 := F_table_r0.keep K69 (ninS ne_r0_b59 nin0)
  replace F_field_r0 := F_field_r0.keep K69 (ninS ne_r0_b59 nin0)
  replace F_size_r0 := F_size_r0.keep K69 (ninS ne_r0_b59 nin0)
  replace F_runCount_r0 := F_runCount_r0.keep K69 (ninS ne_r0_b59 nin0)
  replace V_ra := V_ra.keep K69 (ninS ne_ra_b59 nin0)
  replace V_sz := V_sz.keep K69 (ninS ne_sz_b59 nin0)
  replace ZZ := Nat.le_trans ZZ K69.1
  replace KK := KK.trans K69 (allS (Or.inr sz_b59) all0)
  have V_rn := V69
  refine gs (fun t => XS.aload X69.here hx rfl (hb hby d9_247) rfl rfl) ?_
  refine gs (fun t => XS.iload X69.here hx rfl (hb hby d9_249) rfl) ?_
  refine gs (fun t => XS.iloadN X69.here hx rfl (hb hby d9_251) rfl) ?_
  obtain ⟨T70, h70, X70, e70, W70, V70, st70⟩ := stIf X69 hx hZ e69 V_rn (j := (oI j62)) (own_oin (by omega) (by decide)) (g := (mkF m 252 #[rv r0, iv (oI r), jv (Vv r), .second, jv (Ss r), .second, iv 0, iv (oI j62), rv b59] [(.int (oI r)), (.int (oI j62)), (.ref b59)])) rfl rfl (hb hby d9_252)
  replace N0 := Fr.snoc X70 N0 ge_b59
  refine gs st70 ?_
  show Go p e below s QQ 1 8 (T70.setTop (mkF m 253 #[rv r0, iv (oI r), jv (Vv r), .second, jv (Ss r), .second, iv 0, iv (oI j62), rv b59] []))
  replace E_r0 := E_r0.wr W70
  replace TK_ra := TK_ra.wr W70
  replace E_tb := E_tb.wr W70
  replace F_pages_tb := F_pages_tb.other W70 (Or.inl ne_tb_b59)
  replace V_pg := V_pg.other W70 ne_pg_b59
  replace V_pa := V_pa.other W70 ne_pa_b59
  replace Ex_b59 := Ex_b59.wr W70
  replace F_runs_r0 := F_runs_r0.other W70 (Or.inl ne_r0_b59)
  replace F_sizes_r0 := F_sizes_r0.other W70 (Or.inl ne_r0_b59)
  replace F_table_r0 := F_table_r0.other W70 (Or.inl ne_r0_b59)
  replace F_field_r0 := F_field_r0.other W70 (Or.inl ne_r0_b59)
  replace F_size_r0 := F_size_r0.other W70 (Or.inl ne_r0_b59)
  replace F_runCount_r0 := F_runCount_r0.other W70 (Or.inl ne_r0_b59)
  replace V_ra := V_ra.other W70 ne_ra_b59
  replace V_sz := V_sz.other W70 ne_sz_b59
  replace ZZ : n0 ≤ h70.size := by rw [W70.size]; exact ZZ
  replace KK := KK.wr W70 (Or.inr sz_b59)
  replace V_rn : Arf Z h70 b59 .int 8 (updv (fun i => .int (oI (own_mv (fun _ => 0) j62 (j62 + 1) (0 - j62) i))) (oI j62).toNatClampNeg (.int (oI r))) := V70
  replace V_rn : Arf Z h70 b59 .int 8 (fun i => .int (oI (own_ins (fun _ => 0) j62 r 0 i))) := V_rn.congr (fun i hi => by rw [oI_c (by omega)]; exact own_insf _ _ _ _ i)
  refine gs (fun t => XS.aloadN X70.here hx rfl (hb hby d9_253) rfl rfl) ?_
  obtain ⟨T71, X71, e71, st71⟩ := getF X70 hx hZ hown (host := "") (Or.inl (hw _ (List.mem_of_getElem? (i := 42) rfl))) Via.refl e70 F_sizes_r0 (g := (mkF m 254 #[rv r0, iv (oI r), jv (Vv r), .second, jv (Ss r), .second, iv 0, iv (oI j62), rv b59] [(.ref r0)])) rfl rfl (hb hby d9_254)
  refine gs st71 ?_
  show Go p e below s QQ 1 8 (T71.setTop (mkF m 257 #[rv r0, iv (oI r), jv (Vv r), .second, jv (Ss r), .second, iv 0, iv (oI j62), rv b59] [(.ref sz)]))
  refine gs (fun t => XS.iload X71.here hx rfl (hb hby d9_257) rfl) ?_
  refine gs (fun t => XT.dup2 X71.here hx rfl (hb hby d9_259) rfl rfl rfl) ?_
  refine gs (fun t => ldIf X71 hx hZ e71 V_sz (j := (0 : Int32)) (v := (.int (oI 0))) (by decide) rfl (g := (mkF m 260 #[rv r0, iv (oI r), jv (Vv r), .second, jv (Ss r), .second, iv 0, iv (oI j62), rv b59] [(.int (0 : Int32)), (.ref sz), (.int (0 : Int32)), (.ref sz)])) rfl rfl (hb hby d9_260) t) ?_
  refine gs (fun t => XS.iconst X71.here hx rfl (hb hby d9_261)) ?_
  refine gs (fun t => XS.iadd X71.here hx rfl (hb hby d9_262) rfl) ?_
  show Go p e below s QQ 1 8 (T71.setTop (mkF m 263 #[rv r0, iv (oI r), jv (Vv r), .second, jv (Ss r), .second, iv 0, iv (oI j62), rv b59] [(.int ((oI 0) + (1 : Int32))), (.int (0 : Int32)), (.ref sz)]))
  rw [show ((oI 0) + (1 : Int32)) = (oI (0 + 1)) from oI_add (a := 0) (b := 1) (by omega)]
  show Go p e below s QQ 1 8 (T71.setTop (mkF m 263 #[rv r0, iv (oI r), jv (Vv r), .second, jv (Ss r), .second, iv 0, iv (oI j62), rv b59] [(.int (oI (0 + 1))), (.int (0 : Int32)), (.ref sz)]))
  obtain ⟨T72, h72, X72, e72, W72, V72, st72⟩ := stIf X71 hx hZ e71 V_sz (j := (0 : Int32)) (by decide) (g := (mkF m 263 #[rv r0, iv (oI r), jv (Vv r), .second, jv (Ss r), .second, iv 0, iv (oI j62), rv b59] [(.int (oI (0 + 1))), (.int (0 : Int32)), (.ref sz)])) rfl rfl (hb hby d9_263)
  replace N0 := Fr.snoc X72 N0 ge_sz
  refine gs st72 ?_
  show Go p e below s QQ 1 8 (T72.setTop (mkF m 264 #[rv r0, iv (oI r), jv (Vv r), .second, jv (Ss r), .second, iv 0, iv (oI j62), rv b59] []))
  replace E_r0 := E_r0.wr W72
  replace TK_ra := TK_ra.wr W72
  replace E_tb := E_tb.wr W72
  replace F_pages_tb := F_pages_tb.other W72 (Or.inl (Ne.symm ne_sz_tb))
  replace V_pg := V_pg.other W72 (Ne.symm ne_sz_pg)
  replace V_pa := V_pa.other W72 (Ne.symm ne_sz_pa)
  replace Ex_b59 := Ex_b59.wr W72
  replace F_runs_r0 := F_runs_r0.other W72 (Or.inl ne_r0_sz)
  replace F_sizes_r0 := F_sizes_r0.other W72 (Or.inl ne_r0_sz)
  replace F_table_r0 := F_table_r0.other W72 (Or.inl ne_r0_sz)
  replace F_field_r0 := F_field_r0.other W72 (Or.inl ne_r0_sz)
  replace F_size_r0 := F_size_r0.other W72 (Or.inl ne_r0_sz)
  replace F_runCount_r0 := F_runCount_r0.other W72 (Or.inl ne_r0_sz)
  replace V_ra := V_ra.other W72 ne_ra_sz
  replace V_rn := V_rn.other W72 (Ne.symm ne_sz_b59)
  replace ZZ : n0 ≤ h72.size := by rw [W72.size]; exact ZZ
  replace KK := KK.wr W72 (Or.inl (by simp))
  replace V_sz : Arf Z h72 sz .int 1 (updv (fun _ => .int (oI 0)) 0 (.int (oI (0 + 1)))) := V72
  replace V_sz : Arf Z h72 sz .int 1 (fun _ => .int (oI (0 + 1))) := V_sz.congr (fun i hi => by have q : i = 0 := (by omega); subst q; rfl)
  refine gs (fun t => XS.aloadN X72.here hx rfl (hb hby d9_264) rfl rfl) ?_
  refine gs (fun t => XS.dup X72.here hx rfl (hb hby d9_265) rfl rfl) ?_
  obtain ⟨T73, X73, e73, st73⟩ := getF X72 hx hZ hown (host := "") (Or.inl (hw _ (List.mem_of_getElem? (i := 58) rfl))) Via.refl e72 F_size_r0 (g := (mkF m 266 #[rv r0, iv (oI r), jv (Vv r), .second, jv (Ss r), .second, iv 0, iv (oI j62), rv b59] [(.ref r0), (.ref r0)])) rfl rfl (hb hby d9_266)
  refine gs st73 ?_
  show Go p e below s QQ 1 8 (T73.setTop (mkF m 269 #[rv r0, iv (oI r), jv (Vv r), .second, jv (Ss r), .second, iv 0, iv (oI j62), rv b59] [(.int (oI 0)), (.ref r0)]))
  refine gs (fun t => XS.iconst X73.here hx rfl (hb hby d9_269)) ?_
  refine gs (fun t => XS.iadd X73.here hx rfl (hb hby d9_270) rfl) ?_
  show Go p e below s QQ 1 8 (T73.setTop (mkF m 271 #[rv r0, iv (oI r), jv (Vv r), .second, jv (Ss r), .second, iv 0, iv (oI j62), rv b59] [(.int ((oI 0) + (1 : Int32))), (.ref r0)]))
  rw [show ((oI 0) + (1 : Int32)) = (oI (0 + 1)) from oI_add (a := 0) (b := 1) (by omega)]
  show Go p e below s QQ 1 8 (T73.setTop (mkF m 271 #[rv r0, iv (oI r), jv (Vv r), .second, jv (Ss r), .second, iv 0, iv (oI j62), rv b59] [(.int (oI (0 + 1))), (.ref r0)]))
  obtain ⟨T74, h74, X74, e74, W74, st74⟩ := putF X73 hx hZ hown (host := "") (Or.inl (hw _ (List.mem_of_getElem? (i := 58) rfl))) Via.refl e73 F_size_r0 E_r0 (Or.inl (hw _ (List.mem_of_getElem? (i := 59) rfl))) (hw _ (List.mem_of_getElem? (i := 32) rfl)) (ty := .int) (by decide) rfl rfl (g := (mkF m 271 #[rv r0, iv (oI r), jv (Vv r), .second, jv (Ss r), .second, iv 0, iv (oI j62), rv b59] [(.int (oI (0 + 1))), (.ref r0)])) rfl rfl (hb hby d9_271)
  replace N0 := Fr.snoc X74 N0 ge_r0
  refine gs st74 ?_
  show Go p e below s QQ 1 8 (T74.setTop (mkF m 274 #[rv r0, iv (oI r), jv (Vv r), .second, jv (Ss r), .second, iv 0, iv (oI j62), rv b59] []))
  replace E_r0 := E_r0.wr W74
  replace TK_ra := TK_ra.wr W74
  replace E_tb := E_tb.wr W74
  replace F_pages_tb := F_pages_tb.other W74 (Or.inl (Ne.symm ne_r0_tb))
  replace V_pg := V_pg.other W74 (Ne.symm ne_r0_pg)
  replace V_pa := V_pa.other W74 (Ne.symm ne_r0_pa)
  replace Ex_b59 := Ex_b59.wr W74
  replace F_runs_r0 := F_runs_r0.other W74 (Or.inr (slot_ne (Or.inl (hw _ (List.mem_of_getElem? (i := 41) rfl))) (Or.inl (hw _ (List.mem_of_getElem? (i := 59) rfl))) (by decide) (t := (.array (.array .int))) (t' := .int) (by decide) (by decide)))
  replace F_sizes_r0 := F_sizes_r0.other W74 (Or.inr (slot_ne (Or.inl (hw _ (List.mem_of_getElem? (i := 43) rfl))) (Or.inl (hw _ (List.mem_of_getElem? (i := 59) rfl))) (by decide) (t := (.array .int)) (t' := .int) (by decide) (by decide)))
  replace F_table_r0 := F_table_r0.other W74 (Or.inr (slot_ne (Or.inr (hw _ (List.mem_of_getElem? (i := 45) rfl))) (Or.inl (hw _ (List.mem_of_getElem? (i := 59) rfl))) (by decide) (t := (.object "com/example/interval/interval/service/SlotTable")) (t' := .int) (by decide) (by decide)))
  replace F_field_r0 := F_field_r0.other W74 (Or.inr (slot_ne (Or.inr (hw _ (List.mem_of_getElem? (i := 47) rfl))) (Or.inl (hw _ (List.mem_of_getElem? (i := 59) rfl))) (by decide) (t := .int) (t' := .int) (by decide) (by decide)))
  replace F_size_r0 := F_size_r0.same W74
  replace F_runCount_r0 := F_runCount_r0.other W74 (Or.inr (slot_ne (Or.inl (hw _ (List.mem_of_getElem? (i := 71) rfl))) (Or.inl (hw _ (List.mem_of_getElem? (i := 59) rfl))) (by decide) (t := .int) (t' := .int) (by decide) (by decide)))
  replace V_ra := V_ra.other W74 (Ne.symm ne_r0_ra)
  replace V_sz := V_sz.other W74 (Ne.symm ne_r0_sz)
  replace V_rn := V_rn.other W74 (Ne.symm ne_r0_b59)
  replace ZZ : n0 ≤ h74.size := by rw [W74.size]; exact ZZ
  replace KK := KK.wr W74 (Or.inl (by simp))
  exact goV X74 hx Bd.notSynchronized Bd.returns (hb hby d9_274) (by rw [← hQQ, e74]; exact ⟨b59, j62, rfl, N0, sz_b59, KK, F_runs_r0, F_sizes_r0, F_table_r0, F_field_r0, F_size_r0, F_runCount_r0, V_ra, V_sz, V_rn, hj62⟩) (by decide) (by decide)
def QrmAN (Z : State) (r0 : Addr) (r : Nat) (ra : Addr) (sz : Addr) (rn : Addr) (kn : Nat) (xs : Nat → Nat) (tb : Addr) (pg : Addr) (pa : Addr) (fpg : Nat → Value) (fa : Nat → Value) (fl : Nat) (Vv : Nat → Int64) (Ss : Nat → Int64) (h0 : Heap) (n0 : Nat) (v : Option Value) (h : Heap) (L : List Loc) : Prop := ∃ j : Nat, v = none ∧ Fr n0 L ∧ Keep h0 h [r0, sz, rn] ∧ Fld Z h r0 "com/example/interval/interval/service/SlotOrder" "runs" "[[I" (.ref ra) ∧ Fld Z h r0 "com/example/interval/interval/service/SlotOrder" "sizes" "[I" (.ref sz) ∧ Fld Z h r0 "com/example/interval/interval/service/SlotOrder" "table" "Lcom/example/interval/interval/service/SlotTable;" (.ref tb) ∧ Fld Z h r0 "com/example/interval/interval/service/SlotOrder" "field" "I" (.int (oI fl)) ∧ Fld Z h r0 "com/example/interval/interval/service/SlotOrder" "size" "I" (.int (oI (kn + 1))) ∧ Fld Z h r0 "com/example/interval/interval/service/SlotOrder" "runCount" "I" (.int (1 : Int32)) ∧ Arf Z h ra (.array .int) 1 (fun _ => .ref rn) ∧ Arf Z h sz .int 1 (fun _ => .int (oI (kn + 1))) ∧ Arf Z h rn .int 8 (fun i => .int (oI (own_ins xs j r kn i))) ∧ own_at Vv Ss xs kn r j
set_option maxRecDepth 65536 in
set_option maxHeartbeats 40000000 in
theorem rmAN (l : Launch) (Z : State) (a0 : Array Value) (hw : ∀ d ∈ tables_1, d.before a0 Z = true) (ws : List Jvm.Cond) (r0 : Addr) (r : Nat) (ra : Addr) (sz : Addr) (rn : Addr) (kn : Nat) (xs : Nat → Nat) (tb : Addr) (pg : Addr) (pa : Addr) (fpg : Nat → Value) (fa : Nat → Value) (fl : Nat) (Vv : Nat → Int64) (Ss : Nat → Int64) (h0 : Heap) (n0 : Nat) (Z0 : n0 ≤ h0.size) (F_runs_r0 : Fld Z h0 r0 "com/example/interval/interval/service/SlotOrder" "runs" "[[I" (.ref ra)) (F_sizes_r0 : Fld Z h0 r0 "com/example/interval/interval/service/SlotOrder" "sizes" "[I" (.ref sz)) (F_table_r0 : Fld Z h0 r0 "com/example/interval/interval/service/SlotOrder" "table" "Lcom/example/interval/interval/service/SlotTable;" (.ref tb)) (F_field_r0 : Fld Z h0 r0 "com/example/interval/interval/service/SlotOrder" "field" "I" (.int (oI fl))) (F_size_r0 : Fld Z h0 r0 "com/example/interval/interval/service/SlotOrder" "size" "I" (.int (oI kn))) (F_runCount_r0 : Fld Z h0 r0 "com/example/interval/interval/service/SlotOrder" "runCount" "I" (.int (1 : Int32))) (E_r0 : Exa Z h0 r0 "com/example/interval/interval/service/SlotOrder") (V_ra : Arf Z h0 ra (.array .int) 1 (fun _ => .ref rn)) (V_sz : Arf Z h0 sz .int 1 (fun _ => .int (oI kn))) (V_rn : Arf Z h0 rn .int 8 (fun i => .int (oI (xs i)))) (E_tb : Exa Z h0 tb "com/example/interval/interval/service/SlotTable") (F_pages_tb : Fld Z h0 tb "com/example/interval/interval/service/SlotTable" "pages" "[[J" (.ref pg)) (V_pg : Arf Z h0 pg (.array .long) 1 fpg) (hpg : fpg 0 = .ref pa) (V_pa : Arf Z h0 pa .long 40 fa) (htab : own_tb fa fl Vv Ss) (hfl : fl < 5) (ge_r0 : n0 ≤ r0) (ge_sz : n0 ≤ sz) (ge_rn : n0 ≤ rn) (ne_r0_ra : r0 ≠ ra) (ne_r0_sz : r0 ≠ sz) (ne_r0_rn : r0 ≠ rn) (ne_ra_sz : ra ≠ sz) (ne_ra_rn : ra ≠ rn) (ne_sz_rn : sz ≠ rn) (ne_r0_tb : r0 ≠ tb) (ne_r0_pg : r0 ≠ pg) (ne_r0_pa : r0 ≠ pa) (ne_ra_tb : ra ≠ tb) (ne_ra_pg : ra ≠ pg) (ne_ra_pa : ra ≠ pa) (ne_sz_tb : sz ≠ tb) (ne_sz_pg : sz ≠ pg) (ne_sz_pa : sz ≠ pa) (ne_rn_tb : rn ≠ tb) (ne_rn_pg : rn ≠ pg) (ne_rn_pa : rn ≠ pa) (hr : r < 3) (hxs : ∀ i, i < kn → xs i < 3) (hmono : ∀ i i', i < i' → i' < kn → own_L Vv Ss (xs i') r → own_L Vv Ss (xs i) r) (hkn : kn ≤ 2) :
    MetFree l (⟨"com/example/interval/interval/service/SlotOrder", "add", "(I)V"⟩ : MethodName) (head1 (Jvm.Cond.code (⟨"com/example/interval/interval/service/SlotOrder", "add", "(I)V"⟩ : MethodName) prog_26_method_7_code 9 none :: ws) ({ frames := 4, cells := 0, slots := 0, locals := 66 } : Room)) (fun a U => a = #[(.ref r0), (.int (oI r))] ∧ Z.Warmed39 U.vm ∧ U.heap = h0) (fun _ _ _ _ _ => True) (fun _ U o U' => ∃ v L, o = .returned v ∧ QrmAN Z r0 r ra sz rn kn xs tb pg pa fpg fa fl Vv Ss h0 n0 v U'.heap L ∧ FrameEnd U o U' L ({ frames := 4, cells := 0, slots := 0, locals := 66 } : Room).cells ({ frames := 4, cells := 0, slots := 0, locals := 66 } : Room).slots) := by
  refine MetFree.of_bodySF (plainFor_of_name pn_9) hisR ?_
  intro p e s m args below meth c s₁ Bd hml0 hP hK
  obtain ⟨rfl, hZ, hh⟩ := hP
  have hx := Bd.exec
  have hby := Bd.bytes
  have hml : c.maxLocals = 9 := hml0
  have hown : s.vm.findClass "com/example/interval/interval/service/SlotOrder" = some m.cls := findClass_of_methodNamed Bd.named
  have hnm := (name_of_methodNamed Bd.named Bd.method).1
  have X0 : Stand p l e ({ frames := 4, cells := 0, slots := 0, locals := 66 } : Room) s m #[(.ref r0), (.int (oI r))] below meth c s₁ [] 0 0 := Stand.of_body Bd
  have e0 : s₁.heap = h0 := by rw [← hh, Bd.state]; rfl
  have N0 := Fr.nil n0
  have ZZ := Z0
  have KK : Keep h0 h0 [r0, sz, rn] := Keep.refl h0 _
  show Go p e below s (QrmAN Z r0 r ra sz rn kn xs tb pg pa fpg fa fl Vv Ss h0 n0) 0 0 (s₁.setTop (entryFrame m #[(.ref r0), (.int (oI r))] 9))
  generalize hQQ : (QrmAN Z r0 r ra sz rn kn xs tb pg pa fpg fa fl Vv Ss h0 n0) = QQ
  refine gs (fun t k => castTop (g' := (mkF m 0 #[rv r0, iv (oI r), .unset, .unset, .unset, .unset, .unset, .unset, .unset] [])) (by first | (simp [entryFrame, mkF, argsToLocals, Value.category, maxLocals]; done) | rfl) k) ?_
  show Go p e below s QQ 0 0 (s₁.setTop (mkF m 0 #[rv r0, iv (oI r), .unset, .unset, .unset, .unset, .unset, .unset, .unset] []))
  refine gs (fun t => XS.aloadN X0.here hx rfl (hb hby d9_0) rfl rfl) ?_
  obtain ⟨T75, X75, e75, st75⟩ := getF X0 hx hZ hown (host := "") (Or.inl (hw _ (List.mem_of_getElem? (i := 44) rfl))) Via.refl e0 F_table_r0 (g := (mkF m 1 #[rv r0, iv (oI r), .unset, .unset, .unset, .unset, .unset, .unset, .unset] [(.ref r0)])) rfl rfl (hb hby d9_1)
  refine gs st75 ?_
  show Go p e below s QQ 0 0 (T75.setTop (mkF m 4 #[rv r0, iv (oI r), .unset, .unset, .unset, .unset, .unset, .unset, .unset] [(.ref tb)]))
  refine gs (fun t => XS.iloadN X75.here hx rfl (hb hby d9_4) rfl) ?_
  refine gs (fun t => XS.aloadN X75.here hx rfl (hb hby d9_5) rfl rfl) ?_
  obtain ⟨T76, X76, e76, st76⟩ := getF X75 hx hZ hown (host := "") (Or.inl (hw _ (List.mem_of_getElem? (i := 46) rfl))) Via.refl e75 F_field_r0 (g := (mkF m 6 #[rv r0, iv (oI r), .unset, .unset, .unset, .unset, .unset, .unset, .unset] [(.ref r0), (.int (oI r)), (.ref tb)])) rfl rfl (hb hby d9_6)
  refine gs st76 ?_
  show Go p e below s QQ 0 0 (T76.setTop (mkF m 9 #[rv r0, iv (oI r), .unset, .unset, .unset, .unset, .unset, .unset, .unset] [(.int (oI fl)), (.int (oI r)), (.ref tb)]))
  show Go p e below s QQ 0 0 (T76.setTop (mkF m 9 #[rv r0, iv (oI r), .unset, .unset, .unset, .unset, .unset, .unset, .unset] [(.int (oI fl)), (.int (oI r)), (.ref tb)]))
  obtain ⟨cq77, kq77, q77a, q77b, q77c⟩ := isOf hZ e76 E_tb
  obtain ⟨_, _, ⟨T77, L77, k77, n77⟩, -, X77, ⟨Lc77, hQ77, l77, y77, z77⟩, st77⟩ := X76.virtualBack hx (y := (⟨"com/example/interval/interval/service/SlotTable", "get", "(II)J"⟩ : MethodName)) (z := (⟨"com/example/interval/interval/service/SlotTable", "get", "(II)J"⟩ : MethodName)) hown (mvT hZ (hw _ (List.mem_of_getElem? (i := 65) rfl))) (mvT hZ (hw _ (List.mem_of_getElem? (i := 66) rfl))) (notFace_of_selects (args := #[]) (mvT hZ (hw _ (List.mem_of_getElem? (i := 68) rfl)))) (mvT hZ (hw _ (List.mem_of_getElem? (i := 68) rfl))) (mvT hZ (hw _ (List.mem_of_getElem? (i := 67) rfl))) (by decide) (backOf (W := 0) (rm10 l Z a0 hw [] tb r fl pg pa fpg fa (Vv r) h0 n0 ZZ F_pages_tb V_pg hpg V_pa (by omega) (by omega) (htab r hr).1) hZ (hw _ (List.mem_of_getElem? (i := 69) rfl)) (hw _ (List.mem_of_getElem? (i := 3) rfl)) (by decide) (by decide)) q77a q77c (g := (mkF m 9 #[rv r0, iv (oI r), .unset, .unset, .unset, .unset, .unset, .unset, .unset] [(.int (oI fl)), (.int (oI r)), (.ref tb)])) rfl (by rw [hml]; rfl) (Steps.refl _) (argsL := [(.int (oI r)), (.int (oI fl))]) (rest := []) (lenOf pd_2 rfl) rfl (by show 2 * 0 + _ ≤ _; exact Nat.le_of_eq rfl) (hb hby d9_9) (fun _ _ => ⟨rfl, e76, (by decide : 0 + 0 ≤ _), (by decide : 0 + 0 ≤ _)⟩)
  dsimp only [Pt.U, Pt.locs, Pt.cells, Pt.slots] at X77 l77 y77 z77 st77 hQ77
  subst l77 y77 z77
  obtain ⟨rfl, N77q, e77⟩ := hQ77
  replace N0 := Fr.app N0 N77q
  refine gt st77 ?_
  show Go p e below s QQ 0 0 (T77.setTop (mkF m 12 #[rv r0, iv (oI r), .unset, .unset, .unset, .unset, .unset, .unset, .unset] [(.long (Vv r))]))
  refine gs (fun t => XS.lstoreN X77.here hx rfl (hb hby d9_12) rfl (l' := #[rv r0, iv (oI r), jv (Vv r), .second, .unset, .unset, .unset, .unset, .unset]) rfl) ?_
  refine gs (fun t => XS.aloadN X77.here hx rfl (hb hby d9_13) rfl rfl) ?_
  obtain ⟨T78, X78, e78, st78⟩ := getF X77 hx hZ hown (host := "") (Or.inl (hw _ (List.mem_of_getElem? (i := 44) rfl))) Via.refl e77 F_table_r0 (g := (mkF m 14 #[rv r0, iv (oI r), jv (Vv r), .second, .unset, .unset, .unset, .unset, .unset] [(.ref r0)])) rfl rfl (hb hby d9_14)
  refine gs st78 ?_
  show Go p e below s QQ 0 0 (T78.setTop (mkF m 17 #[rv r0, iv (oI r), jv (Vv r), .second, .unset, .unset, .unset, .unset, .unset] [(.ref tb)]))
  refine gs (fun t => XS.iloadN X78.here hx rfl (hb hby d9_17) rfl) ?_
  refine gs (fun t => XS.iconst X78.here hx rfl (hb hby d9_18)) ?_
  show Go p e below s QQ 0 0 (T78.setTop (mkF m 19 #[rv r0, iv (oI r), jv (Vv r), .second, .unset, .unset, .unset, .unset, .unset] [(.int (oI 0)), (.int (oI r)), (.ref tb)]))
  obtain ⟨cq79, kq79, q79a, q79b, q79c⟩ := isOf hZ e78 E_tb
  obtain ⟨_, _, ⟨T79, L79, k79, n79⟩, -, X79, ⟨Lc79, hQ79, l79, y79, z79⟩, st79⟩ := X78.virtualBack hx (y := (⟨"com/example/interval/interval/service/SlotTable", "get", "(II)J"⟩ : MethodName)) (z := (⟨"com/example/interval/interval/service/SlotTable", "get", "(II)J"⟩ : MethodName)) hown (mvT hZ (hw _ (List.mem_of_getElem? (i := 65) rfl))) (mvT hZ (hw _ (List.mem_of_getElem? (i := 66) rfl))) (notFace_of_selects (args := #[]) (mvT hZ (hw _ (List.mem_of_getElem? (i := 68) rfl)))) (mvT hZ (hw _ (List.mem_of_getElem? (i := 68) rfl))) (mvT hZ (hw _ (List.mem_of_getElem? (i := 67) rfl))) (by decide) (backOf (W := 0) (rm10 l Z a0 hw [] tb r 0 pg pa fpg fa (Ss r) h0 n0 ZZ F_pages_tb V_pg hpg V_pa (by omega) (by omega) (htab r hr).2) hZ (hw _ (List.mem_of_getElem? (i := 69) rfl)) (hw _ (List.mem_of_getElem? (i := 3) rfl)) (by decide) (by decide)) q79a q79c (g := (mkF m 19 #[rv r0, iv (oI r), jv (Vv r), .second, .unset, .unset, .unset, .unset, .unset] [(.int (oI 0)), (.int (oI r)), (.ref tb)])) rfl (by rw [hml]; rfl) (Steps.refl _) (argsL := [(.int (oI r)), (.int (oI 0))]) (rest := []) (lenOf pd_2 rfl) rfl (by show 2 * 0 + _ ≤ _; exact Nat.le_of_eq rfl) (hb hby d9_19) (fun _ _ => ⟨rfl, e78, (by decide : 0 + 0 ≤ _), (by decide : 0 + 0 ≤ _)⟩)
  dsimp only [Pt.U, Pt.locs, Pt.cells, Pt.slots] at X79 l79 y79 z79 st79 hQ79
  subst l79 y79 z79
  obtain ⟨rfl, N79q, e79⟩ := hQ79
  replace N0 := Fr.app N0 N79q
  refine gt st79 ?_
  show Go p e below s QQ 0 0 (T79.setTop (mkF m 22 #[rv r0, iv (oI r), jv (Vv r), .second, .unset, .unset, .unset, .unset, .unset] [(.long (Ss r))]))
  refine gs (fun t => XS.lstore X79.here hx rfl (hb hby d9_22) rfl (l' := #[rv r0, iv (oI r), jv (Vv r), .second, jv (Ss r), .second, .unset, .unset, .unset]) rfl) ?_
  refine gs (fun t => XS.aloadN X79.here hx rfl (hb hby d9_24) rfl rfl) ?_
  obtain ⟨T80, X80, e80, st80⟩ := getF X79 hx hZ hown (host := "") (Or.inl (hw _ (List.mem_of_getElem? (i := 70) rfl))) Via.refl e79 F_runCount_r0 (g := (mkF m 25 #[rv r0, iv (oI r), jv (Vv r), .second, jv (Ss r), .second, .unset, .unset, .unset] [(.ref r0)])) rfl rfl (hb hby d9_25)
  refine gs st80 ?_
  show Go p e below s QQ 0 0 (T80.setTop (mkF m 28 #[rv r0, iv (oI r), jv (Vv r), .second, jv (Ss r), .second, .unset, .unset, .unset] [(.int (1 : Int32))]))
  refine gs (fun t => XS.ifYes X80.here hx rfl (pc0 := 28) (pc' := 41) rfl (hb hby d9_28) rfl ((if0 _ _).trans (feq (by decide : ¬ ((1 : Int32) = (0 : Int32)))).2) (by decide) (by decide)) ?_
  refine gs (fun t => XS.aloadN X80.here hx rfl (hb hby d9_41) rfl rfl) ?_
  refine gs (fun t => XS.lloadN X80.here hx rfl (hb hby d9_42) rfl) ?_
  refine gs (fun t => XS.lload X80.here hx rfl (hb hby d9_43) rfl) ?_
  obtain ⟨cq81, q81, q81'⟩ := E_r0.cell
  obtain ⟨_, _, ⟨T81, L81, k81, n81⟩, -, X81, ⟨Lc81, hQ81, l81, y81, z81⟩, st81⟩ := X80.privateBack hx (y := (⟨"com/example/interval/interval/service/SlotOrder", "runOf", "(JJ)I"⟩ : MethodName)) hown (mvT hZ (hw _ (List.mem_of_getElem? (i := 81) rfl))) (mvT hZ (hw _ (List.mem_of_getElem? (i := 82) rfl))) (own_selP hown (mvT hZ (hw _ (List.mem_of_getElem? (i := 56) rfl)) (args := #[])) rfl (mvP hZ (hw _ (List.mem_of_getElem? (i := 83) rfl))) (mvT hZ (hw _ (List.mem_of_getElem? (i := 82) rfl))) (by decide)) (Cond.privateMethod_at (mvP hZ (hw _ (List.mem_of_getElem? (i := 83) rfl)) (args := #[]))) (mvT hZ (hw _ (List.mem_of_getElem? (i := 84) rfl))) (by decide) (backOf (W := 0) (rmRo l Z a0 hw [] r0 (Vv r) (Ss r) h0 n0 ZZ F_runCount_r0) hZ (hw _ (List.mem_of_getElem? (i := 84) rfl)) (hw _ (List.mem_of_getElem? (i := 33) rfl)) (by decide) (by decide)) (g := (mkF m 45 #[rv r0, iv (oI r), jv (Vv r), .second, jv (Ss r), .second, .unset, .unset, .unset] [(.long (Ss r)), (.long (Vv r)), (.ref r0)])) rfl (by rw [hml]; rfl) (Steps.refl _) (a := r0) (by rw [e80]; exact q81) q81' (argsL := [(.long (Vv r)), (.long (Ss r))]) (rest := []) (lenOf pd_3 rfl) rfl (by show 2 * 0 + _ ≤ _; exact Nat.le_of_eq rfl) (hb hby d9_45) (fun _ _ => ⟨rfl, e80, (by decide : 0 + 0 ≤ _), (by decide : 0 + 0 ≤ _)⟩)
  dsimp only [Pt.U, Pt.locs, Pt.cells, Pt.slots] at X81 l81 y81 z81 st81 hQ81
  subst l81 y81 z81
  obtain ⟨rfl, N81q, e81⟩ := hQ81
  replace N0 := Fr.app N0 N81q
  refine gt st81 ?_
  show Go p e below s QQ 0 0 (T81.setTop (mkF m 48 #[rv r0, iv (oI r), jv (Vv r), .second, jv (Ss r), .second, .unset, .unset, .unset] [(.int (0 : Int32))]))
  refine gs (fun t => XS.istore X81.here hx rfl (hb hby d9_48) rfl (l' := #[rv r0, iv (oI r), jv (Vv r), .second, jv (Ss r), .second, iv 0, .unset, .unset]) rfl) ?_
  refine gs (fun t => XS.aloadN X81.here hx rfl (hb hby d9_50) rfl rfl) ?_
  refine gs (fun t => XS.iload X81.here hx rfl (hb hby d9_51) rfl) ?_
  refine gs (fun t => XS.lloadN X81.here hx rfl (hb hby d9_53) rfl) ?_
  refine gs (fun t => XS.lload X81.here hx rfl (hb hby d9_54) rfl) ?_
  obtain ⟨cq82, q82, q82'⟩ := E_r0.cell
  obtain ⟨_, _, ⟨T82, L82, k82, n82⟩, -, X82, ⟨Lc82, hQ82, l82, y82, z82⟩, st82⟩ := X81.privateBack hx (y := (⟨"com/example/interval/interval/service/SlotOrder", "indexIn", "(IJJ)I"⟩ : MethodName)) hown (mvT hZ (hw _ (List.mem_of_getElem? (i := 85) rfl))) (mvT hZ (hw _ (List.mem_of_getElem? (i := 86) rfl))) (own_selP hown (mvT hZ (hw _ (List.mem_of_getElem? (i := 56) rfl)) (args := #[])) rfl (mvP hZ (hw _ (List.mem_of_getElem? (i := 87) rfl))) (mvT hZ (hw _ (List.mem_of_getElem? (i := 86) rfl))) (by decide)) (Cond.privateMethod_at (mvP hZ (hw _ (List.mem_of_getElem? (i := 87) rfl)) (args := #[]))) (mvT hZ (hw _ (List.mem_of_getElem? (i := 88) rfl))) (by decide) (backOf (W := 0) (rmIx l Z a0 hw [] r0 r ra sz rn kn xs tb pg pa fpg fa fl Vv Ss h0 n0 ZZ F_runs_r0 F_sizes_r0 F_table_r0 F_field_r0 E_r0 V_ra V_sz V_rn E_tb F_pages_tb V_pg hpg V_pa htab hfl (by omega) hxs hmono) hZ (hw _ (List.mem_of_getElem? (i := 88) rfl)) (hw _ (List.mem_of_getElem? (i := 33) rfl)) (by decide) (by decide)) (g := (mkF m 56 #[rv r0, iv (oI r), jv (Vv r), .second, jv (Ss r), .second, iv 0, .unset, .unset] [(.long (Ss r)), (.long (Vv r)), (.int (0 : Int32)), (.ref r0)])) rfl (by rw [hml]; rfl) (Steps.refl _) (a := r0) (by rw [e81]; exact q82) q82' (argsL := [(.int (0 : Int32)), (.long (Vv r)), (.long (Ss r))]) (rest := []) (lenOf pd_4 rfl) rfl (by show 2 * 0 + _ ≤ _; exact Nat.le_of_eq rfl) (hb hby d9_56) (fun _ _ => ⟨rfl, e81, (by decide : 0 + 0 ≤ _), (by decide : 0 + 0 ≤ _)⟩)
  dsimp only [Pt.U, Pt.locs, Pt.cells, Pt.slots] at X82 l82 y82 z82 st82 hQ82
  subst l82 y82 z82
  obtain ⟨j82, rfl, N82q, e82, hj82⟩ := hQ82
  replace N0 := Fr.app N0 N82q
  refine gt st82 ?_
  show Go p e below s QQ 0 0 (T82.setTop (mkF m 59 #[rv r0, iv (oI r), jv (Vv r), .second, jv (Ss r), .second, iv 0, .unset, .unset] [(.int (oI j82))]))
  have hjk := hj82.1
  refine gs (fun t => XS.istore X82.here hx rfl (hb hby d9_59) rfl (l' := #[rv r0, iv (oI r), jv (Vv r), .second, jv (Ss r), .second, iv 0, iv (oI j82), .unset]) rfl) ?_
  refine gs (fun t => XS.aloadN X82.here hx rfl (hb hby d9_61) rfl rfl) ?_
  obtain ⟨T83, X83, e83, st83⟩ := getF X82 hx hZ hown (host := "") (Or.inl (hw _ (List.mem_of_getElem? (i := 42) rfl))) Via.refl e82 F_sizes_r0 (g := (mkF m 62 #[rv r0, iv (oI r), jv (Vv r), .second, jv (Ss r), .second, iv 0, iv (oI j82), .unset] [(.ref r0)])) rfl rfl (hb hby d9_62)
  refine gs st83 ?_
  show Go p e below s QQ 0 0 (T83.setTop (mkF m 65 #[rv r0, iv (oI r), jv (Vv r), .second, jv (Ss r), .second, iv 0, iv (oI j82), .unset] [(.ref sz)]))
  refine gs (fun t => XS.iload X83.here hx rfl (hb hby d9_65) rfl) ?_
  refine gs (fun t => ldIf X83 hx hZ e83 V_sz (j := (0 : Int32)) (v := (.int (oI kn))) (by decide) rfl (g := (mkF m 67 #[rv r0, iv (oI r), jv (Vv r), .second, jv (Ss r), .second, iv 0, iv (oI j82), .unset] [(.int (0 : Int32)), (.ref sz)])) rfl rfl (hb hby d9_67) t) ?_
  refine gs (fun t => XS.sipush X83.here hx rfl (hb hby d9_68)) ?_
  refine gs (fun t => XS.icmpYes X83.here hx rfl (pc0 := 71) (pc' := 117) rfl (hb hby d9_71) rfl (feq (fun q => by have q2 := congrArg Int32.toInt q; rw [oI_t (by omega)] at q2; have q3 : (1024 : Int32).toInt = 1024 := rfl; omega : ¬ ((oI kn) = (1024 : Int32)))).2 (by decide) (by decide)) ?_
  refine gs (fun t => XS.aloadN X83.here hx rfl (hb hby d9_117) rfl rfl) ?_
  obtain ⟨T84, X84, e84, st84⟩ := getF X83 hx hZ hown (host := "") (Or.inl (hw _ (List.mem_of_getElem? (i := 42) rfl))) Via.refl e83 F_sizes_r0 (g := (mkF m 118 #[rv r0, iv (oI r), jv (Vv r), .second, jv (Ss r), .second, iv 0, iv (oI j82), .unset] [(.ref r0)])) rfl rfl (hb hby d9_118)
  refine gs st84 ?_
  show Go p e below s QQ 0 0 (T84.setTop (mkF m 121 #[rv r0, iv (oI r), jv (Vv r), .second, jv (Ss r), .second, iv 0, iv (oI j82), .unset] [(.ref sz)]))
  refine gs (fun t => XS.iload X84.here hx rfl (hb hby d9_121) rfl) ?_
  refine gs (fun t => ldIf X84 hx hZ e84 V_sz (j := (0 : Int32)) (v := (.int (oI kn))) (by decide) rfl (g := (mkF m 123 #[rv r0, iv (oI r), jv (Vv r), .second, jv (Ss r), .second, iv 0, iv (oI j82), .unset] [(.int (0 : Int32)), (.ref sz)])) rfl rfl (hb hby d9_123) t) ?_
  refine gs (fun t => XS.sipush X84.here hx rfl (hb hby d9_124)) ?_
  refine gs (fun t => XS.icmpYes X84.here hx rfl (pc0 := 127) (pc' := 165) rfl (hb hby d9_127) rfl (feq (fun q => by have q2 := congrArg Int32.toInt q; rw [oI_t (by omega)] at q2; have q3 : (1024 : Int32).toInt = 1024 := rfl; omega : ¬ ((oI kn) = (1024 : Int32)))).2 (by decide) (by decide)) ?_
  refine gs (fun t => XS.aloadN X84.here hx rfl (hb hby d9_165) rfl rfl) ?_
  obtain ⟨T85, X85, e85, st85⟩ := getF X84 hx hZ hown (host := "") (Or.inl (hw _ (List.mem_of_getElem? (i := 42) rfl))) Via.refl e84 F_sizes_r0 (g := (mkF m 166 #[rv r0, iv (oI r), jv (Vv r), .second, jv (Ss r), .second, iv 0, iv (oI j82), .unset] [(.ref r0)])) rfl rfl (hb hby d9_166)
  refine gs st85 ?_
  show Go p e below s QQ 0 0 (T85.setTop (mkF m 169 #[rv r0, iv (oI r), jv (Vv r), .second, jv (Ss r), .second, iv 0, iv (oI j82), .unset] [(.ref sz)]))
  refine gs (fun t => XS.iload X85.here hx rfl (hb hby d9_169) rfl) ?_
  refine gs (fun t => ldIf X85 hx hZ e85 V_sz (j := (0 : Int32)) (v := (.int (oI kn))) (by decide) rfl (g := (mkF m 171 #[rv r0, iv (oI r), jv (Vv r), .second, jv (Ss r), .second, iv 0, iv (oI j82), .unset] [(.int (0 : Int32)), (.ref sz)])) rfl rfl (hb hby d9_171) t) ?_
  refine gs (fun t => XS.aloadN X85.here hx rfl (hb hby d9_172) rfl rfl) ?_
  obtain ⟨T86, X86, e86, st86⟩ := getF X85 hx hZ hown (host := "") (Or.inl (hw _ (List.mem_of_getElem? (i := 40) rfl))) Via.refl e85 F_runs_r0 (g := (mkF m 173 #[rv r0, iv (oI r), jv (Vv r), .second, jv (Ss r), .second, iv 0, iv (oI j82), .unset] [(.ref r0), (.int (oI kn))])) rfl rfl (hb hby d9_173)
  refine gs st86 ?_
  show Go p e below s QQ 0 0 (T86.setTop (mkF m 176 #[rv r0, iv (oI r), jv (Vv r), .second, jv (Ss r), .second, iv 0, iv (oI j82), .unset] [(.ref ra), (.int (oI kn))]))
  refine gs (fun t => XS.iload X86.here hx rfl (hb hby d9_176) rfl) ?_
  refine gs (fun t => ldRf X86 hx hZ e86 V_ra rfl (j := (0 : Int32)) (v := (.ref rn)) (by decide) rfl (g := (mkF m 178 #[rv r0, iv (oI r), jv (Vv r), .second, jv (Ss r), .second, iv 0, iv (oI j82), .unset] [(.int (0 : Int32)), (.ref ra), (.int (oI kn))])) rfl rfl (hb hby d9_178) t) ?_
  refine gs (fun t => lenf X86 hx hZ e86 V_rn (z := (8 : Int32)) rfl (g := (mkF m 179 #[rv r0, iv (oI r), jv (Vv r), .second, jv (Ss r), .second, iv 0, iv (oI j82), .unset] [(.ref rn), (.int (oI kn))])) rfl rfl (hb hby d9_179) t) ?_
  refine gs (fun t => XS.icmpYes X86.here hx rfl (pc0 := 180) (pc' := 215) rfl (hb hby d9_180) rfl (feq (fun q => by have q2 := congrArg Int32.toInt q; rw [oI_t (by omega)] at q2; have q3 : (8 : Int32).toInt = 8 := rfl; omega : ¬ ((oI kn) = (8 : Int32)))).2 (by decide) (by decide)) ?_
  refine gs (fun t => XS.aloadN X86.here hx rfl (hb hby d9_215) rfl rfl) ?_
  obtain ⟨T87, X87, e87, st87⟩ := getF X86 hx hZ hown (host := "") (Or.inl (hw _ (List.mem_of_getElem? (i := 40) rfl))) Via.refl e86 F_runs_r0 (g := (mkF m 216 #[rv r0, iv (oI r), jv (Vv r), .second, jv (Ss r), .second, iv 0, iv (oI j82), .unset] [(.ref r0)])) rfl rfl (hb hby d9_216)
  refine gs st87 ?_
  show Go p e below s QQ 0 0 (T87.setTop (mkF m 219 #[rv r0, iv (oI r), jv (Vv r), .second, jv (Ss r), .second, iv 0, iv (oI j82), .unset] [(.ref ra)]))
  refine gs (fun t => XS.iload X87.here hx rfl (hb hby d9_219) rfl) ?_
  refine gs (fun t => ldRf X87 hx hZ e87 V_ra rfl (j := (0 : Int32)) (v := (.ref rn)) (by decide) rfl (g := (mkF m 221 #[rv r0, iv (oI r), jv (Vv r), .second, jv (Ss r), .second, iv 0, iv (oI j82), .unset] [(.int (0 : Int32)), (.ref ra)])) rfl rfl (hb hby d9_221) t) ?_
  refine gs (fun t => XS.astore X87.here hx rfl (hb hby d9_222) rfl rfl (l' := #[rv r0, iv (oI r), jv (Vv r), .second, jv (Ss r), .second, iv 0, iv (oI j82), rv rn]) rfl) ?_
  refine gs (fun t => XS.aload X87.here hx rfl (hb hby d9_224) rfl rfl) ?_
  refine gs (fun t => XS.iload X87.here hx rfl (hb hby d9_226) rfl) ?_
  refine gs (fun t => XS.aload X87.here hx rfl (hb hby d9_228) rfl rfl) ?_
  show Go p e below s QQ 0 0 (T87.setTop (mkF m 230 #[rv r0, iv (oI r), jv (Vv r), .second, jv (Ss r), .second, iv 0, iv (oI j82), rv rn] [(.ref rn), (.int (oI j82)), (.ref rn)]))
  refine gs (fun t => XS.iload X87.here hx rfl (hb hby d9_230) rfl) ?_
  refine gs (fun t => XS.iconst X87.here hx rfl (hb hby d9_232)) ?_
  refine gs (fun t => XS.iadd X87.here hx rfl (hb hby d9_233) rfl) ?_
  show Go p e below s QQ 0 0 (T87.setTop (mkF m 234 #[rv r0, iv (oI r), jv (Vv r), .second, jv (Ss r), .second, iv 0, iv (oI j82), rv rn] [(.int ((oI j82) + (1 : Int32))), (.ref rn), (.int (oI j82)), (.ref rn)]))
  rw [show ((oI j82) + (1 : Int32)) = (oI (j82 + 1)) from oI_add (a := j82) (b := 1) (by omega)]
  show Go p e below s QQ 0 0 (T87.setTop (mkF m 234 #[rv r0, iv (oI r), jv (Vv r), .second, jv (Ss r), .second, iv 0, iv (oI j82), rv rn] [(.int (oI (j82 + 1))), (.ref rn), (.int (oI j82)), (.ref rn)]))
  refine gs (fun t => XS.aloadN X87.here hx rfl (hb hby d9_234) rfl rfl) ?_
  obtain ⟨T88, X88, e88, st88⟩ := getF X87 hx hZ hown (host := "") (Or.inl (hw _ (List.mem_of_getElem? (i := 42) rfl))) Via.refl e87 F_sizes_r0 (g := (mkF m 235 #[rv r0, iv (oI r), jv (Vv r), .second, jv (Ss r), .second, iv 0, iv (oI j82), rv rn] [(.ref r0), (.int (oI (j82 + 1))), (.ref rn), (.int (oI j82)), (.ref rn)])) rfl rfl (hb hby d9_235)
  refine gs st88 ?_
  show Go p e below s QQ 0 0 (T88.setTop (mkF m 238 #[rv r0, iv (oI r), jv (Vv r), .second, jv (Ss r), .second, iv 0, iv (oI j82), rv rn] [(.ref sz), (.int (oI (j82 + 1))), (.ref rn), (.int (oI j82)), (.ref rn)]))
  refine gs (fun t => XS.iload X88.here hx rfl (hb hby d9_238) rfl) ?_
  refine gs (fun t => ldIf X88 hx hZ e88 V_sz (j := (0 : Int32)) (v := (.int (oI kn))) (by decide) rfl (g := (mkF m 240 #[rv r0, iv (oI r), jv (Vv r), .second, jv (Ss r), .second, iv 0, iv (oI j82), rv rn] [(.int (0 : Int32)), (.ref sz), (.int (oI (j82 + 1))), (.ref rn), (.int (oI j82)), (.ref rn)])) rfl rfl (hb hby d9_240) t) ?_
  refine gs (fun t => XS.iload X88.here hx rfl (hb hby d9_241) rfl) ?_
  refine gs (fun t => XS.isub X88.here hx rfl (hb hby d9_243) rfl) ?_
  show Go p e below s QQ 0 0 (T88.setTop (mkF m 244 #[rv r0, iv (oI r), jv (Vv r), .second, jv (Ss r), .second, iv 0, iv (oI j82), rv rn] [(.int ((oI kn) - (oI j82))), (.int (oI (j82 + 1))), (.ref rn), (.int (oI j82)), (.ref rn)]))
  rw [show ((oI kn) - (oI j82)) = (oI (kn - j82)) from oI_sub hjk (by omega)]
  show Go p e below s QQ 0 0 (T88.setTop (mkF m 244 #[rv r0, iv (oI r), jv (Vv r), .second, jv (Ss r), .second, iv 0, iv (oI j82), rv rn] [(.int (oI (kn - j82))), (.int (oI (j82 + 1))), (.ref rn), (.int (oI j82)), (.ref rn)]))
  obtain ⟨T89, h89, L89, X89, e89, Nn89, K89, V89, st89⟩ := own_cp X88 hx hZ hown (hw _ (List.mem_of_getElem? (i := 76) rfl)) (hw _ (List.mem_of_getElem? (i := 79) rfl)) (hw _ (List.mem_of_getElem? (i := 77) rfl)) (hw _ (List.mem_of_getElem? (i := 78) rfl)) e88 V_rn (fun _ _ => rfl) (S := j82) (D := (j82 + 1)) (K := (kn - j82)) (Or.inl rfl) (oI_nn (by omega)) (oI_nn (by omega)) (oI_nn (by omega)) (oI_c (by omega)) (oI_c (by omega)) (oI_c (by omega)) (by omega) (by omega) (f' := (fun i => .int (oI (own_mv xs j82 (j82 + 1) (kn - j82) i)))) (fun i hi => own_mvf _ _ _ _ i) N0 ge_rn (g := (mkF m 244 #[rv r0, iv (oI r), jv (Vv r), .second, jv (Ss r), .second, iv 0, iv (oI j82), rv rn] [(.int (oI (kn - j82))), (.int (oI (j82 + 1))), (.ref rn), (.int (oI j82)), (.ref rn)])) rfl (by rw [hml]; rfl) rfl (hb hby d9_244) (by decide) (W := 0) (by show 2 * 0 + _ ≤ _; exact Nat.le_of_eq rfl) (by decide)
  replace N0 := Nn89
  refine gs st89 ?_
  show Go p e below s QQ 0 0 (T89.setTop (mkF m 247 #[rv r0, iv (oI r), jv (Vv r), .second, jv (Ss r), .second, iv 0, iv (oI j82), rv rn] []))
  replace F_runs_r0 := F_runs_r0.keep K89 (ninS ne_r0_rn nin0)
  replace F_sizes_r0 := F_sizes_r0.keep K89 (ninS ne_r0_rn nin0)
  replace F_table_r0 := F_table_r0.keep K89 (ninS ne_r0_rn nin0)
  replace F_field_r0 := F_field_r0.keep K89 (ninS ne_r0_rn nin0)
  replace F_size_r0 := F_size_r0.keep K89 (ninS ne_r0_rn nin0)
  replace F_runCount_r0 := F_runCount_r0.keep K89 (ninS ne_r0_rn nin0)
  replace E_r0 := E_r0.keep K89
  replace V_ra := V_ra.keep K89 (ninS ne_ra_rn nin0)
  replace V_sz := V_sz.keep K89 (ninS ne_sz_rn nin0)
  replace E_tb := E_tb.keep K89
  replace F_pages_tb := F_pages_tb.keep K89 (ninS (Ne.symm ne_rn_tb) nin0)
  replace V_pg := V_pg.keep K89 (ninS (Ne.symm ne_rn_pg) nin0)
  replace V_pa := V_pa.keep K89 (ninS (Ne.symm ne_rn_pa) nin0)
  replace ZZ := Nat.le_trans ZZ K89.1
  replace KK := KK.trans K89 (allS (Or.inl (by simp)) all0)
  have V_rn := V89
  refine gs (fun t => XS.aload X89.here hx rfl (hb hby d9_247) rfl rfl) ?_
  refine gs (fun t => XS.iload X89.here hx rfl (hb hby d9_249) rfl) ?_
  refine gs (fun t => XS.iloadN X89.here hx rfl (hb hby d9_251) rfl) ?_
  obtain ⟨T90, h90, X90, e90, W90, V90, st90⟩ := stIf X89 hx hZ e89 V_rn (j := (oI j82)) (own_oin (by omega) (by decide)) (g := (mkF m 252 #[rv r0, iv (oI r), jv (Vv r), .second, jv (Ss r), .second, iv 0, iv (oI j82), rv rn] [(.int (oI r)), (.int (oI j82)), (.ref rn)])) rfl rfl (hb hby d9_252)
  replace N0 := Fr.snoc X90 N0 ge_rn
  refine gs st90 ?_
  show Go p e below s QQ 0 0 (T90.setTop (mkF m 253 #[rv r0, iv (oI r), jv (Vv r), .second, jv (Ss r), .second, iv 0, iv (oI j82), rv rn] []))
  replace F_runs_r0 := F_runs_r0.other W90 (Or.inl ne_r0_rn)
  replace F_sizes_r0 := F_sizes_r0.other W90 (Or.inl ne_r0_rn)
  replace F_table_r0 := F_table_r0.other W90 (Or.inl ne_r0_rn)
  replace F_field_r0 := F_field_r0.other W90 (Or.inl ne_r0_rn)
  replace F_size_r0 := F_size_r0.other W90 (Or.inl ne_r0_rn)
  replace F_runCount_r0 := F_runCount_r0.other W90 (Or.inl ne_r0_rn)
  replace E_r0 := E_r0.wr W90
  replace V_ra := V_ra.other W90 ne_ra_rn
  replace V_sz := V_sz.other W90 ne_sz_rn
  replace E_tb := E_tb.wr W90
  replace F_pages_tb := F_pages_tb.other W90 (Or.inl (Ne.symm ne_rn_tb))
  replace V_pg := V_pg.other W90 (Ne.symm ne_rn_pg)
  replace V_pa := V_pa.other W90 (Ne.symm ne_rn_pa)
  replace ZZ : n0 ≤ h90.size := by rw [W90.size]; exact ZZ
  replace KK := KK.wr W90 (Or.inl (by simp))
  replace V_rn : Arf Z h90 rn .int 8 (updv (fun i => .int (oI (own_mv xs j82 (j82 + 1) (kn - j82) i))) (oI j82).toNatClampNeg (.int (oI r))) := V90
  replace V_rn : Arf Z h90 rn .int 8 (fun i => .int (oI (own_ins xs j82 r kn i))) := V_rn.congr (fun i hi => by rw [oI_c (by omega)]; exact own_insf _ _ _ _ i)
  refine gs (fun t => XS.aloadN X90.here hx rfl (hb hby d9_253) rfl rfl) ?_
  obtain ⟨T91, X91, e91, st91⟩ := getF X90 hx hZ hown (host := "") (Or.inl (hw _ (List.mem_of_getElem? (i := 42) rfl))) Via.refl e90 F_sizes_r0 (g := (mkF m 254 #[rv r0, iv (oI r), jv (Vv r), .second, jv (Ss r), .second, iv 0, iv (oI j82), rv rn] [(.ref r0)])) rfl rfl (hb hby d9_254)
  refine gs st91 ?_
  show Go p e below s QQ 0 0 (T91.setTop (mkF m 257 #[rv r0, iv (oI r), jv (Vv r), .second, jv (Ss r), .second, iv 0, iv (oI j82), rv rn] [(.ref sz)]))
  refine gs (fun t => XS.iload X91.here hx rfl (hb hby d9_257) rfl) ?_
  refine gs (fun t => XT.dup2 X91.here hx rfl (hb hby d9_259) rfl rfl rfl) ?_
  refine gs (fun t => ldIf X91 hx hZ e91 V_sz (j := (0 : Int32)) (v := (.int (oI kn))) (by decide) rfl (g := (mkF m 260 #[rv r0, iv (oI r), jv (Vv r), .second, jv (Ss r), .second, iv 0, iv (oI j82), rv rn] [(.int (0 : Int32)), (.ref sz), (.int (0 : Int32)), (.ref sz)])) rfl rfl (hb hby d9_260) t) ?_
  refine gs (fun t => XS.iconst X91.here hx rfl (hb hby d9_261)) ?_
  refine gs (fun t => XS.iadd X91.here hx rfl (hb hby d9_262) rfl) ?_
  show Go p e below s QQ 0 0 (T91.setTop (mkF m 263 #[rv r0, iv (oI r), jv (Vv r), .second, jv (Ss r), .second, iv 0, iv (oI j82), rv rn] [(.int ((oI kn) + (1 : Int32))), (.int (0 : Int32)), (.ref sz)]))
  rw [show ((oI kn) + (1 : Int32)) = (oI (kn + 1)) from oI_add (a := kn) (b := 1) (by omega)]
  show Go p e below s QQ 0 0 (T91.setTop (mkF m 263 #[rv r0, iv (oI r), jv (Vv r), .second, jv (Ss r), .second, iv 0, iv (oI j82), rv rn] [(.int (oI (kn + 1))), (.int (0 : Int32)), (.ref sz)]))
  obtain ⟨T92, h92, X92, e92, W92, V92, st92⟩ := stIf X91 hx hZ e91 V_sz (j := (0 : Int32)) (by decide) (g := (mkF m 263 #[rv r0, iv (oI r), jv (Vv r), .second, jv (Ss r), .second, iv 0, iv (oI j82), rv rn] [(.int (oI (kn + 1))), (.int (0 : Int32)), (.ref sz)])) rfl rfl (hb hby d9_263)
  replace N0 := Fr.snoc X92 N0 ge_sz
  refine gs st92 ?_
  show Go p e below s QQ 0 0 (T92.setTop (mkF m 264 #[rv r0, iv (oI r), jv (Vv r), .second, jv (Ss r), .second, iv 0, iv (oI j82), rv rn] []))
  replace F_runs_r0 := F_runs_r0.other W92 (Or.inl ne_r0_sz)
  replace F_sizes_r0 := F_sizes_r0.other W92 (Or.inl ne_r0_sz)
  replace F_table_r0 := F_table_r0.other W92 (Or.inl ne_r0_sz)
  replace F_field_r0 := F_field_r0.other W92 (Or.inl ne_r0_sz)
  replace F_size_r0 := F_size_r0.other W92 (Or.inl ne_r0_sz)
  replace F_runCount_r0 := F_runCount_r0.other W92 (Or.inl ne_r0_sz)
  replace E_r0 := E_r0.wr W92
  replace V_ra := V_ra.other W92 ne_ra_sz
  replace E_tb := E_tb.wr W92
  replace F_pages_tb := F_pages_tb.other W92 (Or.inl (Ne.symm ne_sz_tb))
  replace V_pg := V_pg.other W92 (Ne.symm ne_sz_pg)
  replace V_pa := V_pa.other W92 (Ne.symm ne_sz_pa)
  replace V_rn := V_rn.other W92 (Ne.symm ne_sz_rn)
  replace ZZ : n0 ≤ h92.size := by rw [W92.size]; exact ZZ
  replace KK := KK.wr W92 (Or.inl (by simp))
  replace V_sz : Arf Z h92 sz .int 1 (updv (fun _ => .int (oI kn)) 0 (.int (oI (kn + 1)))) := V92
  replace V_sz : Arf Z h92 sz .int 1 (fun _ => .int (oI (kn + 1))) := V_sz.congr (fun i hi => by have q : i = 0 := (by omega); subst q; rfl)
  refine gs (fun t => XS.aloadN X92.here hx rfl (hb hby d9_264) rfl rfl) ?_
  refine gs (fun t => XS.dup X92.here hx rfl (hb hby d9_265) rfl rfl) ?_
  obtain ⟨T93, X93, e93, st93⟩ := getF X92 hx hZ hown (host := "") (Or.inl (hw _ (List.mem_of_getElem? (i := 58) rfl))) Via.refl e92 F_size_r0 (g := (mkF m 266 #[rv r0, iv (oI r), jv (Vv r), .second, jv (Ss r), .second, iv 0, iv (oI j82), rv rn] [(.ref r0), (.ref r0)])) rfl rfl (hb hby d9_266)
  refine gs st93 ?_
  show Go p e below s QQ 0 0 (T93.setTop (mkF m 269 #[rv r0, iv (oI r), jv (Vv r), .second, jv (Ss r), .second, iv 0, iv (oI j82), rv rn] [(.int (oI kn)), (.ref r0)]))
  refine gs (fun t => XS.iconst X93.here hx rfl (hb hby d9_269)) ?_
  refine gs (fun t => XS.iadd X93.here hx rfl (hb hby d9_270) rfl) ?_
  show Go p e below s QQ 0 0 (T93.setTop (mkF m 271 #[rv r0, iv (oI r), jv (Vv r), .second, jv (Ss r), .second, iv 0, iv (oI j82), rv rn] [(.int ((oI kn) + (1 : Int32))), (.ref r0)]))
  rw [show ((oI kn) + (1 : Int32)) = (oI (kn + 1)) from oI_add (a := kn) (b := 1) (by omega)]
  show Go p e below s QQ 0 0 (T93.setTop (mkF m 271 #[rv r0, iv (oI r), jv (Vv r), .second, jv (Ss r), .second, iv 0, iv (oI j82), rv rn] [(.int (oI (kn + 1))), (.ref r0)]))
  obtain ⟨T94, h94, X94, e94, W94, st94⟩ := putF X93 hx hZ hown (host := "") (Or.inl (hw _ (List.mem_of_getElem? (i := 58) rfl))) Via.refl e93 F_size_r0 E_r0 (Or.inl (hw _ (List.mem_of_getElem? (i := 59) rfl))) (hw _ (List.mem_of_getElem? (i := 32) rfl)) (ty := .int) (by decide) rfl rfl (g := (mkF m 271 #[rv r0, iv (oI r), jv (Vv r), .second, jv (Ss r), .second, iv 0, iv (oI j82), rv rn] [(.int (oI (kn + 1))), (.ref r0)])) rfl rfl (hb hby d9_271)
  replace N0 := Fr.snoc X94 N0 ge_r0
  refine gs st94 ?_
  show Go p e below s QQ 0 0 (T94.setTop (mkF m 274 #[rv r0, iv (oI r), jv (Vv r), .second, jv (Ss r), .second, iv 0, iv (oI j82), rv rn] []))
  replace F_runs_r0 := F_runs_r0.other W94 (Or.inr (slot_ne (Or.inl (hw _ (List.mem_of_getElem? (i := 41) rfl))) (Or.inl (hw _ (List.mem_of_getElem? (i := 59) rfl))) (by decide) (t := (.array (.array .int))) (t' := .int) (by decide) (by decide)))
  replace F_sizes_r0 := F_sizes_r0.other W94 (Or.inr (slot_ne (Or.inl (hw _ (List.mem_of_getElem? (i := 43) rfl))) (Or.inl (hw _ (List.mem_of_getElem? (i := 59) rfl))) (by decide) (t := (.array .int)) (t' := .int) (by decide) (by decide)))
  replace F_table_r0 := F_table_r0.other W94 (Or.inr (slot_ne (Or.inr (hw _ (List.mem_of_getElem? (i := 45) rfl))) (Or.inl (hw _ (List.mem_of_getElem? (i := 59) rfl))) (by decide) (t := (.object "com/example/interval/interval/service/SlotTable")) (t' := .int) (by decide) (by decide)))
  replace F_field_r0 := F_field_r0.other W94 (Or.inr (slot_ne (Or.inr (hw _ (List.mem_of_getElem? (i := 47) rfl))) (Or.inl (hw _ (List.mem_of_getElem? (i := 59) rfl))) (by decide) (t := .int) (t' := .int) (by decide) (by decide)))
  replace F_size_r0 := F_size_r0.same W94
  replace F_runCount_r0 := F_runCount_r0.other W94 (Or.inr (slot_ne (Or.inl (hw _ (List.mem_of_getElem? (i := 71) rfl))) (Or.inl (hw _ (List.mem_of_getElem? (i := 59) rfl))) (by decide) (t := .int) (t' := .int) (by decide) (by decide)))
  replace E_r0 := E_r0.wr W94
  replace V_ra := V_ra.other W94 (Ne.symm ne_r0_ra)
  replace V_sz := V_sz.other W94 (Ne.symm ne_r0_sz)
  replace E_tb := E_tb.wr W94
  replace F_pages_tb := F_pages_tb.other W94 (Or.inl (Ne.symm ne_r0_tb))
  replace V_pg := V_pg.other W94 (Ne.symm ne_r0_pg)
  replace V_pa := V_pa.other W94 (Ne.symm ne_r0_pa)
  replace V_rn := V_rn.other W94 (Ne.symm ne_r0_rn)
  replace ZZ : n0 ≤ h94.size := by rw [W94.size]; exact ZZ
  replace KK := KK.wr W94 (Or.inl (by simp))
  exact goV X94 hx Bd.notSynchronized Bd.returns (hb hby d9_274) (by rw [← hQQ, e94]; exact ⟨j82, rfl, N0, KK, F_runs_r0, F_sizes_r0, F_table_r0, F_field_r0, F_size_r0, F_runCount_r0, V_ra, V_sz, V_rn, hj82⟩) (by decide) (by decide)
theorem d19_0 : decode prog_26_method_18_code 0 = .ok (.aload_n 0, 1) := by decide +kernel
theorem d19_1 : decode prog_26_method_18_code 1 = .ok (.getfield 11, 3) := by decide +kernel
theorem d19_4 : decode prog_26_method_18_code 4 = .ok (.iload_n 1, 1) := by decide +kernel
theorem d19_5 : decode prog_26_method_18_code 5 = .ok (.iconst 1, 1) := by decide +kernel
theorem d19_6 : decode prog_26_method_18_code 6 = .ok (.iadd, 1) := by decide +kernel
theorem d19_7 : decode prog_26_method_18_code 7 = .ok (.aload_n 0, 1) := by decide +kernel
theorem d19_8 : decode prog_26_method_18_code 8 = .ok (.getfield 11, 3) := by decide +kernel
theorem d19_11 : decode prog_26_method_18_code 11 = .ok (.iload_n 1, 1) := by decide +kernel
theorem d19_12 : decode prog_26_method_18_code 12 = .ok (.aload_n 0, 1) := by decide +kernel
theorem d19_13 : decode prog_26_method_18_code 13 = .ok (.getfield 44, 3) := by decide +kernel
theorem d19_16 : decode prog_26_method_18_code 16 = .ok (.iload_n 1, 1) := by decide +kernel
theorem d19_17 : decode prog_26_method_18_code 17 = .ok (.isub, 1) := by decide +kernel
theorem d19_18 : decode prog_26_method_18_code 18 = .ok (.iconst 1, 1) := by decide +kernel
theorem d19_19 : decode prog_26_method_18_code 19 = .ok (.isub, 1) := by decide +kernel
theorem d19_20 : decode prog_26_method_18_code 20 = .ok (.invokestatic 76, 3) := by decide +kernel
theorem d19_23 : decode prog_26_method_18_code 23 = .ok (.aload_n 0, 1) := by decide +kernel
theorem d19_24 : decode prog_26_method_18_code 24 = .ok (.getfield 15, 3) := by decide +kernel
theorem d19_27 : decode prog_26_method_18_code 27 = .ok (.iload_n 1, 1) := by decide +kernel
theorem d19_28 : decode prog_26_method_18_code 28 = .ok (.iconst 1, 1) := by decide +kernel
theorem d19_29 : decode prog_26_method_18_code 29 = .ok (.iadd, 1) := by decide +kernel
theorem d19_30 : decode prog_26_method_18_code 30 = .ok (.aload_n 0, 1) := by decide +kernel
theorem d19_31 : decode prog_26_method_18_code 31 = .ok (.getfield 15, 3) := by decide +kernel
theorem d19_34 : decode prog_26_method_18_code 34 = .ok (.iload_n 1, 1) := by decide +kernel
theorem d19_35 : decode prog_26_method_18_code 35 = .ok (.aload_n 0, 1) := by decide +kernel
theorem d19_36 : decode prog_26_method_18_code 36 = .ok (.getfield 44, 3) := by decide +kernel
theorem d19_39 : decode prog_26_method_18_code 39 = .ok (.iload_n 1, 1) := by decide +kernel
theorem d19_40 : decode prog_26_method_18_code 40 = .ok (.isub, 1) := by decide +kernel
theorem d19_41 : decode prog_26_method_18_code 41 = .ok (.iconst 1, 1) := by decide +kernel
theorem d19_42 : decode prog_26_method_18_code 42 = .ok (.isub, 1) := by decide +kernel
theorem d19_43 : decode prog_26_method_18_code 43 = .ok (.invokestatic 76, 3) := by decide +kernel
theorem d19_46 : decode prog_26_method_18_code 46 = .ok (.aload_n 0, 1) := by decide +kernel
theorem d19_47 : decode prog_26_method_18_code 47 = .ok (.dup, 1) := by decide +kernel
theorem d19_48 : decode prog_26_method_18_code 48 = .ok (.getfield 44, 3) := by decide +kernel
theorem d19_51 : decode prog_26_method_18_code 51 = .ok (.iconst 1, 1) := by decide +kernel
theorem d19_52 : decode prog_26_method_18_code 52 = .ok (.isub, 1) := by decide +kernel
theorem d19_53 : decode prog_26_method_18_code 53 = .ok (.putfield 44, 3) := by decide +kernel
theorem d19_56 : decode prog_26_method_18_code 56 = .ok (.aload_n 0, 1) := by decide +kernel
theorem d19_57 : decode prog_26_method_18_code 57 = .ok (.getfield 11, 3) := by decide +kernel
theorem d19_60 : decode prog_26_method_18_code 60 = .ok (.aload_n 0, 1) := by decide +kernel
theorem d19_61 : decode prog_26_method_18_code 61 = .ok (.getfield 44, 3) := by decide +kernel
theorem d19_64 : decode prog_26_method_18_code 64 = .ok (.aconst_null, 1) := by decide +kernel
theorem d19_65 : decode prog_26_method_18_code 65 = .ok (.aastore, 1) := by decide +kernel
theorem d19_66 : decode prog_26_method_18_code 66 = .ok (.return_, 1) := by decide +kernel
theorem pn_19 : plainName "com/example/interval/interval/service/SlotOrder" = true := by first | (simp [plainName, overriddenIn]; done) | decide +kernel
def QrmDr (Z : State) (r0 : Addr) (ra : Addr) (sz : Addr) (rn : Addr) (tb : Addr) (fl : Nat) (z0 : Int32) (h0 : Heap) (n0 : Nat) (v : Option Value) (h : Heap) (L : List Loc) : Prop := v = none ∧ Fr n0 L ∧ Keep h0 h [r0, ra, sz] ∧ Fld Z h r0 "com/example/interval/interval/service/SlotOrder" "runs" "[[I" (.ref ra) ∧ Fld Z h r0 "com/example/interval/interval/service/SlotOrder" "sizes" "[I" (.ref sz) ∧ Fld Z h r0 "com/example/interval/interval/service/SlotOrder" "table" "Lcom/example/interval/interval/service/SlotTable;" (.ref tb) ∧ Fld Z h r0 "com/example/interval/interval/service/SlotOrder" "field" "I" (.int (oI fl)) ∧ Fld Z h r0 "com/example/interval/interval/service/SlotOrder" "size" "I" (.int (oI 0)) ∧ Fld Z h r0 "com/example/interval/interval/service/SlotOrder" "runCount" "I" (.int (0 : Int32))
set_option maxRecDepth 65536 in
set_option maxHeartbeats 40000000 in
theorem rmDr (l : Launch) (Z : State) (a0 : Array Value) (hw : ∀ d ∈ tables_1, d.before a0 Z = true) (ws : List Jvm.Cond) (r0 : Addr) (ra : Addr) (sz : Addr) (rn : Addr) (tb : Addr) (fl : Nat) (z0 : Int32) (h0 : Heap) (n0 : Nat) (Z0 : n0 ≤ h0.size) (F_runs_r0 : Fld Z h0 r0 "com/example/interval/interval/service/SlotOrder" "runs" "[[I" (.ref ra)) (F_sizes_r0 : Fld Z h0 r0 "com/example/interval/interval/service/SlotOrder" "sizes" "[I" (.ref sz)) (F_table_r0 : Fld Z h0 r0 "com/example/interval/interval/service/SlotOrder" "table" "Lcom/example/interval/interval/service/SlotTable;" (.ref tb)) (F_field_r0 : Fld Z h0 r0 "com/example/interval/interval/service/SlotOrder" "field" "I" (.int (oI fl))) (F_size_r0 : Fld Z h0 r0 "com/example/interval/interval/service/SlotOrder" "size" "I" (.int (oI 0))) (F_runCount_r0 : Fld Z h0 r0 "com/example/interval/interval/service/SlotOrder" "runCount" "I" (.int (1 : Int32))) (E_r0 : Exa Z h0 r0 "com/example/interval/interval/service/SlotOrder") (V_ra : Arf Z h0 ra (.array .int) 1 (fun _ => .ref rn)) (V_sz : Arf Z h0 sz .int 1 (fun _ => .int z0)) (ge_r0 : n0 ≤ r0) (ge_ra : n0 ≤ ra) (ge_sz : n0 ≤ sz) (ne_r0_ra : r0 ≠ ra) (ne_r0_sz : r0 ≠ sz) (ne_ra_sz : ra ≠ sz) :
    MetFree l (⟨"com/example/interval/interval/service/SlotOrder", "deleteRun", "(I)V"⟩ : MethodName) (head1 (Jvm.Cond.code (⟨"com/example/interval/interval/service/SlotOrder", "deleteRun", "(I)V"⟩ : MethodName) prog_26_method_18_code 2 none :: ws) ({ frames := 1, cells := 0, slots := 0, locals := 18 } : Room)) (fun a U => a = #[(.ref r0), (.int (0 : Int32))] ∧ Z.Warmed39 U.vm ∧ U.heap = h0) (fun _ _ _ _ _ => True) (fun _ U o U' => ∃ v L, o = .returned v ∧ QrmDr Z r0 ra sz rn tb fl z0 h0 n0 v U'.heap L ∧ FrameEnd U o U' L ({ frames := 1, cells := 0, slots := 0, locals := 18 } : Room).cells ({ frames := 1, cells := 0, slots := 0, locals := 18 } : Room).slots) := by
  refine MetFree.of_bodySF (plainFor_of_name pn_19) hisR ?_
  intro p e s m args below meth c s₁ Bd hml0 hP hK
  obtain ⟨rfl, hZ, hh⟩ := hP
  have hx := Bd.exec
  have hby := Bd.bytes
  have hml : c.maxLocals = 2 := hml0
  have hown : s.vm.findClass "com/example/interval/interval/service/SlotOrder" = some m.cls := findClass_of_methodNamed Bd.named
  have hnm := (name_of_methodNamed Bd.named Bd.method).1
  have X0 : Stand p l e ({ frames := 1, cells := 0, slots := 0, locals := 18 } : Room) s m #[(.ref r0), (.int (0 : Int32))] below meth c s₁ [] 0 0 := Stand.of_body Bd
  have e0 : s₁.heap = h0 := by rw [← hh, Bd.state]; rfl
  have N0 := Fr.nil n0
  have ZZ := Z0
  have KK : Keep h0 h0 [r0, ra, sz] := Keep.refl h0 _
  show Go p e below s (QrmDr Z r0 ra sz rn tb fl z0 h0 n0) 0 0 (s₁.setTop (entryFrame m #[(.ref r0), (.int (0 : Int32))] 2))
  generalize hQQ : (QrmDr Z r0 ra sz rn tb fl z0 h0 n0) = QQ
  refine gs (fun t k => castTop (g' := (mkF m 0 #[rv r0, iv 0] [])) (by first | (simp [entryFrame, mkF, argsToLocals, Value.category, maxLocals]; done) | rfl) k) ?_
  show Go p e below s QQ 0 0 (s₁.setTop (mkF m 0 #[rv r0, iv 0] []))
  refine gs (fun t => XS.aloadN X0.here hx rfl (hb hby d19_0) rfl rfl) ?_
  obtain ⟨T95, X95, e95, st95⟩ := getF X0 hx hZ hown (host := "") (Or.inl (hw _ (List.mem_of_getElem? (i := 40) rfl))) Via.refl e0 F_runs_r0 (g := (mkF m 1 #[rv r0, iv 0] [(.ref r0)])) rfl rfl (hb hby d19_1)
  refine gs st95 ?_
  show Go p e below s QQ 0 0 (T95.setTop (mkF m 4 #[rv r0, iv 0] [(.ref ra)]))
  refine gs (fun t => XS.iloadN X95.here hx rfl (hb hby d19_4) rfl) ?_
  refine gs (fun t => XS.iconst X95.here hx rfl (hb hby d19_5)) ?_
  refine gs (fun t => XS.iadd X95.here hx rfl (hb hby d19_6) rfl) ?_
  refine gs (fun t => XS.aloadN X95.here hx rfl (hb hby d19_7) rfl rfl) ?_
  obtain ⟨T96, X96, e96, st96⟩ := getF X95 hx hZ hown (host := "") (Or.inl (hw _ (List.mem_of_getElem? (i := 40) rfl))) Via.refl e95 F_runs_r0 (g := (mkF m 8 #[rv r0, iv 0] [(.ref r0), (.int (1 : Int32)), (.ref ra)])) rfl rfl (hb hby d19_8)
  refine gs st96 ?_
  show Go p e below s QQ 0 0 (T96.setTop (mkF m 11 #[rv r0, iv 0] [(.ref ra), (.int (1 : Int32)), (.ref ra)]))
  refine gs (fun t => XS.iloadN X96.here hx rfl (hb hby d19_11) rfl) ?_
  refine gs (fun t => XS.aloadN X96.here hx rfl (hb hby d19_12) rfl rfl) ?_
  obtain ⟨T97, X97, e97, st97⟩ := getF X96 hx hZ hown (host := "") (Or.inl (hw _ (List.mem_of_getElem? (i := 70) rfl))) Via.refl e96 F_runCount_r0 (g := (mkF m 13 #[rv r0, iv 0] [(.ref r0), (.int (0 : Int32)), (.ref ra), (.int (1 : Int32)), (.ref ra)])) rfl rfl (hb hby d19_13)
  refine gs st97 ?_
  show Go p e below s QQ 0 0 (T97.setTop (mkF m 16 #[rv r0, iv 0] [(.int (1 : Int32)), (.int (0 : Int32)), (.ref ra), (.int (1 : Int32)), (.ref ra)]))
  refine gs (fun t => XS.iloadN X97.here hx rfl (hb hby d19_16) rfl) ?_
  refine gs (fun t => XS.isub X97.here hx rfl (hb hby d19_17) rfl) ?_
  refine gs (fun t => XS.iconst X97.here hx rfl (hb hby d19_18)) ?_
  refine gs (fun t => XS.isub X97.here hx rfl (hb hby d19_19) rfl) ?_
  obtain ⟨T98, h98, L98, X98, e98, Nn98, K98, V98, st98⟩ := own_cp X97 hx hZ hown (hw _ (List.mem_of_getElem? (i := 76) rfl)) (hw _ (List.mem_of_getElem? (i := 79) rfl)) (hw _ (List.mem_of_getElem? (i := 77) rfl)) (hw _ (List.mem_of_getElem? (i := 78) rfl)) e97 V_ra (fun _ _ => rfl) (S := 1) (D := 0) (K := 0) (Or.inr ⟨rfl, rfl⟩) (by decide) (by decide) (by decide) (by decide) (by decide) (by decide) (by decide) (by decide) (f' := (fun _ => .ref rn)) (fun i hi => by rw [if_neg (by omega)]) N0 ge_ra (g := (mkF m 20 #[rv r0, iv 0] [(.int (0 : Int32)), (.int (0 : Int32)), (.ref ra), (.int (1 : Int32)), (.ref ra)])) rfl (by rw [hml]; rfl) rfl (hb hby d19_20) (by decide) (W := 0) (by show 2 * 0 + _ ≤ _; exact Nat.le_of_eq rfl) (by decide)
  replace N0 := Nn98
  refine gs st98 ?_
  show Go p e below s QQ 0 0 (T98.setTop (mkF m 23 #[rv r0, iv 0] []))
  replace F_runs_r0 := F_runs_r0.keep K98 (ninS ne_r0_ra nin0)
  replace F_sizes_r0 := F_sizes_r0.keep K98 (ninS ne_r0_ra nin0)
  replace F_table_r0 := F_table_r0.keep K98 (ninS ne_r0_ra nin0)
  replace F_field_r0 := F_field_r0.keep K98 (ninS ne_r0_ra nin0)
  replace F_size_r0 := F_size_r0.keep K98 (ninS ne_r0_ra nin0)
  replace F_runCount_r0 := F_runCount_r0.keep K98 (ninS ne_r0_ra nin0)
  replace E_r0 := E_r0.keep K98
  replace V_sz := V_sz.keep K98 (ninS (Ne.symm ne_ra_sz) nin0)
  replace ZZ := Nat.le_trans ZZ K98.1
  replace KK := KK.trans K98 (allS (Or.inl (by simp)) all0)
  have V_ra := V98
  refine gs (fun t => XS.aloadN X98.here hx rfl (hb hby d19_23) rfl rfl) ?_
  obtain ⟨T99, X99, e99, st99⟩ := getF X98 hx hZ hown (host := "") (Or.inl (hw _ (List.mem_of_getElem? (i := 42) rfl))) Via.refl e98 F_sizes_r0 (g := (mkF m 24 #[rv r0, iv 0] [(.ref r0)])) rfl rfl (hb hby d19_24)
  refine gs st99 ?_
  show Go p e below s QQ 0 0 (T99.setTop (mkF m 27 #[rv r0, iv 0] [(.ref sz)]))
  refine gs (fun t => XS.iloadN X99.here hx rfl (hb hby d19_27) rfl) ?_
  refine gs (fun t => XS.iconst X99.here hx rfl (hb hby d19_28)) ?_
  refine gs (fun t => XS.iadd X99.here hx rfl (hb hby d19_29) rfl) ?_
  refine gs (fun t => XS.aloadN X99.here hx rfl (hb hby d19_30) rfl rfl) ?_
  obtain ⟨T100, X100, e100, st100⟩ := getF X99 hx hZ hown (host := "") (Or.inl (hw _ (List.mem_of_getElem? (i := 42) rfl))) Via.refl e99 F_sizes_r0 (g := (mkF m 31 #[rv r0, iv 0] [(.ref r0), (.int (1 : Int32)), (.ref sz)])) rfl rfl (hb hby d19_31)
  refine gs st100 ?_
  show Go p e below s QQ 0 0 (T100.setTop (mkF m 34 #[rv r0, iv 0] [(.ref sz), (.int (1 : Int32)), (.ref sz)]))
  refine gs (fun t => XS.iloadN X100.here hx rfl (hb hby d19_34) rfl) ?_
  refine gs (fun t => XS.aloadN X100.here hx rfl (hb hby d19_35) rfl rfl) ?_
  obtain ⟨T101, X101, e101, st101⟩ := getF X100 hx hZ hown (host := "") (Or.inl (hw _ (List.mem_of_getElem? (i := 70) rfl))) Via.refl e100 F_runCount_r0 (g := (mkF m 36 #[rv r0, iv 0] [(.ref r0), (.int (0 : Int32)), (.ref sz), (.int (1 : Int32)), (.ref sz)])) rfl rfl (hb hby d19_36)
  refine gs st101 ?_
  show Go p e below s QQ 0 0 (T101.setTop (mkF m 39 #[rv r0, iv 0] [(.int (1 : Int32)), (.int (0 : Int32)), (.ref sz), (.int (1 : Int32)), (.ref sz)]))
  refine gs (fun t => XS.iloadN X101.here hx rfl (hb hby d19_39) rfl) ?_
  refine gs (fun t => XS.isub X101.here hx rfl (hb hby d19_40) rfl) ?_
  refine gs (fun t => XS.iconst X101.here hx rfl (hb hby d19_41)) ?_
  refine gs (fun t => XS.isub X101.here hx rfl (hb hby d19_42) rfl) ?_
  obtain ⟨T102, h102, L102, X102, e102, Nn102, K102, V102, st102⟩ := own_cp X101 hx hZ hown (hw _ (List.mem_of_getElem? (i := 76) rfl)) (hw _ (List.mem_of_getElem? (i := 79) rfl)) (hw _ (List.mem_of_getElem? (i := 77) rfl)) (hw _ (List.mem_of_getElem? (i := 78) rfl)) e101 V_sz (fun _ _ => rfl) (S := 1) (D := 0) (K := 0) (Or.inl rfl) (by decide) (by decide) (by decide) (by decide) (by decide) (by decide) (by decide) (by decide) (f' := (fun _ => .int z0)) (fun i hi => by rw [if_neg (by omega)]) N0 ge_sz (g := (mkF m 43 #[rv r0, iv 0] [(.int (0 : Int32)), (.int (0 : Int32)), (.ref sz), (.int (1 : Int32)), (.ref sz)])) rfl (by rw [hml]; rfl) rfl (hb hby d19_43) (by decide) (W := 0) (by show 2 * 0 + _ ≤ _; exact Nat.le_of_eq rfl) (by decide)
  replace N0 := Nn102
  refine gs st102 ?_
  show Go p e below s QQ 0 0 (T102.setTop (mkF m 46 #[rv r0, iv 0] []))
  replace F_runs_r0 := F_runs_r0.keep K102 (ninS ne_r0_sz nin0)
  replace F_sizes_r0 := F_sizes_r0.keep K102 (ninS ne_r0_sz nin0)
  replace F_table_r0 := F_table_r0.keep K102 (ninS ne_r0_sz nin0)
  replace F_field_r0 := F_field_r0.keep K102 (ninS ne_r0_sz nin0)
  replace F_size_r0 := F_size_r0.keep K102 (ninS ne_r0_sz nin0)
  replace F_runCount_r0 := F_runCount_r0.keep K102 (ninS ne_r0_sz nin0)
  replace E_r0 := E_r0.keep K102
  replace V_ra := V_ra.keep K102 (ninS ne_ra_sz nin0)
  replace ZZ := Nat.le_trans ZZ K102.1
  replace KK := KK.trans K102 (allS (Or.inl (by simp)) all0)
  have V_sz := V102
  refine gs (fun t => XS.aloadN X102.here hx rfl (hb hby d19_46) rfl rfl) ?_
  refine gs (fun t => XS.dup X102.here hx rfl (hb hby d19_47) rfl rfl) ?_
  obtain ⟨T103, X103, e103, st103⟩ := getF X102 hx hZ hown (host := "") (Or.inl (hw _ (List.mem_of_getElem? (i := 70) rfl))) Via.refl e102 F_runCount_r0 (g := (mkF m 48 #[rv r0, iv 0] [(.ref r0), (.ref r0)])) rfl rfl (hb hby d19_48)
  refine gs st103 ?_
  show Go p e below s QQ 0 0 (T103.setTop (mkF m 51 #[rv r0, iv 0] [(.int (1 : Int32)), (.ref r0)]))
  refine gs (fun t => XS.iconst X103.here hx rfl (hb hby d19_51)) ?_
  refine gs (fun t => XS.isub X103.here hx rfl (hb hby d19_52) rfl) ?_
  obtain ⟨T104, h104, X104, e104, W104, st104⟩ := putF X103 hx hZ hown (host := "") (Or.inl (hw _ (List.mem_of_getElem? (i := 70) rfl))) Via.refl e103 F_runCount_r0 E_r0 (Or.inl (hw _ (List.mem_of_getElem? (i := 71) rfl))) (hw _ (List.mem_of_getElem? (i := 32) rfl)) (ty := .int) (by decide) rfl rfl (g := (mkF m 53 #[rv r0, iv 0] [(.int (0 : Int32)), (.ref r0)])) rfl rfl (hb hby d19_53)
  replace N0 := Fr.snoc X104 N0 ge_r0
  refine gs st104 ?_
  show Go p e below s QQ 0 0 (T104.setTop (mkF m 56 #[rv r0, iv 0] []))
  replace F_runs_r0 := F_runs_r0.other W104 (Or.inr (slot_ne (Or.inl (hw _ (List.mem_of_getElem? (i := 41) rfl))) (Or.inl (hw _ (List.mem_of_getElem? (i := 71) rfl))) (by decide) (t := (.array (.array .int))) (t' := .int) (by decide) (by decide)))
  replace F_sizes_r0 := F_sizes_r0.other W104 (Or.inr (slot_ne (Or.inl (hw _ (List.mem_of_getElem? (i := 43) rfl))) (Or.inl (hw _ (List.mem_of_getElem? (i := 71) rfl))) (by decide) (t := (.array .int)) (t' := .int) (by decide) (by decide)))
  replace F_table_r0 := F_table_r0.other W104 (Or.inr (slot_ne (Or.inr (hw _ (List.mem_of_getElem? (i := 45) rfl))) (Or.inl (hw _ (List.mem_of_getElem? (i := 71) rfl))) (by decide) (t := (.object "com/example/interval/interval/service/SlotTable")) (t' := .int) (by decide) (by decide)))
  replace F_field_r0 := F_field_r0.other W104 (Or.inr (slot_ne (Or.inr (hw _ (List.mem_of_getElem? (i := 47) rfl))) (Or.inl (hw _ (List.mem_of_getElem? (i := 71) rfl))) (by decide) (t := .int) (t' := .int) (by decide) (by decide)))
  replace F_size_r0 := F_size_r0.other W104 (Or.inr (slot_ne (Or.inl (hw _ (List.mem_of_getElem? (i := 59) rfl))) (Or.inl (hw _ (List.mem_of_getElem? (i := 71) rfl))) (by decide) (t := .int) (t' := .int) (by decide) (by decide)))
  replace F_runCount_r0 := F_runCount_r0.same W104
  replace E_r0 := E_r0.wr W104
  replace V_ra := V_ra.other W104 (Ne.symm ne_r0_ra)
  replace V_sz := V_sz.other W104 (Ne.symm ne_r0_sz)
  replace ZZ : n0 ≤ h104.size := by rw [W104.size]; exact ZZ
  replace KK := KK.wr W104 (Or.inl (by simp))
  refine gs (fun t => XS.aloadN X104.here hx rfl (hb hby d19_56) rfl rfl) ?_
  obtain ⟨T105, X105, e105, st105⟩ := getF X104 hx hZ hown (host := "") (Or.inl (hw _ (List.mem_of_getElem? (i := 40) rfl))) Via.refl e104 F_runs_r0 (g := (mkF m 57 #[rv r0, iv 0] [(.ref r0)])) rfl rfl (hb hby d19_57)
  refine gs st105 ?_
  show Go p e below s QQ 0 0 (T105.setTop (mkF m 60 #[rv r0, iv 0] [(.ref ra)]))
  refine gs (fun t => XS.aloadN X105.here hx rfl (hb hby d19_60) rfl rfl) ?_
  obtain ⟨T106, X106, e106, st106⟩ := getF X105 hx hZ hown (host := "") (Or.inl (hw _ (List.mem_of_getElem? (i := 70) rfl))) Via.refl e105 F_runCount_r0 (g := (mkF m 61 #[rv r0, iv 0] [(.ref r0), (.ref ra)])) rfl rfl (hb hby d19_61)
  refine gs st106 ?_
  show Go p e below s QQ 0 0 (T106.setTop (mkF m 64 #[rv r0, iv 0] [(.int (0 : Int32)), (.ref ra)]))
  refine gs (fun t => XS.aconstNull X106.here hx rfl (hb hby d19_64)) ?_
  obtain ⟨T107, h107, X107, e107, W107, V107, st107⟩ := stRf X106 hx hZ e106 V_ra rfl (Or.inl rfl) (j := (0 : Int32)) (by decide) (g := (mkF m 65 #[rv r0, iv 0] [.null, (.int (0 : Int32)), (.ref ra)])) rfl rfl (hb hby d19_65)
  replace N0 := Fr.snoc X107 N0 ge_ra
  refine gs st107 ?_
  show Go p e below s QQ 0 0 (T107.setTop (mkF m 66 #[rv r0, iv 0] []))
  replace F_runs_r0 := F_runs_r0.other W107 (Or.inl ne_r0_ra)
  replace F_sizes_r0 := F_sizes_r0.other W107 (Or.inl ne_r0_ra)
  replace F_table_r0 := F_table_r0.other W107 (Or.inl ne_r0_ra)
  replace F_field_r0 := F_field_r0.other W107 (Or.inl ne_r0_ra)
  replace F_size_r0 := F_size_r0.other W107 (Or.inl ne_r0_ra)
  replace F_runCount_r0 := F_runCount_r0.other W107 (Or.inl ne_r0_ra)
  replace E_r0 := E_r0.wr W107
  replace V_sz := V_sz.other W107 (Ne.symm ne_ra_sz)
  replace ZZ : n0 ≤ h107.size := by rw [W107.size]; exact ZZ
  replace KK := KK.wr W107 (Or.inl (by simp))
  replace V_ra : Arf Z h107 ra (.array .int) 1 (updv (fun _ => .ref rn) 0 (.null)) := V107
  exact goV X107 hx Bd.notSynchronized Bd.returns (hb hby d19_66) (by rw [← hQQ, e107]; exact ⟨rfl, N0, KK, F_runs_r0, F_sizes_r0, F_table_r0, F_field_r0, F_size_r0, F_runCount_r0⟩) (by decide) (by decide)
theorem d18_0 : decode prog_26_method_16_code 0 = .ok (.iconst (-1), 1) := by decide +kernel
theorem d18_1 : decode prog_26_method_16_code 1 = .ok (.istore_n 2, 1) := by decide +kernel
theorem d18_2 : decode prog_26_method_16_code 2 = .ok (.iload_n 1, 1) := by decide +kernel
theorem d18_3 : decode prog_26_method_16_code 3 = .ok (.iconst 1, 1) := by decide +kernel
theorem d18_4 : decode prog_26_method_16_code 4 = .ok (.iadd, 1) := by decide +kernel
theorem d18_5 : decode prog_26_method_16_code 5 = .ok (.aload_n 0, 1) := by decide +kernel
theorem d18_6 : decode prog_26_method_16_code 6 = .ok (.getfield 44, 3) := by decide +kernel
theorem d18_9 : decode prog_26_method_16_code 9 = .ok (.if_icmp .ge 29, 3) := by decide +kernel
theorem d18_12 : decode prog_26_method_16_code 12 = .ok (.aload_n 0, 1) := by decide +kernel
theorem d18_13 : decode prog_26_method_16_code 13 = .ok (.getfield 15, 3) := by decide +kernel
theorem d18_16 : decode prog_26_method_16_code 16 = .ok (.iload_n 1, 1) := by decide +kernel
theorem d18_17 : decode prog_26_method_16_code 17 = .ok (.iaload, 1) := by decide +kernel
theorem d18_18 : decode prog_26_method_16_code 18 = .ok (.aload_n 0, 1) := by decide +kernel
theorem d18_19 : decode prog_26_method_16_code 19 = .ok (.getfield 15, 3) := by decide +kernel
theorem d18_22 : decode prog_26_method_16_code 22 = .ok (.iload_n 1, 1) := by decide +kernel
theorem d18_23 : decode prog_26_method_16_code 23 = .ok (.iconst 1, 1) := by decide +kernel
theorem d18_24 : decode prog_26_method_16_code 24 = .ok (.iadd, 1) := by decide +kernel
theorem d18_25 : decode prog_26_method_16_code 25 = .ok (.iaload, 1) := by decide +kernel
theorem d18_26 : decode prog_26_method_16_code 26 = .ok (.iadd, 1) := by decide +kernel
theorem d18_27 : decode prog_26_method_16_code 27 = .ok (.sipush 768, 3) := by decide +kernel
theorem d18_30 : decode prog_26_method_16_code 30 = .ok (.if_icmp .gt 8, 3) := by decide +kernel
theorem d18_33 : decode prog_26_method_16_code 33 = .ok (.iload_n 1, 1) := by decide +kernel
theorem d18_34 : decode prog_26_method_16_code 34 = .ok (.istore_n 2, 1) := by decide +kernel
theorem d18_35 : decode prog_26_method_16_code 35 = .ok (.goto 32, 3) := by decide +kernel
theorem d18_38 : decode prog_26_method_16_code 38 = .ok (.iload_n 1, 1) := by decide +kernel
theorem d18_39 : decode prog_26_method_16_code 39 = .ok (.ifCond .le 28, 3) := by decide +kernel
theorem d18_42 : decode prog_26_method_16_code 42 = .ok (.aload_n 0, 1) := by decide +kernel
theorem d18_43 : decode prog_26_method_16_code 43 = .ok (.getfield 15, 3) := by decide +kernel
theorem d18_46 : decode prog_26_method_16_code 46 = .ok (.iload_n 1, 1) := by decide +kernel
theorem d18_47 : decode prog_26_method_16_code 47 = .ok (.iconst 1, 1) := by decide +kernel
theorem d18_48 : decode prog_26_method_16_code 48 = .ok (.isub, 1) := by decide +kernel
theorem d18_49 : decode prog_26_method_16_code 49 = .ok (.iaload, 1) := by decide +kernel
theorem d18_50 : decode prog_26_method_16_code 50 = .ok (.aload_n 0, 1) := by decide +kernel
theorem d18_51 : decode prog_26_method_16_code 51 = .ok (.getfield 15, 3) := by decide +kernel
theorem d18_54 : decode prog_26_method_16_code 54 = .ok (.iload_n 1, 1) := by decide +kernel
theorem d18_55 : decode prog_26_method_16_code 55 = .ok (.iaload, 1) := by decide +kernel
theorem d18_56 : decode prog_26_method_16_code 56 = .ok (.iadd, 1) := by decide +kernel
theorem d18_57 : decode prog_26_method_16_code 57 = .ok (.sipush 768, 3) := by decide +kernel
theorem d18_60 : decode prog_26_method_16_code 60 = .ok (.if_icmp .gt 7, 3) := by decide +kernel
theorem d18_63 : decode prog_26_method_16_code 63 = .ok (.iload_n 1, 1) := by decide +kernel
theorem d18_64 : decode prog_26_method_16_code 64 = .ok (.iconst 1, 1) := by decide +kernel
theorem d18_65 : decode prog_26_method_16_code 65 = .ok (.isub, 1) := by decide +kernel
theorem d18_66 : decode prog_26_method_16_code 66 = .ok (.istore_n 2, 1) := by decide +kernel
theorem d18_67 : decode prog_26_method_16_code 67 = .ok (.iload_n 2, 1) := by decide +kernel
theorem d18_68 : decode prog_26_method_16_code 68 = .ok (.ifCond .ge 4, 3) := by decide +kernel
theorem d18_71 : decode prog_26_method_16_code 71 = .ok (.return_, 1) := by decide +kernel
theorem d18_72 : decode prog_26_method_16_code 72 = .ok (.iload_n 2, 1) := by decide +kernel
theorem d18_73 : decode prog_26_method_16_code 73 = .ok (.iconst 1, 1) := by decide +kernel
theorem d18_74 : decode prog_26_method_16_code 74 = .ok (.iadd, 1) := by decide +kernel
theorem d18_75 : decode prog_26_method_16_code 75 = .ok (.istore_n 3, 1) := by decide +kernel
theorem d18_76 : decode prog_26_method_16_code 76 = .ok (.aload_n 0, 1) := by decide +kernel
theorem d18_77 : decode prog_26_method_16_code 77 = .ok (.getfield 15, 3) := by decide +kernel
theorem d18_80 : decode prog_26_method_16_code 80 = .ok (.iload_n 2, 1) := by decide +kernel
theorem d18_81 : decode prog_26_method_16_code 81 = .ok (.iaload, 1) := by decide +kernel
theorem d18_82 : decode prog_26_method_16_code 82 = .ok (.aload_n 0, 1) := by decide +kernel
theorem d18_83 : decode prog_26_method_16_code 83 = .ok (.getfield 15, 3) := by decide +kernel
theorem d18_86 : decode prog_26_method_16_code 86 = .ok (.iload_n 3, 1) := by decide +kernel
theorem d18_87 : decode prog_26_method_16_code 87 = .ok (.iaload, 1) := by decide +kernel
theorem d18_88 : decode prog_26_method_16_code 88 = .ok (.iadd, 1) := by decide +kernel
theorem d18_89 : decode prog_26_method_16_code 89 = .ok (.istore 4, 2) := by decide +kernel
theorem d18_91 : decode prog_26_method_16_code 91 = .ok (.aload_n 0, 1) := by decide +kernel
theorem d18_92 : decode prog_26_method_16_code 92 = .ok (.getfield 11, 3) := by decide +kernel
theorem d18_95 : decode prog_26_method_16_code 95 = .ok (.iload_n 2, 1) := by decide +kernel
theorem d18_96 : decode prog_26_method_16_code 96 = .ok (.aaload, 1) := by decide +kernel
theorem d18_97 : decode prog_26_method_16_code 97 = .ok (.arraylength, 1) := by decide +kernel
theorem d18_98 : decode prog_26_method_16_code 98 = .ok (.iload 4, 2) := by decide +kernel
theorem d18_100 : decode prog_26_method_16_code 100 = .ok (.if_icmp .ge 21, 3) := by decide +kernel
theorem d18_103 : decode prog_26_method_16_code 103 = .ok (.aload_n 0, 1) := by decide +kernel
theorem d18_104 : decode prog_26_method_16_code 104 = .ok (.getfield 11, 3) := by decide +kernel
theorem d18_107 : decode prog_26_method_16_code 107 = .ok (.iload_n 2, 1) := by decide +kernel
theorem d18_108 : decode prog_26_method_16_code 108 = .ok (.aload_n 0, 1) := by decide +kernel
theorem d18_109 : decode prog_26_method_16_code 109 = .ok (.getfield 11, 3) := by decide +kernel
theorem d18_112 : decode prog_26_method_16_code 112 = .ok (.iload_n 2, 1) := by decide +kernel
theorem d18_113 : decode prog_26_method_16_code 113 = .ok (.aaload, 1) := by decide +kernel
theorem d18_114 : decode prog_26_method_16_code 114 = .ok (.sipush 1024, 3) := by decide +kernel
theorem d18_117 : decode prog_26_method_16_code 117 = .ok (.invokestatic 70, 3) := by decide +kernel
theorem d18_120 : decode prog_26_method_16_code 120 = .ok (.aastore, 1) := by decide +kernel
theorem d18_121 : decode prog_26_method_16_code 121 = .ok (.aload_n 0, 1) := by decide +kernel
theorem d18_122 : decode prog_26_method_16_code 122 = .ok (.getfield 11, 3) := by decide +kernel
theorem d18_125 : decode prog_26_method_16_code 125 = .ok (.iload_n 3, 1) := by decide +kernel
theorem d18_126 : decode prog_26_method_16_code 126 = .ok (.aaload, 1) := by decide +kernel
theorem d18_127 : decode prog_26_method_16_code 127 = .ok (.iconst 0, 1) := by decide +kernel
theorem d18_128 : decode prog_26_method_16_code 128 = .ok (.aload_n 0, 1) := by decide +kernel
theorem d18_129 : decode prog_26_method_16_code 129 = .ok (.getfield 11, 3) := by decide +kernel
theorem d18_132 : decode prog_26_method_16_code 132 = .ok (.iload_n 2, 1) := by decide +kernel
theorem d18_133 : decode prog_26_method_16_code 133 = .ok (.aaload, 1) := by decide +kernel
theorem d18_134 : decode prog_26_method_16_code 134 = .ok (.aload_n 0, 1) := by decide +kernel
theorem d18_135 : decode prog_26_method_16_code 135 = .ok (.getfield 15, 3) := by decide +kernel
theorem d18_138 : decode prog_26_method_16_code 138 = .ok (.iload_n 2, 1) := by decide +kernel
theorem d18_139 : decode prog_26_method_16_code 139 = .ok (.iaload, 1) := by decide +kernel
theorem d18_140 : decode prog_26_method_16_code 140 = .ok (.aload_n 0, 1) := by decide +kernel
theorem d18_141 : decode prog_26_method_16_code 141 = .ok (.getfield 15, 3) := by decide +kernel
theorem d18_144 : decode prog_26_method_16_code 144 = .ok (.iload_n 3, 1) := by decide +kernel
theorem d18_145 : decode prog_26_method_16_code 145 = .ok (.iaload, 1) := by decide +kernel
theorem d18_146 : decode prog_26_method_16_code 146 = .ok (.invokestatic 76, 3) := by decide +kernel
theorem d18_149 : decode prog_26_method_16_code 149 = .ok (.aload_n 0, 1) := by decide +kernel
theorem d18_150 : decode prog_26_method_16_code 150 = .ok (.getfield 15, 3) := by decide +kernel
theorem d18_153 : decode prog_26_method_16_code 153 = .ok (.iload_n 2, 1) := by decide +kernel
theorem d18_154 : decode prog_26_method_16_code 154 = .ok (.iload 4, 2) := by decide +kernel
theorem d18_156 : decode prog_26_method_16_code 156 = .ok (.iastore, 1) := by decide +kernel
theorem d18_157 : decode prog_26_method_16_code 157 = .ok (.aload_n 0, 1) := by decide +kernel
theorem d18_158 : decode prog_26_method_16_code 158 = .ok (.iload_n 3, 1) := by decide +kernel
theorem d18_159 : decode prog_26_method_16_code 159 = .ok (.invokevirtual 97, 3) := by decide +kernel
theorem d18_162 : decode prog_26_method_16_code 162 = .ok (.return_, 1) := by decide +kernel
theorem pn_18 : plainName "com/example/interval/interval/service/SlotOrder" = true := by first | (simp [plainName, overriddenIn]; done) | decide +kernel
def QrmMs (Z : State) (r0 : Addr) (h0 : Heap) (n0 : Nat) (v : Option Value) (h : Heap) (L : List Loc) : Prop := v = none ∧ Fr n0 L ∧ h = h0
set_option maxRecDepth 65536 in
set_option maxHeartbeats 40000000 in
theorem rmMs (l : Launch) (Z : State) (a0 : Array Value) (hw : ∀ d ∈ tables_1, d.before a0 Z = true) (ws : List Jvm.Cond) (r0 : Addr) (h0 : Heap) (n0 : Nat) (Z0 : n0 ≤ h0.size) (F_runCount_r0 : Fld Z h0 r0 "com/example/interval/interval/service/SlotOrder" "runCount" "I" (.int (1 : Int32))) :
    MetFree l (⟨"com/example/interval/interval/service/SlotOrder", "mergeIfSparse", "(I)V"⟩ : MethodName) (head1 (Jvm.Cond.code (⟨"com/example/interval/interval/service/SlotOrder", "mergeIfSparse", "(I)V"⟩ : MethodName) prog_26_method_16_code 5 none :: ws) ({ frames := 0, cells := 0, slots := 0, locals := 0 } : Room)) (fun a U => a = #[(.ref r0), (.int (0 : Int32))] ∧ Z.Warmed39 U.vm ∧ U.heap = h0) (fun _ _ _ _ _ => True) (fun _ U o U' => ∃ v L, o = .returned v ∧ QrmMs Z r0 h0 n0 v U'.heap L ∧ FrameEnd U o U' L ({ frames := 0, cells := 0, slots := 0, locals := 0 } : Room).cells ({ frames := 0, cells := 0, slots := 0, locals := 0 } : Room).slots) := by
  refine MetFree.of_bodySF (plainFor_of_name pn_18) hisR ?_
  intro p e s m args below meth c s₁ Bd hml0 hP hK
  obtain ⟨rfl, hZ, hh⟩ := hP
  have hx := Bd.exec
  have hby := Bd.bytes
  have hml : c.maxLocals = 5 := hml0
  have hown : s.vm.findClass "com/example/interval/interval/service/SlotOrder" = some m.cls := findClass_of_methodNamed Bd.named
  have hnm := (name_of_methodNamed Bd.named Bd.method).1
  have X0 : Stand p l e ({ frames := 0, cells := 0, slots := 0, locals := 0 } : Room) s m #[(.ref r0), (.int (0 : Int32))] below meth c s₁ [] 0 0 := Stand.of_body Bd
  have e0 : s₁.heap = h0 := by rw [← hh, Bd.state]; rfl
  have N0 := Fr.nil n0
  have ZZ := Z0
  show Go p e below s (QrmMs Z r0 h0 n0) 0 0 (s₁.setTop (entryFrame m #[(.ref r0), (.int (0 : Int32))] 5))
  generalize hQQ : (QrmMs Z r0 h0 n0) = QQ
  refine gs (fun t k => castTop (g' := (mkF m 0 #[rv r0, iv 0, .unset, .unset, .unset] [])) (by first | (simp [entryFrame, mkF, argsToLocals, Value.category, maxLocals]; done) | rfl) k) ?_
  show Go p e below s QQ 0 0 (s₁.setTop (mkF m 0 #[rv r0, iv 0, .unset, .unset, .unset] []))
  refine gs (fun t => XS.iconst X0.here hx rfl (hb hby d18_0)) ?_
  refine gs (fun t => XS.istoreN X0.here hx rfl (hb hby d18_1) rfl (l' := #[rv r0, iv 0, iv (-1), .unset, .unset]) rfl) ?_
  refine gs (fun t => XS.iloadN X0.here hx rfl (hb hby d18_2) rfl) ?_
  refine gs (fun t => XS.iconst X0.here hx rfl (hb hby d18_3)) ?_
  refine gs (fun t => XS.iadd X0.here hx rfl (hb hby d18_4) rfl) ?_
  refine gs (fun t => XS.aloadN X0.here hx rfl (hb hby d18_5) rfl rfl) ?_
  show Go p e below s QQ 0 0 (s₁.setTop (mkF m 6 #[rv r0, iv 0, iv (-1), .unset, .unset] [(.ref r0), (.int (1 : Int32))]))
  obtain ⟨T108, X108, e108, st108⟩ := getF X0 hx hZ hown (host := "") (Or.inl (hw _ (List.mem_of_getElem? (i := 70) rfl))) Via.refl e0 F_runCount_r0 (g := (mkF m 6 #[rv r0, iv 0, iv (-1), .unset, .unset] [(.ref r0), (.int (1 : Int32))])) rfl rfl (hb hby d18_6)
  refine gs st108 ?_
  show Go p e below s QQ 0 0 (T108.setTop (mkF m 9 #[rv r0, iv 0, iv (-1), .unset, .unset] [(.int (1 : Int32)), (.int (1 : Int32))]))
  refine gs (fun t => XS.icmpYes X108.here hx rfl (pc0 := 9) (pc' := 38) rfl (hb hby d18_9) rfl (flt (by decide : ¬ ((1 : Int32) < (1 : Int32)))).2.1 (by decide) (by decide)) ?_
  refine gs (fun t => XS.iloadN X108.here hx rfl (hb hby d18_38) rfl) ?_
  refine gs (fun t => XS.ifYes X108.here hx rfl (pc0 := 39) (pc' := 67) rfl (hb hby d18_39) rfl ((if0 _ _).trans (flt (by decide : ¬ ((0 : Int32) < (0 : Int32)))).2.2.2) (by decide) (by decide)) ?_
  refine gs (fun t => XS.iloadN X108.here hx rfl (hb hby d18_67) rfl) ?_
  refine gs (fun t => XS.ifNo X108.here hx rfl (hb hby d18_68) rfl ((if0 _ _).trans (tlt (by decide : (-1 : Int32) < (0 : Int32))).2.1)) ?_
  exact goV X108 hx Bd.notSynchronized Bd.returns (hb hby d18_71) (by rw [← hQQ, e108]; exact ⟨rfl, N0, rfl⟩) (by decide) (by decide)
theorem d17_0 : decode prog_26_method_14_code 0 = .ok (.aload_n 0, 1) := by decide +kernel
theorem d17_1 : decode prog_26_method_14_code 1 = .ok (.getfield 11, 3) := by decide +kernel
theorem d17_4 : decode prog_26_method_14_code 4 = .ok (.iload_n 1, 1) := by decide +kernel
theorem d17_5 : decode prog_26_method_14_code 5 = .ok (.aaload, 1) := by decide +kernel
theorem d17_6 : decode prog_26_method_14_code 6 = .ok (.astore_n 3, 1) := by decide +kernel
theorem d17_7 : decode prog_26_method_14_code 7 = .ok (.aload_n 3, 1) := by decide +kernel
theorem d17_8 : decode prog_26_method_14_code 8 = .ok (.iload_n 2, 1) := by decide +kernel
theorem d17_9 : decode prog_26_method_14_code 9 = .ok (.iconst 1, 1) := by decide +kernel
theorem d17_10 : decode prog_26_method_14_code 10 = .ok (.iadd, 1) := by decide +kernel
theorem d17_11 : decode prog_26_method_14_code 11 = .ok (.aload_n 3, 1) := by decide +kernel
theorem d17_12 : decode prog_26_method_14_code 12 = .ok (.iload_n 2, 1) := by decide +kernel
theorem d17_13 : decode prog_26_method_14_code 13 = .ok (.aload_n 0, 1) := by decide +kernel
theorem d17_14 : decode prog_26_method_14_code 14 = .ok (.getfield 15, 3) := by decide +kernel
theorem d17_17 : decode prog_26_method_14_code 17 = .ok (.iload_n 1, 1) := by decide +kernel
theorem d17_18 : decode prog_26_method_14_code 18 = .ok (.iaload, 1) := by decide +kernel
theorem d17_19 : decode prog_26_method_14_code 19 = .ok (.iload_n 2, 1) := by decide +kernel
theorem d17_20 : decode prog_26_method_14_code 20 = .ok (.isub, 1) := by decide +kernel
theorem d17_21 : decode prog_26_method_14_code 21 = .ok (.iconst 1, 1) := by decide +kernel
theorem d17_22 : decode prog_26_method_14_code 22 = .ok (.isub, 1) := by decide +kernel
theorem d17_23 : decode prog_26_method_14_code 23 = .ok (.invokestatic 76, 3) := by decide +kernel
theorem d17_26 : decode prog_26_method_14_code 26 = .ok (.aload_n 0, 1) := by decide +kernel
theorem d17_27 : decode prog_26_method_14_code 27 = .ok (.getfield 15, 3) := by decide +kernel
theorem d17_30 : decode prog_26_method_14_code 30 = .ok (.iload_n 1, 1) := by decide +kernel
theorem d17_31 : decode prog_26_method_14_code 31 = .ok (.dup2, 1) := by decide +kernel
theorem d17_32 : decode prog_26_method_14_code 32 = .ok (.iaload, 1) := by decide +kernel
theorem d17_33 : decode prog_26_method_14_code 33 = .ok (.iconst 1, 1) := by decide +kernel
theorem d17_34 : decode prog_26_method_14_code 34 = .ok (.isub, 1) := by decide +kernel
theorem d17_35 : decode prog_26_method_14_code 35 = .ok (.iastore, 1) := by decide +kernel
theorem d17_36 : decode prog_26_method_14_code 36 = .ok (.aload_n 0, 1) := by decide +kernel
theorem d17_37 : decode prog_26_method_14_code 37 = .ok (.dup, 1) := by decide +kernel
theorem d17_38 : decode prog_26_method_14_code 38 = .ok (.getfield 26, 3) := by decide +kernel
theorem d17_41 : decode prog_26_method_14_code 41 = .ok (.iconst 1, 1) := by decide +kernel
theorem d17_42 : decode prog_26_method_14_code 42 = .ok (.isub, 1) := by decide +kernel
theorem d17_43 : decode prog_26_method_14_code 43 = .ok (.putfield 26, 3) := by decide +kernel
theorem d17_46 : decode prog_26_method_14_code 46 = .ok (.aload_n 0, 1) := by decide +kernel
theorem d17_47 : decode prog_26_method_14_code 47 = .ok (.getfield 15, 3) := by decide +kernel
theorem d17_50 : decode prog_26_method_14_code 50 = .ok (.iload_n 1, 1) := by decide +kernel
theorem d17_51 : decode prog_26_method_14_code 51 = .ok (.iaload, 1) := by decide +kernel
theorem d17_52 : decode prog_26_method_14_code 52 = .ok (.ifCond .ne 11, 3) := by decide +kernel
theorem d17_55 : decode prog_26_method_14_code 55 = .ok (.aload_n 0, 1) := by decide +kernel
theorem d17_56 : decode prog_26_method_14_code 56 = .ok (.iload_n 1, 1) := by decide +kernel
theorem d17_57 : decode prog_26_method_14_code 57 = .ok (.invokevirtual 97, 3) := by decide +kernel
theorem d17_60 : decode prog_26_method_14_code 60 = .ok (.goto 20, 3) := by decide +kernel
theorem d17_63 : decode prog_26_method_14_code 63 = .ok (.aload_n 0, 1) := by decide +kernel
theorem d17_64 : decode prog_26_method_14_code 64 = .ok (.getfield 15, 3) := by decide +kernel
theorem d17_67 : decode prog_26_method_14_code 67 = .ok (.iload_n 1, 1) := by decide +kernel
theorem d17_68 : decode prog_26_method_14_code 68 = .ok (.iaload, 1) := by decide +kernel
theorem d17_69 : decode prog_26_method_14_code 69 = .ok (.sipush 256, 3) := by decide +kernel
theorem d17_72 : decode prog_26_method_14_code 72 = .ok (.if_icmp .ge 8, 3) := by decide +kernel
theorem d17_75 : decode prog_26_method_14_code 75 = .ok (.aload_n 0, 1) := by decide +kernel
theorem d17_76 : decode prog_26_method_14_code 76 = .ok (.iload_n 1, 1) := by decide +kernel
theorem d17_77 : decode prog_26_method_14_code 77 = .ok (.invokevirtual 101, 3) := by decide +kernel
theorem d17_80 : decode prog_26_method_14_code 80 = .ok (.return_, 1) := by decide +kernel
theorem pn_17 : plainName "com/example/interval/interval/service/SlotOrder" = true := by first | (simp [plainName, overriddenIn]; done) | decide +kernel
def QrmR1 (Z : State) (r0 : Addr) (j : Nat) (ra : Addr) (sz : Addr) (rn : Addr) (xs : Nat → Nat) (tb : Addr) (fl : Nat) (h0 : Heap) (n0 : Nat) (v : Option Value) (h : Heap) (L : List Loc) : Prop := v = none ∧ Fr n0 L ∧ Keep h0 h [r0, ra, sz, rn] ∧ Fld Z h r0 "com/example/interval/interval/service/SlotOrder" "runs" "[[I" (.ref ra) ∧ Fld Z h r0 "com/example/interval/interval/service/SlotOrder" "sizes" "[I" (.ref sz) ∧ Fld Z h r0 "com/example/interval/interval/service/SlotOrder" "table" "Lcom/example/interval/interval/service/SlotTable;" (.ref tb) ∧ Fld Z h r0 "com/example/interval/interval/service/SlotOrder" "field" "I" (.int (oI fl)) ∧ Fld Z h r0 "com/example/interval/interval/service/SlotOrder" "size" "I" (.int (oI 0)) ∧ Fld Z h r0 "com/example/interval/interval/service/SlotOrder" "runCount" "I" (.int (0 : Int32))
set_option maxRecDepth 65536 in
set_option maxHeartbeats 40000000 in
theorem rmR1 (l : Launch) (Z : State) (a0 : Array Value) (hw : ∀ d ∈ tables_1, d.before a0 Z = true) (ws : List Jvm.Cond) (r0 : Addr) (j : Nat) (ra : Addr) (sz : Addr) (rn : Addr) (xs : Nat → Nat) (tb : Addr) (fl : Nat) (h0 : Heap) (n0 : Nat) (Z0 : n0 ≤ h0.size) (F_runs_r0 : Fld Z h0 r0 "com/example/interval/interval/service/SlotOrder" "runs" "[[I" (.ref ra)) (F_sizes_r0 : Fld Z h0 r0 "com/example/interval/interval/service/SlotOrder" "sizes" "[I" (.ref sz)) (F_table_r0 : Fld Z h0 r0 "com/example/interval/interval/service/SlotOrder" "table" "Lcom/example/interval/interval/service/SlotTable;" (.ref tb)) (F_field_r0 : Fld Z h0 r0 "com/example/interval/interval/service/SlotOrder" "field" "I" (.int (oI fl))) (F_size_r0 : Fld Z h0 r0 "com/example/interval/interval/service/SlotOrder" "size" "I" (.int (oI 1))) (F_runCount_r0 : Fld Z h0 r0 "com/example/interval/interval/service/SlotOrder" "runCount" "I" (.int (1 : Int32))) (E_r0 : Exa Z h0 r0 "com/example/interval/interval/service/SlotOrder") (V_ra : Arf Z h0 ra (.array .int) 1 (fun _ => .ref rn)) (V_sz : Arf Z h0 sz .int 1 (fun _ => .int (oI 1))) (V_rn : Arf Z h0 rn .int 8 (fun i => .int (oI (xs i)))) (ge_r0 : n0 ≤ r0) (ge_ra : n0 ≤ ra) (ge_sz : n0 ≤ sz) (ge_rn : n0 ≤ rn) (ne_r0_ra : r0 ≠ ra) (ne_r0_sz : r0 ≠ sz) (ne_r0_rn : r0 ≠ rn) (ne_ra_sz : ra ≠ sz) (ne_ra_rn : ra ≠ rn) (ne_sz_rn : sz ≠ rn) (hj : j < 1) :
    MetFree l (⟨"com/example/interval/interval/service/SlotOrder", "removeAt", "(II)V"⟩ : MethodName) (head1 (Jvm.Cond.code (⟨"com/example/interval/interval/service/SlotOrder", "removeAt", "(II)V"⟩ : MethodName) prog_26_method_14_code 4 none :: ws) ({ frames := 2, cells := 0, slots := 0, locals := 31 } : Room)) (fun a U => a = #[(.ref r0), (.int (0 : Int32)), (.int (oI j))] ∧ Z.Warmed39 U.vm ∧ U.heap = h0) (fun _ _ _ _ _ => True) (fun _ U o U' => ∃ v L, o = .returned v ∧ QrmR1 Z r0 j ra sz rn xs tb fl h0 n0 v U'.heap L ∧ FrameEnd U o U' L ({ frames := 2, cells := 0, slots := 0, locals := 31 } : Room).cells ({ frames := 2, cells := 0, slots := 0, locals := 31 } : Room).slots) := by
  refine MetFree.of_bodySF (plainFor_of_name pn_17) hisR ?_
  intro p e s m args below meth c s₁ Bd hml0 hP hK
  obtain ⟨rfl, hZ, hh⟩ := hP
  have hx := Bd.exec
  have hby := Bd.bytes
  have hml : c.maxLocals = 4 := hml0
  have hown : s.vm.findClass "com/example/interval/interval/service/SlotOrder" = some m.cls := findClass_of_methodNamed Bd.named
  have hnm := (name_of_methodNamed Bd.named Bd.method).1
  have X0 : Stand p l e ({ frames := 2, cells := 0, slots := 0, locals := 31 } : Room) s m #[(.ref r0), (.int (0 : Int32)), (.int (oI j))] below meth c s₁ [] 0 0 := Stand.of_body Bd
  have e0 : s₁.heap = h0 := by rw [← hh, Bd.state]; rfl
  have N0 := Fr.nil n0
  have ZZ := Z0
  have KK : Keep h0 h0 [r0, ra, sz, rn] := Keep.refl h0 _
  show Go p e below s (QrmR1 Z r0 j ra sz rn xs tb fl h0 n0) 0 0 (s₁.setTop (entryFrame m #[(.ref r0), (.int (0 : Int32)), (.int (oI j))] 4))
  generalize hQQ : (QrmR1 Z r0 j ra sz rn xs tb fl h0 n0) = QQ
  refine gs (fun t k => castTop (g' := (mkF m 0 #[rv r0, iv 0, iv (oI j), .unset] [])) (by first | (simp [entryFrame, mkF, argsToLocals, Value.category, maxLocals]; done) | rfl) k) ?_
  show Go p e below s QQ 0 0 (s₁.setTop (mkF m 0 #[rv r0, iv 0, iv (oI j), .unset] []))
  refine gs (fun t => XS.aloadN X0.here hx rfl (hb hby d17_0) rfl rfl) ?_
  obtain ⟨T109, X109, e109, st109⟩ := getF X0 hx hZ hown (host := "") (Or.inl (hw _ (List.mem_of_getElem? (i := 40) rfl))) Via.refl e0 F_runs_r0 (g := (mkF m 1 #[rv r0, iv 0, iv (oI j), .unset] [(.ref r0)])) rfl rfl (hb hby d17_1)
  refine gs st109 ?_
  show Go p e below s QQ 0 0 (T109.setTop (mkF m 4 #[rv r0, iv 0, iv (oI j), .unset] [(.ref ra)]))
  refine gs (fun t => XS.iloadN X109.here hx rfl (hb hby d17_4) rfl) ?_
  refine gs (fun t => ldRf X109 hx hZ e109 V_ra rfl (j := (0 : Int32)) (v := (.ref rn)) (by decide) rfl (g := (mkF m 5 #[rv r0, iv 0, iv (oI j), .unset] [(.int (0 : Int32)), (.ref ra)])) rfl rfl (hb hby d17_5) t) ?_
  refine gs (fun t => XS.astoreN X109.here hx rfl (hb hby d17_6) rfl rfl (l' := #[rv r0, iv 0, iv (oI j), rv rn]) rfl) ?_
  refine gs (fun t => XS.aloadN X109.here hx rfl (hb hby d17_7) rfl rfl) ?_
  refine gs (fun t => XS.iloadN X109.here hx rfl (hb hby d17_8) rfl) ?_
  refine gs (fun t => XS.iconst X109.here hx rfl (hb hby d17_9)) ?_
  show Go p e below s QQ 0 0 (T109.setTop (mkF m 10 #[rv r0, iv 0, iv (oI j), rv rn] [(.int (1 : Int32)), (.int (oI j)), (.ref rn)]))
  refine gs (fun t => XS.iadd X109.here hx rfl (hb hby d17_10) rfl) ?_
  show Go p e below s QQ 0 0 (T109.setTop (mkF m 11 #[rv r0, iv 0, iv (oI j), rv rn] [(.int ((oI j) + (1 : Int32))), (.ref rn)]))
  rw [show ((oI j) + (1 : Int32)) = (oI (j + 1)) from oI_add (a := j) (b := 1) (by omega)]
  show Go p e below s QQ 0 0 (T109.setTop (mkF m 11 #[rv r0, iv 0, iv (oI j), rv rn] [(.int (oI (j + 1))), (.ref rn)]))
  refine gs (fun t => XS.aloadN X109.here hx rfl (hb hby d17_11) rfl rfl) ?_
  refine gs (fun t => XS.iloadN X109.here hx rfl (hb hby d17_12) rfl) ?_
  refine gs (fun t => XS.aloadN X109.here hx rfl (hb hby d17_13) rfl rfl) ?_
  obtain ⟨T110, X110, e110, st110⟩ := getF X109 hx hZ hown (host := "") (Or.inl (hw _ (List.mem_of_getElem? (i := 42) rfl))) Via.refl e109 F_sizes_r0 (g := (mkF m 14 #[rv r0, iv 0, iv (oI j), rv rn] [(.ref r0), (.int (oI j)), (.ref rn), (.int (oI (j + 1))), (.ref rn)])) rfl rfl (hb hby d17_14)
  refine gs st110 ?_
  show Go p e below s QQ 0 0 (T110.setTop (mkF m 17 #[rv r0, iv 0, iv (oI j), rv rn] [(.ref sz), (.int (oI j)), (.ref rn), (.int (oI (j + 1))), (.ref rn)]))
  refine gs (fun t => XS.iloadN X110.here hx rfl (hb hby d17_17) rfl) ?_
  refine gs (fun t => ldIf X110 hx hZ e110 V_sz (j := (0 : Int32)) (v := (.int (oI 1))) (by decide) rfl (g := (mkF m 18 #[rv r0, iv 0, iv (oI j), rv rn] [(.int (0 : Int32)), (.ref sz), (.int (oI j)), (.ref rn), (.int (oI (j + 1))), (.ref rn)])) rfl rfl (hb hby d17_18) t) ?_
  refine gs (fun t => XS.iloadN X110.here hx rfl (hb hby d17_19) rfl) ?_
  refine gs (fun t => XS.isub X110.here hx rfl (hb hby d17_20) rfl) ?_
  show Go p e below s QQ 0 0 (T110.setTop (mkF m 21 #[rv r0, iv 0, iv (oI j), rv rn] [(.int ((oI 1) - (oI j))), (.int (oI j)), (.ref rn), (.int (oI (j + 1))), (.ref rn)]))
  rw [show ((oI 1) - (oI j)) = (oI (1 - j)) from oI_sub (by omega) (by omega)]
  show Go p e below s QQ 0 0 (T110.setTop (mkF m 21 #[rv r0, iv 0, iv (oI j), rv rn] [(.int (oI (1 - j))), (.int (oI j)), (.ref rn), (.int (oI (j + 1))), (.ref rn)]))
  refine gs (fun t => XS.iconst X110.here hx rfl (hb hby d17_21)) ?_
  refine gs (fun t => XS.isub X110.here hx rfl (hb hby d17_22) rfl) ?_
  show Go p e below s QQ 0 0 (T110.setTop (mkF m 23 #[rv r0, iv 0, iv (oI j), rv rn] [(.int ((oI (1 - j)) - (1 : Int32))), (.int (oI j)), (.ref rn), (.int (oI (j + 1))), (.ref rn)]))
  rw [show ((oI (1 - j)) - (1 : Int32)) = (oI (1 - j - 1)) from oI_sub (b := 1) (by omega) (by omega)]
  show Go p e below s QQ 0 0 (T110.setTop (mkF m 23 #[rv r0, iv 0, iv (oI j), rv rn] [(.int (oI (1 - j - 1))), (.int (oI j)), (.ref rn), (.int (oI (j + 1))), (.ref rn)]))
  obtain ⟨T111, h111, L111, X111, e111, Nn111, K111, V111, st111⟩ := own_cp X110 hx hZ hown (hw _ (List.mem_of_getElem? (i := 76) rfl)) (hw _ (List.mem_of_getElem? (i := 79) rfl)) (hw _ (List.mem_of_getElem? (i := 77) rfl)) (hw _ (List.mem_of_getElem? (i := 78) rfl)) e110 V_rn (fun _ _ => rfl) (S := (j + 1)) (D := j) (K := (1 - j - 1)) (Or.inl rfl) (oI_nn (by omega)) (oI_nn (by omega)) (oI_nn (by omega)) (oI_c (by omega)) (oI_c (by omega)) (oI_c (by omega)) (by omega) (by omega) (f' := (fun i => .int (oI (own_mv xs (j + 1) j (1 - j - 1) i)))) (fun i hi => own_mvf _ _ _ _ i) N0 ge_rn (g := (mkF m 23 #[rv r0, iv 0, iv (oI j), rv rn] [(.int (oI (1 - j - 1))), (.int (oI j)), (.ref rn), (.int (oI (j + 1))), (.ref rn)])) rfl (by rw [hml]; rfl) rfl (hb hby d17_23) (by decide) (W := 0) (by show 2 * 0 + _ ≤ _; exact Nat.le_of_eq rfl) (by decide)
  replace N0 := Nn111
  refine gs st111 ?_
  show Go p e below s QQ 0 0 (T111.setTop (mkF m 26 #[rv r0, iv 0, iv (oI j), rv rn] []))
  replace F_runs_r0 := F_runs_r0.keep K111 (ninS ne_r0_rn nin0)
  replace F_sizes_r0 := F_sizes_r0.keep K111 (ninS ne_r0_rn nin0)
  replace F_table_r0 := F_table_r0.keep K111 (ninS ne_r0_rn nin0)
  replace F_field_r0 := F_field_r0.keep K111 (ninS ne_r0_rn nin0)
  replace F_size_r0 := F_size_r0.keep K111 (ninS ne_r0_rn nin0)
  replace F_runCount_r0 := F_runCount_r0.keep K111 (ninS ne_r0_rn nin0)
  replace E_r0 := E_r0.keep K111
  replace V_ra := V_ra.keep K111 (ninS ne_ra_rn nin0)
  replace V_sz := V_sz.keep K111 (ninS ne_sz_rn nin0)
  replace ZZ := Nat.le_trans ZZ K111.1
  replace KK := KK.trans K111 (allS (Or.inl (by simp)) all0)
  have V_rn := V111
  refine gs (fun t => XS.aloadN X111.here hx rfl (hb hby d17_26) rfl rfl) ?_
  obtain ⟨T112, X112, e112, st112⟩ := getF X111 hx hZ hown (host := "") (Or.inl (hw _ (List.mem_of_getElem? (i := 42) rfl))) Via.refl e111 F_sizes_r0 (g := (mkF m 27 #[rv r0, iv 0, iv (oI j), rv rn] [(.ref r0)])) rfl rfl (hb hby d17_27)
  refine gs st112 ?_
  show Go p e below s QQ 0 0 (T112.setTop (mkF m 30 #[rv r0, iv 0, iv (oI j), rv rn] [(.ref sz)]))
  refine gs (fun t => XS.iloadN X112.here hx rfl (hb hby d17_30) rfl) ?_
  refine gs (fun t => XT.dup2 X112.here hx rfl (hb hby d17_31) rfl rfl rfl) ?_
  refine gs (fun t => ldIf X112 hx hZ e112 V_sz (j := (0 : Int32)) (v := (.int (oI 1))) (by decide) rfl (g := (mkF m 32 #[rv r0, iv 0, iv (oI j), rv rn] [(.int (0 : Int32)), (.ref sz), (.int (0 : Int32)), (.ref sz)])) rfl rfl (hb hby d17_32) t) ?_
  refine gs (fun t => XS.iconst X112.here hx rfl (hb hby d17_33)) ?_
  refine gs (fun t => XS.isub X112.here hx rfl (hb hby d17_34) rfl) ?_
  show Go p e below s QQ 0 0 (T112.setTop (mkF m 35 #[rv r0, iv 0, iv (oI j), rv rn] [(.int ((oI 1) - (1 : Int32))), (.int (0 : Int32)), (.ref sz)]))
  rw [show ((oI 1) - (1 : Int32)) = (oI (1 - 1)) from oI_sub (b := 1) (by omega) (by omega)]
  show Go p e below s QQ 0 0 (T112.setTop (mkF m 35 #[rv r0, iv 0, iv (oI j), rv rn] [(.int (oI (1 - 1))), (.int (0 : Int32)), (.ref sz)]))
  obtain ⟨T113, h113, X113, e113, W113, V113, st113⟩ := stIf X112 hx hZ e112 V_sz (j := (0 : Int32)) (by decide) (g := (mkF m 35 #[rv r0, iv 0, iv (oI j), rv rn] [(.int (oI (1 - 1))), (.int (0 : Int32)), (.ref sz)])) rfl rfl (hb hby d17_35)
  replace N0 := Fr.snoc X113 N0 ge_sz
  refine gs st113 ?_
  show Go p e below s QQ 0 0 (T113.setTop (mkF m 36 #[rv r0, iv 0, iv (oI j), rv rn] []))
  replace F_runs_r0 := F_runs_r0.other W113 (Or.inl ne_r0_sz)
  replace F_sizes_r0 := F_sizes_r0.other W113 (Or.inl ne_r0_sz)
  replace F_table_r0 := F_table_r0.other W113 (Or.inl ne_r0_sz)
  replace F_field_r0 := F_field_r0.other W113 (Or.inl ne_r0_sz)
  replace F_size_r0 := F_size_r0.other W113 (Or.inl ne_r0_sz)
  replace F_runCount_r0 := F_runCount_r0.other W113 (Or.inl ne_r0_sz)
  replace E_r0 := E_r0.wr W113
  replace V_ra := V_ra.other W113 ne_ra_sz
  replace V_rn := V_rn.other W113 (Ne.symm ne_sz_rn)
  replace ZZ : n0 ≤ h113.size := by rw [W113.size]; exact ZZ
  replace KK := KK.wr W113 (Or.inl (by simp))
  replace V_sz : Arf Z h113 sz .int 1 (updv (fun _ => .int (oI 1)) 0 (.int (oI (1 - 1)))) := V113
  replace V_sz : Arf Z h113 sz .int 1 (fun _ => .int (oI (1 - 1))) := V_sz.congr (fun i hi => by have q : i = 0 := (by omega); subst q; rfl)
  refine gs (fun t => XS.aloadN X113.here hx rfl (hb hby d17_36) rfl rfl) ?_
  refine gs (fun t => XS.dup X113.here hx rfl (hb hby d17_37) rfl rfl) ?_
  obtain ⟨T114, X114, e114, st114⟩ := getF X113 hx hZ hown (host := "") (Or.inl (hw _ (List.mem_of_getElem? (i := 58) rfl))) Via.refl e113 F_size_r0 (g := (mkF m 38 #[rv r0, iv 0, iv (oI j), rv rn] [(.ref r0), (.ref r0)])) rfl rfl (hb hby d17_38)
  refine gs st114 ?_
  show Go p e below s QQ 0 0 (T114.setTop (mkF m 41 #[rv r0, iv 0, iv (oI j), rv rn] [(.int (oI 1)), (.ref r0)]))
  refine gs (fun t => XS.iconst X114.here hx rfl (hb hby d17_41)) ?_
  refine gs (fun t => XS.isub X114.here hx rfl (hb hby d17_42) rfl) ?_
  show Go p e below s QQ 0 0 (T114.setTop (mkF m 43 #[rv r0, iv 0, iv (oI j), rv rn] [(.int ((oI 1) - (1 : Int32))), (.ref r0)]))
  rw [show ((oI 1) - (1 : Int32)) = (oI (1 - 1)) from oI_sub (b := 1) (by omega) (by omega)]
  show Go p e below s QQ 0 0 (T114.setTop (mkF m 43 #[rv r0, iv 0, iv (oI j), rv rn] [(.int (oI (1 - 1))), (.ref r0)]))
  obtain ⟨T115, h115, X115, e115, W115, st115⟩ := putF X114 hx hZ hown (host := "") (Or.inl (hw _ (List.mem_of_getElem? (i := 58) rfl))) Via.refl e114 F_size_r0 E_r0 (Or.inl (hw _ (List.mem_of_getElem? (i := 59) rfl))) (hw _ (List.mem_of_getElem? (i := 32) rfl)) (ty := .int) (by decide) rfl rfl (g := (mkF m 43 #[rv r0, iv 0, iv (oI j), rv rn] [(.int (oI (1 - 1))), (.ref r0)])) rfl rfl (hb hby d17_43)
  replace N0 := Fr.snoc X115 N0 ge_r0
  refine gs st115 ?_
  show Go p e below s QQ 0 0 (T115.setTop (mkF m 46 #[rv r0, iv 0, iv (oI j), rv rn] []))
  replace F_runs_r0 := F_runs_r0.other W115 (Or.inr (slot_ne (Or.inl (hw _ (List.mem_of_getElem? (i := 41) rfl))) (Or.inl (hw _ (List.mem_of_getElem? (i := 59) rfl))) (by decide) (t := (.array (.array .int))) (t' := .int) (by decide) (by decide)))
  replace F_sizes_r0 := F_sizes_r0.other W115 (Or.inr (slot_ne (Or.inl (hw _ (List.mem_of_getElem? (i := 43) rfl))) (Or.inl (hw _ (List.mem_of_getElem? (i := 59) rfl))) (by decide) (t := (.array .int)) (t' := .int) (by decide) (by decide)))
  replace F_table_r0 := F_table_r0.other W115 (Or.inr (slot_ne (Or.inr (hw _ (List.mem_of_getElem? (i := 45) rfl))) (Or.inl (hw _ (List.mem_of_getElem? (i := 59) rfl))) (by decide) (t := (.object "com/example/interval/interval/service/SlotTable")) (t' := .int) (by decide) (by decide)))
  replace F_field_r0 := F_field_r0.other W115 (Or.inr (slot_ne (Or.inr (hw _ (List.mem_of_getElem? (i := 47) rfl))) (Or.inl (hw _ (List.mem_of_getElem? (i := 59) rfl))) (by decide) (t := .int) (t' := .int) (by decide) (by decide)))
  replace F_size_r0 := F_size_r0.same W115
  replace F_runCount_r0 := F_runCount_r0.other W115 (Or.inr (slot_ne (Or.inl (hw _ (List.mem_of_getElem? (i := 71) rfl))) (Or.inl (hw _ (List.mem_of_getElem? (i := 59) rfl))) (by decide) (t := .int) (t' := .int) (by decide) (by decide)))
  replace E_r0 := E_r0.wr W115
  replace V_ra := V_ra.other W115 (Ne.symm ne_r0_ra)
  replace V_sz := V_sz.other W115 (Ne.symm ne_r0_sz)
  replace V_rn := V_rn.other W115 (Ne.symm ne_r0_rn)
  replace ZZ : n0 ≤ h115.size := by rw [W115.size]; exact ZZ
  replace KK := KK.wr W115 (Or.inl (by simp))
  refine gs (fun t => XS.aloadN X115.here hx rfl (hb hby d17_46) rfl rfl) ?_
  obtain ⟨T116, X116, e116, st116⟩ := getF X115 hx hZ hown (host := "") (Or.inl (hw _ (List.mem_of_getElem? (i := 42) rfl))) Via.refl e115 F_sizes_r0 (g := (mkF m 47 #[rv r0, iv 0, iv (oI j), rv rn] [(.ref r0)])) rfl rfl (hb hby d17_47)
  refine gs st116 ?_
  show Go p e below s QQ 0 0 (T116.setTop (mkF m 50 #[rv r0, iv 0, iv (oI j), rv rn] [(.ref sz)]))
  refine gs (fun t => XS.iloadN X116.here hx rfl (hb hby d17_50) rfl) ?_
  refine gs (fun t => ldIf X116 hx hZ e116 V_sz (j := (0 : Int32)) (v := (.int (oI (1 - 1)))) (by decide) rfl (g := (mkF m 51 #[rv r0, iv 0, iv (oI j), rv rn] [(.int (0 : Int32)), (.ref sz)])) rfl rfl (hb hby d17_51) t) ?_
  refine gs (fun t => XS.ifNo X116.here hx rfl (hb hby d17_52) rfl ((if0 _ _).trans (teq (rfl : (oI (1 - 1)) = (0 : Int32))).2)) ?_
  refine gs (fun t => XS.aloadN X116.here hx rfl (hb hby d17_55) rfl rfl) ?_
  refine gs (fun t => XS.iloadN X116.here hx rfl (hb hby d17_56) rfl) ?_
  obtain ⟨cq117, q117, q117'⟩ := E_r0.cell
  obtain ⟨_, _, ⟨T117, L117, k117, n117⟩, -, X117, ⟨Lc117, hQ117, l117, y117, z117⟩, st117⟩ := X116.privateBack hx (y := (⟨"com/example/interval/interval/service/SlotOrder", "deleteRun", "(I)V"⟩ : MethodName)) hown (mvT hZ (hw _ (List.mem_of_getElem? (i := 110) rfl))) (mvT hZ (hw _ (List.mem_of_getElem? (i := 111) rfl))) (own_selP hown (mvT hZ (hw _ (List.mem_of_getElem? (i := 56) rfl)) (args := #[])) rfl (mvP hZ (hw _ (List.mem_of_getElem? (i := 112) rfl))) (mvT hZ (hw _ (List.mem_of_getElem? (i := 111) rfl))) (by decide)) (Cond.privateMethod_at (mvP hZ (hw _ (List.mem_of_getElem? (i := 112) rfl)) (args := #[]))) (mvT hZ (hw _ (List.mem_of_getElem? (i := 113) rfl))) (by decide) (backOf (W := 0) (rmDr l Z a0 hw [] r0 ra sz rn tb fl (oI (1 - 1)) h115 n0 ZZ F_runs_r0 F_sizes_r0 F_table_r0 F_field_r0 F_size_r0 F_runCount_r0 E_r0 V_ra V_sz ge_r0 ge_ra ge_sz ne_r0_ra ne_r0_sz ne_ra_sz) hZ (hw _ (List.mem_of_getElem? (i := 113) rfl)) (hw _ (List.mem_of_getElem? (i := 33) rfl)) (by decide) (by decide)) (g := (mkF m 57 #[rv r0, iv 0, iv (oI j), rv rn] [(.int (0 : Int32)), (.ref r0)])) rfl (by rw [hml]; rfl) (Steps.refl _) (a := r0) (by rw [e116]; exact q117) q117' (argsL := [(.int (0 : Int32))]) (rest := []) (lenOf pd_6 rfl) rfl (by show 2 * 0 + _ ≤ _; exact Nat.le_of_eq rfl) (hb hby d17_57) (fun _ _ => ⟨rfl, e116, (by decide : 0 + 0 ≤ _), (by decide : 0 + 0 ≤ _)⟩)
  dsimp only [Pt.U, Pt.locs, Pt.cells, Pt.slots] at X117 l117 y117 z117 st117 hQ117
  subst l117 y117 z117
  obtain ⟨rfl, N117q, K117, Gruns_117, Gsizes_117, Gtable_117, Gfield_117, Gsize_117, GrunCount_117⟩ := hQ117
  replace N0 := Fr.app N0 N117q
  refine gt st117 ?_
  show Go p e below s QQ 0 0 (T117.setTop (mkF m 60 #[rv r0, iv 0, iv (oI j), rv rn] []))
  replace E_r0 := E_r0.keep K117
  replace V_rn := V_rn.keep K117 (ninS (Ne.symm ne_r0_rn) (ninS (Ne.symm ne_ra_rn) (ninS (Ne.symm ne_sz_rn) nin0)))
  replace ZZ := Nat.le_trans ZZ K117.1
  replace KK := KK.trans K117 (allS (Or.inl (by simp)) (allS (Or.inl (by simp)) (allS (Or.inl (by simp)) all0)))
  have F_runs_r0 := Gruns_117
  have F_sizes_r0 := Gsizes_117
  have F_table_r0 := Gtable_117
  have F_field_r0 := Gfield_117
  have F_size_r0 := Gsize_117
  have F_runCount_r0 := GrunCount_117
  refine gs (fun t => XS.goto X117.here hx rfl (pc0 := 60) (pc' := 80) rfl (hb hby d17_60) (by decide) (by decide)) ?_
  exact goV X117 hx Bd.notSynchronized Bd.returns (hb hby d17_80) (by rw [← hQQ]; exact ⟨rfl, N0, KK, F_runs_r0, F_sizes_r0, F_table_r0, F_field_r0, F_size_r0, F_runCount_r0⟩) (by decide) (by decide)
def QrmRN (Z : State) (r0 : Addr) (j : Nat) (ra : Addr) (sz : Addr) (rn : Addr) (kn : Nat) (xs : Nat → Nat) (tb : Addr) (fl : Nat) (h0 : Heap) (n0 : Nat) (v : Option Value) (h : Heap) (L : List Loc) : Prop := v = none ∧ Fr n0 L ∧ Keep h0 h [r0, sz, rn] ∧ Fld Z h r0 "com/example/interval/interval/service/SlotOrder" "runs" "[[I" (.ref ra) ∧ Fld Z h r0 "com/example/interval/interval/service/SlotOrder" "sizes" "[I" (.ref sz) ∧ Fld Z h r0 "com/example/interval/interval/service/SlotOrder" "table" "Lcom/example/interval/interval/service/SlotTable;" (.ref tb) ∧ Fld Z h r0 "com/example/interval/interval/service/SlotOrder" "field" "I" (.int (oI fl)) ∧ Fld Z h r0 "com/example/interval/interval/service/SlotOrder" "size" "I" (.int (oI (kn - 1))) ∧ Fld Z h r0 "com/example/interval/interval/service/SlotOrder" "runCount" "I" (.int (1 : Int32)) ∧ Arf Z h ra (.array .int) 1 (fun _ => .ref rn) ∧ Arf Z h sz .int 1 (fun _ => .int (oI (kn - 1))) ∧ Arf Z h rn .int 8 (fun i => .int (oI (own_mv xs (j + 1) j (kn - j - 1) i)))
set_option maxRecDepth 65536 in
set_option maxHeartbeats 40000000 in
theorem rmRN (l : Launch) (Z : State) (a0 : Array Value) (hw : ∀ d ∈ tables_1, d.before a0 Z = true) (ws : List Jvm.Cond) (r0 : Addr) (j : Nat) (ra : Addr) (sz : Addr) (rn : Addr) (kn : Nat) (xs : Nat → Nat) (tb : Addr) (fl : Nat) (h0 : Heap) (n0 : Nat) (Z0 : n0 ≤ h0.size) (F_runs_r0 : Fld Z h0 r0 "com/example/interval/interval/service/SlotOrder" "runs" "[[I" (.ref ra)) (F_sizes_r0 : Fld Z h0 r0 "com/example/interval/interval/service/SlotOrder" "sizes" "[I" (.ref sz)) (F_table_r0 : Fld Z h0 r0 "com/example/interval/interval/service/SlotOrder" "table" "Lcom/example/interval/interval/service/SlotTable;" (.ref tb)) (F_field_r0 : Fld Z h0 r0 "com/example/interval/interval/service/SlotOrder" "field" "I" (.int (oI fl))) (F_size_r0 : Fld Z h0 r0 "com/example/interval/interval/service/SlotOrder" "size" "I" (.int (oI kn))) (F_runCount_r0 : Fld Z h0 r0 "com/example/interval/interval/service/SlotOrder" "runCount" "I" (.int (1 : Int32))) (E_r0 : Exa Z h0 r0 "com/example/interval/interval/service/SlotOrder") (V_ra : Arf Z h0 ra (.array .int) 1 (fun _ => .ref rn)) (V_sz : Arf Z h0 sz .int 1 (fun _ => .int (oI kn))) (V_rn : Arf Z h0 rn .int 8 (fun i => .int (oI (xs i)))) (ge_r0 : n0 ≤ r0) (ge_sz : n0 ≤ sz) (ge_rn : n0 ≤ rn) (ne_r0_ra : r0 ≠ ra) (ne_r0_sz : r0 ≠ sz) (ne_r0_rn : r0 ≠ rn) (ne_ra_sz : ra ≠ sz) (ne_ra_rn : ra ≠ rn) (ne_sz_rn : sz ≠ rn) (hj : j < kn) (hk2 : 2 ≤ kn) (hk3 : kn ≤ 3) :
    MetFree l (⟨"com/example/interval/interval/service/SlotOrder", "removeAt", "(II)V"⟩ : MethodName) (head1 (Jvm.Cond.code (⟨"com/example/interval/interval/service/SlotOrder", "removeAt", "(II)V"⟩ : MethodName) prog_26_method_14_code 4 none :: ws) ({ frames := 1, cells := 0, slots := 0, locals := 18 } : Room)) (fun a U => a = #[(.ref r0), (.int (0 : Int32)), (.int (oI j))] ∧ Z.Warmed39 U.vm ∧ U.heap = h0) (fun _ _ _ _ _ => True) (fun _ U o U' => ∃ v L, o = .returned v ∧ QrmRN Z r0 j ra sz rn kn xs tb fl h0 n0 v U'.heap L ∧ FrameEnd U o U' L ({ frames := 1, cells := 0, slots := 0, locals := 18 } : Room).cells ({ frames := 1, cells := 0, slots := 0, locals := 18 } : Room).slots) := by
  refine MetFree.of_bodySF (plainFor_of_name pn_17) hisR ?_
  intro p e s m args below meth c s₁ Bd hml0 hP hK
  obtain ⟨rfl, hZ, hh⟩ := hP
  have hx := Bd.exec
  have hby := Bd.bytes
  have hml : c.maxLocals = 4 := hml0
  have hown : s.vm.findClass "com/example/interval/interval/service/SlotOrder" = some m.cls := findClass_of_methodNamed Bd.named
  have hnm := (name_of_methodNamed Bd.named Bd.method).1
  have X0 : Stand p l e ({ frames := 1, cells := 0, slots := 0, locals := 18 } : Room) s m #[(.ref r0), (.int (0 : Int32)), (.int (oI j))] below meth c s₁ [] 0 0 := Stand.of_body Bd
  have e0 : s₁.heap = h0 := by rw [← hh, Bd.state]; rfl
  have N0 := Fr.nil n0
  have ZZ := Z0
  have KK : Keep h0 h0 [r0, sz, rn] := Keep.refl h0 _
  show Go p e below s (QrmRN Z r0 j ra sz rn kn xs tb fl h0 n0) 0 0 (s₁.setTop (entryFrame m #[(.ref r0), (.int (0 : Int32)), (.int (oI j))] 4))
  generalize hQQ : (QrmRN Z r0 j ra sz rn kn xs tb fl h0 n0) = QQ
  refine gs (fun t k => castTop (g' := (mkF m 0 #[rv r0, iv 0, iv (oI j), .unset] [])) (by first | (simp [entryFrame, mkF, argsToLocals, Value.category, maxLocals]; done) | rfl) k) ?_
  show Go p e below s QQ 0 0 (s₁.setTop (mkF m 0 #[rv r0, iv 0, iv (oI j), .unset] []))
  refine gs (fun t => XS.aloadN X0.here hx rfl (hb hby d17_0) rfl rfl) ?_
  obtain ⟨T118, X118, e118, st118⟩ := getF X0 hx hZ hown (host := "") (Or.inl (hw _ (List.mem_of_getElem? (i := 40) rfl))) Via.refl e0 F_runs_r0 (g := (mkF m 1 #[rv r0, iv 0, iv (oI j), .unset] [(.ref r0)])) rfl rfl (hb hby d17_1)
  refine gs st118 ?_
  show Go p e below s QQ 0 0 (T118.setTop (mkF m 4 #[rv r0, iv 0, iv (oI j), .unset] [(.ref ra)]))
  refine gs (fun t => XS.iloadN X118.here hx rfl (hb hby d17_4) rfl) ?_
  refine gs (fun t => ldRf X118 hx hZ e118 V_ra rfl (j := (0 : Int32)) (v := (.ref rn)) (by decide) rfl (g := (mkF m 5 #[rv r0, iv 0, iv (oI j), .unset] [(.int (0 : Int32)), (.ref ra)])) rfl rfl (hb hby d17_5) t) ?_
  refine gs (fun t => XS.astoreN X118.here hx rfl (hb hby d17_6) rfl rfl (l' := #[rv r0, iv 0, iv (oI j), rv rn]) rfl) ?_
  refine gs (fun t => XS.aloadN X118.here hx rfl (hb hby d17_7) rfl rfl) ?_
  refine gs (fun t => XS.iloadN X118.here hx rfl (hb hby d17_8) rfl) ?_
  refine gs (fun t => XS.iconst X118.here hx rfl (hb hby d17_9)) ?_
  show Go p e below s QQ 0 0 (T118.setTop (mkF m 10 #[rv r0, iv 0, iv (oI j), rv rn] [(.int (1 : Int32)), (.int (oI j)), (.ref rn)]))
  refine gs (fun t => XS.iadd X118.here hx rfl (hb hby d17_10) rfl) ?_
  show Go p e below s QQ 0 0 (T118.setTop (mkF m 11 #[rv r0, iv 0, iv (oI j), rv rn] [(.int ((oI j) + (1 : Int32))), (.ref rn)]))
  rw [show ((oI j) + (1 : Int32)) = (oI (j + 1)) from oI_add (a := j) (b := 1) (by omega)]
  show Go p e below s QQ 0 0 (T118.setTop (mkF m 11 #[rv r0, iv 0, iv (oI j), rv rn] [(.int (oI (j + 1))), (.ref rn)]))
  refine gs (fun t => XS.aloadN X118.here hx rfl (hb hby d17_11) rfl rfl) ?_
  refine gs (fun t => XS.iloadN X118.here hx rfl (hb hby d17_12) rfl) ?_
  refine gs (fun t => XS.aloadN X118.here hx rfl (hb hby d17_13) rfl rfl) ?_
  obtain ⟨T119, X119, e119, st119⟩ := getF X118 hx hZ hown (host := "") (Or.inl (hw _ (List.mem_of_getElem? (i := 42) rfl))) Via.refl e118 F_sizes_r0 (g := (mkF m 14 #[rv r0, iv 0, iv (oI j), rv rn] [(.ref r0), (.int (oI j)), (.ref rn), (.int (oI (j + 1))), (.ref rn)])) rfl rfl (hb hby d17_14)
  refine gs st119 ?_
  show Go p e below s QQ 0 0 (T119.setTop (mkF m 17 #[rv r0, iv 0, iv (oI j), rv rn] [(.ref sz), (.int (oI j)), (.ref rn), (.int (oI (j + 1))), (.ref rn)]))
  refine gs (fun t => XS.iloadN X119.here hx rfl (hb hby d17_17) rfl) ?_
  refine gs (fun t => ldIf X119 hx hZ e119 V_sz (j := (0 : Int32)) (v := (.int (oI kn))) (by decide) rfl (g := (mkF m 18 #[rv r0, iv 0, iv (oI j), rv rn] [(.int (0 : Int32)), (.ref sz), (.int (oI j)), (.ref rn), (.int (oI (j + 1))), (.ref rn)])) rfl rfl (hb hby d17_18) t) ?_
  refine gs (fun t => XS.iloadN X119.here hx rfl (hb hby d17_19) rfl) ?_
  refine gs (fun t => XS.isub X119.here hx rfl (hb hby d17_20) rfl) ?_
  show Go p e below s QQ 0 0 (T119.setTop (mkF m 21 #[rv r0, iv 0, iv (oI j), rv rn] [(.int ((oI kn) - (oI j))), (.int (oI j)), (.ref rn), (.int (oI (j + 1))), (.ref rn)]))
  rw [show ((oI kn) - (oI j)) = (oI (kn - j)) from oI_sub (by omega) (by omega)]
  show Go p e below s QQ 0 0 (T119.setTop (mkF m 21 #[rv r0, iv 0, iv (oI j), rv rn] [(.int (oI (kn - j))), (.int (oI j)), (.ref rn), (.int (oI (j + 1))), (.ref rn)]))
  refine gs (fun t => XS.iconst X119.here hx rfl (hb hby d17_21)) ?_
  refine gs (fun t => XS.isub X119.here hx rfl (hb hby d17_22) rfl) ?_
  show Go p e below s QQ 0 0 (T119.setTop (mkF m 23 #[rv r0, iv 0, iv (oI j), rv rn] [(.int ((oI (kn - j)) - (1 : Int32))), (.int (oI j)), (.ref rn), (.int (oI (j + 1))), (.ref rn)]))
  rw [show ((oI (kn - j)) - (1 : Int32)) = (oI (kn - j - 1)) from oI_sub (b := 1) (by omega) (by omega)]
  show Go p e below s QQ 0 0 (T119.setTop (mkF m 23 #[rv r0, iv 0, iv (oI j), rv rn] [(.int (oI (kn - j - 1))), (.int (oI j)), (.ref rn), (.int (oI (j + 1))), (.ref rn)]))
  obtain ⟨T120, h120, L120, X120, e120, Nn120, K120, V120, st120⟩ := own_cp X119 hx hZ hown (hw _ (List.mem_of_getElem? (i := 76) rfl)) (hw _ (List.mem_of_getElem? (i := 79) rfl)) (hw _ (List.mem_of_getElem? (i := 77) rfl)) (hw _ (List.mem_of_getElem? (i := 78) rfl)) e119 V_rn (fun _ _ => rfl) (S := (j + 1)) (D := j) (K := (kn - j - 1)) (Or.inl rfl) (oI_nn (by omega)) (oI_nn (by omega)) (oI_nn (by omega)) (oI_c (by omega)) (oI_c (by omega)) (oI_c (by omega)) (by omega) (by omega) (f' := (fun i => .int (oI (own_mv xs (j + 1) j (kn - j - 1) i)))) (fun i hi => own_mvf _ _ _ _ i) N0 ge_rn (g := (mkF m 23 #[rv r0, iv 0, iv (oI j), rv rn] [(.int (oI (kn - j - 1))), (.int (oI j)), (.ref rn), (.int (oI (j + 1))), (.ref rn)])) rfl (by rw [hml]; rfl) rfl (hb hby d17_23) (by decide) (W := 0) (by show 2 * 0 + _ ≤ _; exact Nat.le_of_eq rfl) (by decide)
  replace N0 := Nn120
  refine gs st120 ?_
  show Go p e below s QQ 0 0 (T120.setTop (mkF m 26 #[rv r0, iv 0, iv (oI j), rv rn] []))
  replace F_runs_r0 := F_runs_r0.keep K120 (ninS ne_r0_rn nin0)
  replace F_sizes_r0 := F_sizes_r0.keep K120 (ninS ne_r0_rn nin0)
  replace F_table_r0 := F_table_r0.keep K120 (ninS ne_r0_rn nin0)
  replace F_field_r0 := F_field_r0.keep K120 (ninS ne_r0_rn nin0)
  replace F_size_r0 := F_size_r0.keep K120 (ninS ne_r0_rn nin0)
  replace F_runCount_r0 := F_runCount_r0.keep K120 (ninS ne_r0_rn nin0)
  replace E_r0 := E_r0.keep K120
  replace V_ra := V_ra.keep K120 (ninS ne_ra_rn nin0)
  replace V_sz := V_sz.keep K120 (ninS ne_sz_rn nin0)
  replace ZZ := Nat.le_trans ZZ K120.1
  replace KK := KK.trans K120 (allS (Or.inl (by simp)) all0)
  have V_rn := V120
  refine gs (fun t => XS.aloadN X120.here hx rfl (hb hby d17_26) rfl rfl) ?_
  obtain ⟨T121, X121, e121, st121⟩ := getF X120 hx hZ hown (host := "") (Or.inl (hw _ (List.mem_of_getElem? (i := 42) rfl))) Via.refl e120 F_sizes_r0 (g := (mkF m 27 #[rv r0, iv 0, iv (oI j), rv rn] [(.ref r0)])) rfl rfl (hb hby d17_27)
  refine gs st121 ?_
  show Go p e below s QQ 0 0 (T121.setTop (mkF m 30 #[rv r0, iv 0, iv (oI j), rv rn] [(.ref sz)]))
  refine gs (fun t => XS.iloadN X121.here hx rfl (hb hby d17_30) rfl) ?_
  refine gs (fun t => XT.dup2 X121.here hx rfl (hb hby d17_31) rfl rfl rfl) ?_
  refine gs (fun t => ldIf X121 hx hZ e121 V_sz (j := (0 : Int32)) (v := (.int (oI kn))) (by decide) rfl (g := (mkF m 32 #[rv r0, iv 0, iv (oI j), rv rn] [(.int (0 : Int32)), (.ref sz), (.int (0 : Int32)), (.ref sz)])) rfl rfl (hb hby d17_32) t) ?_
  refine gs (fun t => XS.iconst X121.here hx rfl (hb hby d17_33)) ?_
  refine gs (fun t => XS.isub X121.here hx rfl (hb hby d17_34) rfl) ?_
  show Go p e below s QQ 0 0 (T121.setTop (mkF m 35 #[rv r0, iv 0, iv (oI j), rv rn] [(.int ((oI kn) - (1 : Int32))), (.int (0 : Int32)), (.ref sz)]))
  rw [show ((oI kn) - (1 : Int32)) = (oI (kn - 1)) from oI_sub (b := 1) (by omega) (by omega)]
  show Go p e below s QQ 0 0 (T121.setTop (mkF m 35 #[rv r0, iv 0, iv (oI j), rv rn] [(.int (oI (kn - 1))), (.int (0 : Int32)), (.ref sz)]))
  obtain ⟨T122, h122, X122, e122, W122, V122, st122⟩ := stIf X121 hx hZ e121 V_sz (j := (0 : Int32)) (by decide) (g := (mkF m 35 #[rv r0, iv 0, iv (oI j), rv rn] [(.int (oI (kn - 1))), (.int (0 : Int32)), (.ref sz)])) rfl rfl (hb hby d17_35)
  replace N0 := Fr.snoc X122 N0 ge_sz
  refine gs st122 ?_
  show Go p e below s QQ 0 0 (T122.setTop (mkF m 36 #[rv r0, iv 0, iv (oI j), rv rn] []))
  replace F_runs_r0 := F_runs_r0.other W122 (Or.inl ne_r0_sz)
  replace F_sizes_r0 := F_sizes_r0.other W122 (Or.inl ne_r0_sz)
  replace F_table_r0 := F_table_r0.other W122 (Or.inl ne_r0_sz)
  replace F_field_r0 := F_field_r0.other W122 (Or.inl ne_r0_sz)
  replace F_size_r0 := F_size_r0.other W122 (Or.inl ne_r0_sz)
  replace F_runCount_r0 := F_runCount_r0.other W122 (Or.inl ne_r0_sz)
  replace E_r0 := E_r0.wr W122
  replace V_ra := V_ra.other W122 ne_ra_sz
  replace V_rn := V_rn.other W122 (Ne.symm ne_sz_rn)
  replace ZZ : n0 ≤ h122.size := by rw [W122.size]; exact ZZ
  replace KK := KK.wr W122 (Or.inl (by simp))
  replace V_sz : Arf Z h122 sz .int 1 (updv (fun _ => .int (oI kn)) 0 (.int (oI (kn - 1)))) := V122
  replace V_sz : Arf Z h122 sz .int 1 (fun _ => .int (oI (kn - 1))) := V_sz.congr (fun i hi => by have q : i = 0 := (by omega); subst q; rfl)
  refine gs (fun t => XS.aloadN X122.here hx rfl (hb hby d17_36) rfl rfl) ?_
  refine gs (fun t => XS.dup X122.here hx rfl (hb hby d17_37) rfl rfl) ?_
  obtain ⟨T123, X123, e123, st123⟩ := getF X122 hx hZ hown (host := "") (Or.inl (hw _ (List.mem_of_getElem? (i := 58) rfl))) Via.refl e122 F_size_r0 (g := (mkF m 38 #[rv r0, iv 0, iv (oI j), rv rn] [(.ref r0), (.ref r0)])) rfl rfl (hb hby d17_38)
  refine gs st123 ?_
  show Go p e below s QQ 0 0 (T123.setTop (mkF m 41 #[rv r0, iv 0, iv (oI j), rv rn] [(.int (oI kn)), (.ref r0)]))
  refine gs (fun t => XS.iconst X123.here hx rfl (hb hby d17_41)) ?_
  refine gs (fun t => XS.isub X123.here hx rfl (hb hby d17_42) rfl) ?_
  show Go p e below s QQ 0 0 (T123.setTop (mkF m 43 #[rv r0, iv 0, iv (oI j), rv rn] [(.int ((oI kn) - (1 : Int32))), (.ref r0)]))
  rw [show ((oI kn) - (1 : Int32)) = (oI (kn - 1)) from oI_sub (b := 1) (by omega) (by omega)]
  show Go p e below s QQ 0 0 (T123.setTop (mkF m 43 #[rv r0, iv 0, iv (oI j), rv rn] [(.int (oI (kn - 1))), (.ref r0)]))
  obtain ⟨T124, h124, X124, e124, W124, st124⟩ := putF X123 hx hZ hown (host := "") (Or.inl (hw _ (List.mem_of_getElem? (i := 58) rfl))) Via.refl e123 F_size_r0 E_r0 (Or.inl (hw _ (List.mem_of_getElem? (i := 59) rfl))) (hw _ (List.mem_of_getElem? (i := 32) rfl)) (ty := .int) (by decide) rfl rfl (g := (mkF m 43 #[rv r0, iv 0, iv (oI j), rv rn] [(.int (oI (kn - 1))), (.ref r0)])) rfl rfl (hb hby d17_43)
  replace N0 := Fr.snoc X124 N0 ge_r0
  refine gs st124 ?_
  show Go p e below s QQ 0 0 (T124.setTop (mkF m 46 #[rv r0, iv 0, iv (oI j), rv rn] []))
  replace F_runs_r0 := F_runs_r0.other W124 (Or.inr (slot_ne (Or.inl (hw _ (List.mem_of_getElem? (i := 41) rfl))) (Or.inl (hw _ (List.mem_of_getElem? (i := 59) rfl))) (by decide) (t := (.array (.array .int))) (t' := .int) (by decide) (by decide)))
  replace F_sizes_r0 := F_sizes_r0.other W124 (Or.inr (slot_ne (Or.inl (hw _ (List.mem_of_getElem? (i := 43) rfl))) (Or.inl (hw _ (List.mem_of_getElem? (i := 59) rfl))) (by decide) (t := (.array .int)) (t' := .int) (by decide) (by decide)))
  replace F_table_r0 := F_table_r0.other W124 (Or.inr (slot_ne (Or.inr (hw _ (List.mem_of_getElem? (i := 45) rfl))) (Or.inl (hw _ (List.mem_of_getElem? (i := 59) rfl))) (by decide) (t := (.object "com/example/interval/interval/service/SlotTable")) (t' := .int) (by decide) (by decide)))
  replace F_field_r0 := F_field_r0.other W124 (Or.inr (slot_ne (Or.inr (hw _ (List.mem_of_getElem? (i := 47) rfl))) (Or.inl (hw _ (List.mem_of_getElem? (i := 59) rfl))) (by decide) (t := .int) (t' := .int) (by decide) (by decide)))
  replace F_size_r0 := F_size_r0.same W124
  replace F_runCount_r0 := F_runCount_r0.other W124 (Or.inr (slot_ne (Or.inl (hw _ (List.mem_of_getElem? (i := 71) rfl))) (Or.inl (hw _ (List.mem_of_getElem? (i := 59) rfl))) (by decide) (t := .int) (t' := .int) (by decide) (by decide)))
  replace E_r0 := E_r0.wr W124
  replace V_ra := V_ra.other W124 (Ne.symm ne_r0_ra)
  replace V_sz := V_sz.other W124 (Ne.symm ne_r0_sz)
  replace V_rn := V_rn.other W124 (Ne.symm ne_r0_rn)
  replace ZZ : n0 ≤ h124.size := by rw [W124.size]; exact ZZ
  replace KK := KK.wr W124 (Or.inl (by simp))
  refine gs (fun t => XS.aloadN X124.here hx rfl (hb hby d17_46) rfl rfl) ?_
  obtain ⟨T125, X125, e125, st125⟩ := getF X124 hx hZ hown (host := "") (Or.inl (hw _ (List.mem_of_getElem? (i := 42) rfl))) Via.refl e124 F_sizes_r0 (g := (mkF m 47 #[rv r0, iv 0, iv (oI j), rv rn] [(.ref r0)])) rfl rfl (hb hby d17_47)
  refine gs st125 ?_
  show Go p e below s QQ 0 0 (T125.setTop (mkF m 50 #[rv r0, iv 0, iv (oI j), rv rn] [(.ref sz)]))
  refine gs (fun t => XS.iloadN X125.here hx rfl (hb hby d17_50) rfl) ?_
  refine gs (fun t => ldIf X125 hx hZ e125 V_sz (j := (0 : Int32)) (v := (.int (oI (kn - 1)))) (by decide) rfl (g := (mkF m 51 #[rv r0, iv 0, iv (oI j), rv rn] [(.int (0 : Int32)), (.ref sz)])) rfl rfl (hb hby d17_51) t) ?_
  refine gs (fun t => XS.ifYes X125.here hx rfl (pc0 := 52) (pc' := 63) rfl (hb hby d17_52) rfl ((if0 _ _).trans (feq (fun q => by have q2 := congrArg Int32.toInt q; rw [oI_t (by omega)] at q2; have q3 : (0 : Int32).toInt = 0 := rfl; omega : ¬ ((oI (kn - 1)) = (0 : Int32)))).2) (by decide) (by decide)) ?_
  refine gs (fun t => XS.aloadN X125.here hx rfl (hb hby d17_63) rfl rfl) ?_
  obtain ⟨T126, X126, e126, st126⟩ := getF X125 hx hZ hown (host := "") (Or.inl (hw _ (List.mem_of_getElem? (i := 42) rfl))) Via.refl e125 F_sizes_r0 (g := (mkF m 64 #[rv r0, iv 0, iv (oI j), rv rn] [(.ref r0)])) rfl rfl (hb hby d17_64)
  refine gs st126 ?_
  show Go p e below s QQ 0 0 (T126.setTop (mkF m 67 #[rv r0, iv 0, iv (oI j), rv rn] [(.ref sz)]))
  refine gs (fun t => XS.iloadN X126.here hx rfl (hb hby d17_67) rfl) ?_
  refine gs (fun t => ldIf X126 hx hZ e126 V_sz (j := (0 : Int32)) (v := (.int (oI (kn - 1)))) (by decide) rfl (g := (mkF m 68 #[rv r0, iv 0, iv (oI j), rv rn] [(.int (0 : Int32)), (.ref sz)])) rfl rfl (hb hby d17_68) t) ?_
  refine gs (fun t => XS.sipush X126.here hx rfl (hb hby d17_69)) ?_
  refine gs (fun t => XS.icmpNo X126.here hx rfl (hb hby d17_72) rfl (tlt (by rw [Int32.lt_iff_toInt_lt, oI_t (by omega)]; have q3 : (256 : Int32).toInt = 256 := rfl; omega : (oI (kn - 1)) < (256 : Int32))).2.1) ?_
  refine gs (fun t => XS.aloadN X126.here hx rfl (hb hby d17_75) rfl rfl) ?_
  refine gs (fun t => XS.iloadN X126.here hx rfl (hb hby d17_76) rfl) ?_
  show Go p e below s QQ 0 0 (T126.setTop (mkF m 77 #[rv r0, iv 0, iv (oI j), rv rn] [(.int (0 : Int32)), (.ref r0)]))
  obtain ⟨cq127, q127, q127'⟩ := E_r0.cell
  obtain ⟨_, _, ⟨T127, L127, k127, n127⟩, -, X127, ⟨Lc127, hQ127, l127, y127, z127⟩, st127⟩ := X126.privateBack hx (y := (⟨"com/example/interval/interval/service/SlotOrder", "mergeIfSparse", "(I)V"⟩ : MethodName)) hown (mvT hZ (hw _ (List.mem_of_getElem? (i := 106) rfl))) (mvT hZ (hw _ (List.mem_of_getElem? (i := 107) rfl))) (own_selP hown (mvT hZ (hw _ (List.mem_of_getElem? (i := 56) rfl)) (args := #[])) rfl (mvP hZ (hw _ (List.mem_of_getElem? (i := 108) rfl))) (mvT hZ (hw _ (List.mem_of_getElem? (i := 107) rfl))) (by decide)) (Cond.privateMethod_at (mvP hZ (hw _ (List.mem_of_getElem? (i := 108) rfl)) (args := #[]))) (mvT hZ (hw _ (List.mem_of_getElem? (i := 109) rfl))) (by decide) (backOf (W := 0) (rmMs l Z a0 hw [] r0 h124 n0 ZZ F_runCount_r0) hZ (hw _ (List.mem_of_getElem? (i := 109) rfl)) (hw _ (List.mem_of_getElem? (i := 33) rfl)) (by decide) (by decide)) (g := (mkF m 77 #[rv r0, iv 0, iv (oI j), rv rn] [(.int (0 : Int32)), (.ref r0)])) rfl (by rw [hml]; rfl) (Steps.refl _) (a := r0) (by rw [e126]; exact q127) q127' (argsL := [(.int (0 : Int32))]) (rest := []) (lenOf pd_6 rfl) rfl (by show 2 * 0 + _ ≤ _; exact Nat.le_of_eq rfl) (hb hby d17_77) (fun _ _ => ⟨rfl, e126, (by decide : 0 + 0 ≤ _), (by decide : 0 + 0 ≤ _)⟩)
  dsimp only [Pt.U, Pt.locs, Pt.cells, Pt.slots] at X127 l127 y127 z127 st127 hQ127
  subst l127 y127 z127
  obtain ⟨rfl, N127q, e127⟩ := hQ127
  replace N0 := Fr.app N0 N127q
  refine gt st127 ?_
  show Go p e below s QQ 0 0 (T127.setTop (mkF m 80 #[rv r0, iv 0, iv (oI j), rv rn] []))
  exact goV X127 hx Bd.notSynchronized Bd.returns (hb hby d17_80) (by rw [← hQQ, e127]; exact ⟨rfl, N0, KK, F_runs_r0, F_sizes_r0, F_table_r0, F_field_r0, F_size_r0, F_runCount_r0, V_ra, V_sz, V_rn⟩) (by decide) (by decide)
theorem d16_0 : decode prog_26_method_8_code 0 = .ok (.aload_n 0, 1) := by decide +kernel
theorem d16_1 : decode prog_26_method_8_code 1 = .ok (.getfield 18, 3) := by decide +kernel
theorem d16_4 : decode prog_26_method_8_code 4 = .ok (.iload_n 1, 1) := by decide +kernel
theorem d16_5 : decode prog_26_method_8_code 5 = .ok (.aload_n 0, 1) := by decide +kernel
theorem d16_6 : decode prog_26_method_8_code 6 = .ok (.getfield 22, 3) := by decide +kernel
theorem d16_9 : decode prog_26_method_8_code 9 = .ok (.invokevirtual 47, 3) := by decide +kernel
theorem d16_12 : decode prog_26_method_8_code 12 = .ok (.lstore_n 2, 1) := by decide +kernel
theorem d16_13 : decode prog_26_method_8_code 13 = .ok (.aload_n 0, 1) := by decide +kernel
theorem d16_14 : decode prog_26_method_8_code 14 = .ok (.getfield 18, 3) := by decide +kernel
theorem d16_17 : decode prog_26_method_8_code 17 = .ok (.iload_n 1, 1) := by decide +kernel
theorem d16_18 : decode prog_26_method_8_code 18 = .ok (.iconst 0, 1) := by decide +kernel
theorem d16_19 : decode prog_26_method_8_code 19 = .ok (.invokevirtual 47, 3) := by decide +kernel
theorem d16_22 : decode prog_26_method_8_code 22 = .ok (.lstore 4, 2) := by decide +kernel
theorem d16_24 : decode prog_26_method_8_code 24 = .ok (.aload_n 0, 1) := by decide +kernel
theorem d16_25 : decode prog_26_method_8_code 25 = .ok (.lload_n 2, 1) := by decide +kernel
theorem d16_26 : decode prog_26_method_8_code 26 = .ok (.lload 4, 2) := by decide +kernel
theorem d16_28 : decode prog_26_method_8_code 28 = .ok (.invokevirtual 29, 3) := by decide +kernel
theorem d16_31 : decode prog_26_method_8_code 31 = .ok (.istore 6, 2) := by decide +kernel
theorem d16_33 : decode prog_26_method_8_code 33 = .ok (.aload_n 0, 1) := by decide +kernel
theorem d16_34 : decode prog_26_method_8_code 34 = .ok (.iload 6, 2) := by decide +kernel
theorem d16_36 : decode prog_26_method_8_code 36 = .ok (.lload_n 2, 1) := by decide +kernel
theorem d16_37 : decode prog_26_method_8_code 37 = .ok (.lload 4, 2) := by decide +kernel
theorem d16_39 : decode prog_26_method_8_code 39 = .ok (.invokevirtual 33, 3) := by decide +kernel
theorem d16_42 : decode prog_26_method_8_code 42 = .ok (.istore 7, 2) := by decide +kernel
theorem d16_44 : decode prog_26_method_8_code 44 = .ok (.iload 7, 2) := by decide +kernel
theorem d16_46 : decode prog_26_method_8_code 46 = .ok (.aload_n 0, 1) := by decide +kernel
theorem d16_47 : decode prog_26_method_8_code 47 = .ok (.getfield 15, 3) := by decide +kernel
theorem d16_50 : decode prog_26_method_8_code 50 = .ok (.iload 6, 2) := by decide +kernel
theorem d16_52 : decode prog_26_method_8_code 52 = .ok (.iaload, 1) := by decide +kernel
theorem d16_53 : decode prog_26_method_8_code 53 = .ok (.if_icmp .eq 17, 3) := by decide +kernel
theorem d16_56 : decode prog_26_method_8_code 56 = .ok (.aload_n 0, 1) := by decide +kernel
theorem d16_57 : decode prog_26_method_8_code 57 = .ok (.getfield 11, 3) := by decide +kernel
theorem d16_60 : decode prog_26_method_8_code 60 = .ok (.iload 6, 2) := by decide +kernel
theorem d16_62 : decode prog_26_method_8_code 62 = .ok (.aaload, 1) := by decide +kernel
theorem d16_63 : decode prog_26_method_8_code 63 = .ok (.iload 7, 2) := by decide +kernel
theorem d16_65 : decode prog_26_method_8_code 65 = .ok (.iaload, 1) := by decide +kernel
theorem d16_66 : decode prog_26_method_8_code 66 = .ok (.iload_n 1, 1) := by decide +kernel
theorem d16_67 : decode prog_26_method_8_code 67 = .ok (.if_icmp .eq 17, 3) := by decide +kernel
theorem d16_70 : decode prog_26_method_8_code 70 = .ok (.new 82, 3) := by decide +kernel
theorem d16_73 : decode prog_26_method_8_code 73 = .ok (.dup, 1) := by decide +kernel
theorem d16_74 : decode prog_26_method_8_code 74 = .ok (.iload_n 1, 1) := by decide +kernel
theorem d16_75 : decode prog_26_method_8_code 75 = .ok (.invokedynamic 84, 5) := by decide +kernel
theorem d16_80 : decode prog_26_method_8_code 80 = .ok (.invokespecial 88, 3) := by decide +kernel
theorem d16_83 : decode prog_26_method_8_code 83 = .ok (.athrow, 1) := by decide +kernel
theorem d16_84 : decode prog_26_method_8_code 84 = .ok (.aload_n 0, 1) := by decide +kernel
theorem d16_85 : decode prog_26_method_8_code 85 = .ok (.iload 6, 2) := by decide +kernel
theorem d16_87 : decode prog_26_method_8_code 87 = .ok (.iload 7, 2) := by decide +kernel
theorem d16_89 : decode prog_26_method_8_code 89 = .ok (.invokevirtual 91, 3) := by decide +kernel
theorem d16_92 : decode prog_26_method_8_code 92 = .ok (.return_, 1) := by decide +kernel
theorem pn_16 : plainName "com/example/interval/interval/service/SlotOrder" = true := by first | (simp [plainName, overriddenIn]; done) | decide +kernel
def QrmV1 (Z : State) (r0 : Addr) (r : Nat) (ra : Addr) (sz : Addr) (rn : Addr) (xs : Nat → Nat) (tb : Addr) (pg : Addr) (pa : Addr) (fpg : Nat → Value) (fa : Nat → Value) (fl : Nat) (Vv : Nat → Int64) (Ss : Nat → Int64) (h0 : Heap) (n0 : Nat) (v : Option Value) (h : Heap) (L : List Loc) : Prop := v = none ∧ Fr n0 L ∧ Keep h0 h [r0, ra, sz, rn] ∧ Fld Z h r0 "com/example/interval/interval/service/SlotOrder" "runs" "[[I" (.ref ra) ∧ Fld Z h r0 "com/example/interval/interval/service/SlotOrder" "sizes" "[I" (.ref sz) ∧ Fld Z h r0 "com/example/interval/interval/service/SlotOrder" "table" "Lcom/example/interval/interval/service/SlotTable;" (.ref tb) ∧ Fld Z h r0 "com/example/interval/interval/service/SlotOrder" "field" "I" (.int (oI fl)) ∧ Fld Z h r0 "com/example/interval/interval/service/SlotOrder" "size" "I" (.int (oI 0)) ∧ Fld Z h r0 "com/example/interval/interval/service/SlotOrder" "runCount" "I" (.int (0 : Int32))
set_option maxRecDepth 65536 in
set_option maxHeartbeats 40000000 in
theorem rmV1 (l : Launch) (Z : State) (a0 : Array Value) (hw : ∀ d ∈ tables_1, d.before a0 Z = true) (ws : List Jvm.Cond) (r0 : Addr) (r : Nat) (ra : Addr) (sz : Addr) (rn : Addr) (xs : Nat → Nat) (tb : Addr) (pg : Addr) (pa : Addr) (fpg : Nat → Value) (fa : Nat → Value) (fl : Nat) (Vv : Nat → Int64) (Ss : Nat → Int64) (h0 : Heap) (n0 : Nat) (Z0 : n0 ≤ h0.size) (F_runs_r0 : Fld Z h0 r0 "com/example/interval/interval/service/SlotOrder" "runs" "[[I" (.ref ra)) (F_sizes_r0 : Fld Z h0 r0 "com/example/interval/interval/service/SlotOrder" "sizes" "[I" (.ref sz)) (F_table_r0 : Fld Z h0 r0 "com/example/interval/interval/service/SlotOrder" "table" "Lcom/example/interval/interval/service/SlotTable;" (.ref tb)) (F_field_r0 : Fld Z h0 r0 "com/example/interval/interval/service/SlotOrder" "field" "I" (.int (oI fl))) (F_size_r0 : Fld Z h0 r0 "com/example/interval/interval/service/SlotOrder" "size" "I" (.int (oI 1))) (F_runCount_r0 : Fld Z h0 r0 "com/example/interval/interval/service/SlotOrder" "runCount" "I" (.int (1 : Int32))) (E_r0 : Exa Z h0 r0 "com/example/interval/interval/service/SlotOrder") (V_ra : Arf Z h0 ra (.array .int) 1 (fun _ => .ref rn)) (V_sz : Arf Z h0 sz .int 1 (fun _ => .int (oI 1))) (V_rn : Arf Z h0 rn .int 8 (fun i => .int (oI (xs i)))) (E_tb : Exa Z h0 tb "com/example/interval/interval/service/SlotTable") (F_pages_tb : Fld Z h0 tb "com/example/interval/interval/service/SlotTable" "pages" "[[J" (.ref pg)) (V_pg : Arf Z h0 pg (.array .long) 1 fpg) (hpg : fpg 0 = .ref pa) (V_pa : Arf Z h0 pa .long 40 fa) (htab : own_tb fa fl Vv Ss) (hfl : fl < 5) (ge_r0 : n0 ≤ r0) (ge_ra : n0 ≤ ra) (ge_sz : n0 ≤ sz) (ge_rn : n0 ≤ rn) (ne_r0_ra : r0 ≠ ra) (ne_r0_sz : r0 ≠ sz) (ne_r0_rn : r0 ≠ rn) (ne_ra_sz : ra ≠ sz) (ne_ra_rn : ra ≠ rn) (ne_sz_rn : sz ≠ rn) (ne_r0_tb : r0 ≠ tb) (ne_r0_pg : r0 ≠ pg) (ne_r0_pa : r0 ≠ pa) (ne_ra_tb : ra ≠ tb) (ne_ra_pg : ra ≠ pg) (ne_ra_pa : ra ≠ pa) (ne_sz_tb : sz ≠ tb) (ne_sz_pg : sz ≠ pg) (ne_sz_pa : sz ≠ pa) (ne_rn_tb : rn ≠ tb) (ne_rn_pg : rn ≠ pg) (ne_rn_pa : rn ≠ pa) (hr : r < 3) (hxs : ∀ i, i < 1 → xs i < 3) (hmono : ∀ i i', i < i' → i' < 1 → own_L Vv Ss (xs i') r → own_L Vv Ss (xs i) r) (hfind : ∀ j, own_at Vv Ss xs 1 r j → j < 1 ∧ xs j = r) :
    MetFree l (⟨"com/example/interval/interval/service/SlotOrder", "remove", "(I)V"⟩ : MethodName) (head1 (Jvm.Cond.code (⟨"com/example/interval/interval/service/SlotOrder", "remove", "(I)V"⟩ : MethodName) prog_26_method_8_code 8 none :: ws) ({ frames := 4, cells := 0, slots := 0, locals := 66 } : Room)) (fun a U => a = #[(.ref r0), (.int (oI r))] ∧ Z.Warmed39 U.vm ∧ U.heap = h0) (fun _ _ _ _ _ => True) (fun _ U o U' => ∃ v L, o = .returned v ∧ QrmV1 Z r0 r ra sz rn xs tb pg pa fpg fa fl Vv Ss h0 n0 v U'.heap L ∧ FrameEnd U o U' L ({ frames := 4, cells := 0, slots := 0, locals := 66 } : Room).cells ({ frames := 4, cells := 0, slots := 0, locals := 66 } : Room).slots) := by
  refine MetFree.of_bodySF (plainFor_of_name pn_16) hisR ?_
  intro p e s m args below meth c s₁ Bd hml0 hP hK
  obtain ⟨rfl, hZ, hh⟩ := hP
  have hx := Bd.exec
  have hby := Bd.bytes
  have hml : c.maxLocals = 8 := hml0
  have hown : s.vm.findClass "com/example/interval/interval/service/SlotOrder" = some m.cls := findClass_of_methodNamed Bd.named
  have hnm := (name_of_methodNamed Bd.named Bd.method).1
  have X0 : Stand p l e ({ frames := 4, cells := 0, slots := 0, locals := 66 } : Room) s m #[(.ref r0), (.int (oI r))] below meth c s₁ [] 0 0 := Stand.of_body Bd
  have e0 : s₁.heap = h0 := by rw [← hh, Bd.state]; rfl
  have N0 := Fr.nil n0
  have ZZ := Z0
  have KK : Keep h0 h0 [r0, ra, sz, rn] := Keep.refl h0 _
  show Go p e below s (QrmV1 Z r0 r ra sz rn xs tb pg pa fpg fa fl Vv Ss h0 n0) 0 0 (s₁.setTop (entryFrame m #[(.ref r0), (.int (oI r))] 8))
  generalize hQQ : (QrmV1 Z r0 r ra sz rn xs tb pg pa fpg fa fl Vv Ss h0 n0) = QQ
  refine gs (fun t k => castTop (g' := (mkF m 0 #[rv r0, iv (oI r), .unset, .unset, .unset, .unset, .unset, .unset] [])) (by first | (simp [entryFrame, mkF, argsToLocals, Value.category, maxLocals]; done) | rfl) k) ?_
  show Go p e below s QQ 0 0 (s₁.setTop (mkF m 0 #[rv r0, iv (oI r), .unset, .unset, .unset, .unset, .unset, .unset] []))
  refine gs (fun t => XS.aloadN X0.here hx rfl (hb hby d16_0) rfl rfl) ?_
  obtain ⟨T128, X128, e128, st128⟩ := getF X0 hx hZ hown (host := "") (Or.inl (hw _ (List.mem_of_getElem? (i := 44) rfl))) Via.refl e0 F_table_r0 (g := (mkF m 1 #[rv r0, iv (oI r), .unset, .unset, .unset, .unset, .unset, .unset] [(.ref r0)])) rfl rfl (hb hby d16_1)
  refine gs st128 ?_
  show Go p e below s QQ 0 0 (T128.setTop (mkF m 4 #[rv r0, iv (oI r), .unset, .unset, .unset, .unset, .unset, .unset] [(.ref tb)]))
  refine gs (fun t => XS.iloadN X128.here hx rfl (hb hby d16_4) rfl) ?_
  refine gs (fun t => XS.aloadN X128.here hx rfl (hb hby d16_5) rfl rfl) ?_
  obtain ⟨T129, X129, e129, st129⟩ := getF X128 hx hZ hown (host := "") (Or.inl (hw _ (List.mem_of_getElem? (i := 46) rfl))) Via.refl e128 F_field_r0 (g := (mkF m 6 #[rv r0, iv (oI r), .unset, .unset, .unset, .unset, .unset, .unset] [(.ref r0), (.int (oI r)), (.ref tb)])) rfl rfl (hb hby d16_6)
  refine gs st129 ?_
  show Go p e below s QQ 0 0 (T129.setTop (mkF m 9 #[rv r0, iv (oI r), .unset, .unset, .unset, .unset, .unset, .unset] [(.int (oI fl)), (.int (oI r)), (.ref tb)]))
  show Go p e below s QQ 0 0 (T129.setTop (mkF m 9 #[rv r0, iv (oI r), .unset, .unset, .unset, .unset, .unset, .unset] [(.int (oI fl)), (.int (oI r)), (.ref tb)]))
  obtain ⟨cq130, kq130, q130a, q130b, q130c⟩ := isOf hZ e129 E_tb
  obtain ⟨_, _, ⟨T130, L130, k130, n130⟩, -, X130, ⟨Lc130, hQ130, l130, y130, z130⟩, st130⟩ := X129.virtualBack hx (y := (⟨"com/example/interval/interval/service/SlotTable", "get", "(II)J"⟩ : MethodName)) (z := (⟨"com/example/interval/interval/service/SlotTable", "get", "(II)J"⟩ : MethodName)) hown (mvT hZ (hw _ (List.mem_of_getElem? (i := 65) rfl))) (mvT hZ (hw _ (List.mem_of_getElem? (i := 66) rfl))) (notFace_of_selects (args := #[]) (mvT hZ (hw _ (List.mem_of_getElem? (i := 68) rfl)))) (mvT hZ (hw _ (List.mem_of_getElem? (i := 68) rfl))) (mvT hZ (hw _ (List.mem_of_getElem? (i := 67) rfl))) (by decide) (backOf (W := 0) (rm10 l Z a0 hw [] tb r fl pg pa fpg fa (Vv r) h0 n0 ZZ F_pages_tb V_pg hpg V_pa (by omega) (by omega) (htab r hr).1) hZ (hw _ (List.mem_of_getElem? (i := 69) rfl)) (hw _ (List.mem_of_getElem? (i := 3) rfl)) (by decide) (by decide)) q130a q130c (g := (mkF m 9 #[rv r0, iv (oI r), .unset, .unset, .unset, .unset, .unset, .unset] [(.int (oI fl)), (.int (oI r)), (.ref tb)])) rfl (by rw [hml]; rfl) (Steps.refl _) (argsL := [(.int (oI r)), (.int (oI fl))]) (rest := []) (lenOf pd_2 rfl) rfl (by show 2 * 0 + _ ≤ _; exact Nat.le_of_eq rfl) (hb hby d16_9) (fun _ _ => ⟨rfl, e129, (by decide : 0 + 0 ≤ _), (by decide : 0 + 0 ≤ _)⟩)
  dsimp only [Pt.U, Pt.locs, Pt.cells, Pt.slots] at X130 l130 y130 z130 st130 hQ130
  subst l130 y130 z130
  obtain ⟨rfl, N130q, e130⟩ := hQ130
  replace N0 := Fr.app N0 N130q
  refine gt st130 ?_
  show Go p e below s QQ 0 0 (T130.setTop (mkF m 12 #[rv r0, iv (oI r), .unset, .unset, .unset, .unset, .unset, .unset] [(.long (Vv r))]))
  refine gs (fun t => XS.lstoreN X130.here hx rfl (hb hby d16_12) rfl (l' := #[rv r0, iv (oI r), jv (Vv r), .second, .unset, .unset, .unset, .unset]) rfl) ?_
  refine gs (fun t => XS.aloadN X130.here hx rfl (hb hby d16_13) rfl rfl) ?_
  obtain ⟨T131, X131, e131, st131⟩ := getF X130 hx hZ hown (host := "") (Or.inl (hw _ (List.mem_of_getElem? (i := 44) rfl))) Via.refl e130 F_table_r0 (g := (mkF m 14 #[rv r0, iv (oI r), jv (Vv r), .second, .unset, .unset, .unset, .unset] [(.ref r0)])) rfl rfl (hb hby d16_14)
  refine gs st131 ?_
  show Go p e below s QQ 0 0 (T131.setTop (mkF m 17 #[rv r0, iv (oI r), jv (Vv r), .second, .unset, .unset, .unset, .unset] [(.ref tb)]))
  refine gs (fun t => XS.iloadN X131.here hx rfl (hb hby d16_17) rfl) ?_
  refine gs (fun t => XS.iconst X131.here hx rfl (hb hby d16_18)) ?_
  show Go p e below s QQ 0 0 (T131.setTop (mkF m 19 #[rv r0, iv (oI r), jv (Vv r), .second, .unset, .unset, .unset, .unset] [(.int (oI 0)), (.int (oI r)), (.ref tb)]))
  obtain ⟨cq132, kq132, q132a, q132b, q132c⟩ := isOf hZ e131 E_tb
  obtain ⟨_, _, ⟨T132, L132, k132, n132⟩, -, X132, ⟨Lc132, hQ132, l132, y132, z132⟩, st132⟩ := X131.virtualBack hx (y := (⟨"com/example/interval/interval/service/SlotTable", "get", "(II)J"⟩ : MethodName)) (z := (⟨"com/example/interval/interval/service/SlotTable", "get", "(II)J"⟩ : MethodName)) hown (mvT hZ (hw _ (List.mem_of_getElem? (i := 65) rfl))) (mvT hZ (hw _ (List.mem_of_getElem? (i := 66) rfl))) (notFace_of_selects (args := #[]) (mvT hZ (hw _ (List.mem_of_getElem? (i := 68) rfl)))) (mvT hZ (hw _ (List.mem_of_getElem? (i := 68) rfl))) (mvT hZ (hw _ (List.mem_of_getElem? (i := 67) rfl))) (by decide) (backOf (W := 0) (rm10 l Z a0 hw [] tb r 0 pg pa fpg fa (Ss r) h0 n0 ZZ F_pages_tb V_pg hpg V_pa (by omega) (by omega) (htab r hr).2) hZ (hw _ (List.mem_of_getElem? (i := 69) rfl)) (hw _ (List.mem_of_getElem? (i := 3) rfl)) (by decide) (by decide)) q132a q132c (g := (mkF m 19 #[rv r0, iv (oI r), jv (Vv r), .second, .unset, .unset, .unset, .unset] [(.int (oI 0)), (.int (oI r)), (.ref tb)])) rfl (by rw [hml]; rfl) (Steps.refl _) (argsL := [(.int (oI r)), (.int (oI 0))]) (rest := []) (lenOf pd_2 rfl) rfl (by show 2 * 0 + _ ≤ _; exact Nat.le_of_eq rfl) (hb hby d16_19) (fun _ _ => ⟨rfl, e131, (by decide : 0 + 0 ≤ _), (by decide : 0 + 0 ≤ _)⟩)
  dsimp only [Pt.U, Pt.locs, Pt.cells, Pt.slots] at X132 l132 y132 z132 st132 hQ132
  subst l132 y132 z132
  obtain ⟨rfl, N132q, e132⟩ := hQ132
  replace N0 := Fr.app N0 N132q
  refine gt st132 ?_
  show Go p e below s QQ 0 0 (T132.setTop (mkF m 22 #[rv r0, iv (oI r), jv (Vv r), .second, .unset, .unset, .unset, .unset] [(.long (Ss r))]))
  refine gs (fun t => XS.lstore X132.here hx rfl (hb hby d16_22) rfl (l' := #[rv r0, iv (oI r), jv (Vv r), .second, jv (Ss r), .second, .unset, .unset]) rfl) ?_
  refine gs (fun t => XS.aloadN X132.here hx rfl (hb hby d16_24) rfl rfl) ?_
  refine gs (fun t => XS.lloadN X132.here hx rfl (hb hby d16_25) rfl) ?_
  refine gs (fun t => XS.lload X132.here hx rfl (hb hby d16_26) rfl) ?_
  obtain ⟨cq133, q133, q133'⟩ := E_r0.cell
  obtain ⟨_, _, ⟨T133, L133, k133, n133⟩, -, X133, ⟨Lc133, hQ133, l133, y133, z133⟩, st133⟩ := X132.privateBack hx (y := (⟨"com/example/interval/interval/service/SlotOrder", "runOf", "(JJ)I"⟩ : MethodName)) hown (mvT hZ (hw _ (List.mem_of_getElem? (i := 81) rfl))) (mvT hZ (hw _ (List.mem_of_getElem? (i := 82) rfl))) (own_selP hown (mvT hZ (hw _ (List.mem_of_getElem? (i := 56) rfl)) (args := #[])) rfl (mvP hZ (hw _ (List.mem_of_getElem? (i := 83) rfl))) (mvT hZ (hw _ (List.mem_of_getElem? (i := 82) rfl))) (by decide)) (Cond.privateMethod_at (mvP hZ (hw _ (List.mem_of_getElem? (i := 83) rfl)) (args := #[]))) (mvT hZ (hw _ (List.mem_of_getElem? (i := 84) rfl))) (by decide) (backOf (W := 0) (rmRo l Z a0 hw [] r0 (Vv r) (Ss r) h0 n0 ZZ F_runCount_r0) hZ (hw _ (List.mem_of_getElem? (i := 84) rfl)) (hw _ (List.mem_of_getElem? (i := 33) rfl)) (by decide) (by decide)) (g := (mkF m 28 #[rv r0, iv (oI r), jv (Vv r), .second, jv (Ss r), .second, .unset, .unset] [(.long (Ss r)), (.long (Vv r)), (.ref r0)])) rfl (by rw [hml]; rfl) (Steps.refl _) (a := r0) (by rw [e132]; exact q133) q133' (argsL := [(.long (Vv r)), (.long (Ss r))]) (rest := []) (lenOf pd_3 rfl) rfl (by show 2 * 0 + _ ≤ _; exact Nat.le_of_eq rfl) (hb hby d16_28) (fun _ _ => ⟨rfl, e132, (by decide : 0 + 0 ≤ _), (by decide : 0 + 0 ≤ _)⟩)
  dsimp only [Pt.U, Pt.locs, Pt.cells, Pt.slots] at X133 l133 y133 z133 st133 hQ133
  subst l133 y133 z133
  obtain ⟨rfl, N133q, e133⟩ := hQ133
  replace N0 := Fr.app N0 N133q
  refine gt st133 ?_
  show Go p e below s QQ 0 0 (T133.setTop (mkF m 31 #[rv r0, iv (oI r), jv (Vv r), .second, jv (Ss r), .second, .unset, .unset] [(.int (0 : Int32))]))
  refine gs (fun t => XS.istore X133.here hx rfl (hb hby d16_31) rfl (l' := #[rv r0, iv (oI r), jv (Vv r), .second, jv (Ss r), .second, iv 0, .unset]) rfl) ?_
  refine gs (fun t => XS.aloadN X133.here hx rfl (hb hby d16_33) rfl rfl) ?_
  refine gs (fun t => XS.iload X133.here hx rfl (hb hby d16_34) rfl) ?_
  refine gs (fun t => XS.lloadN X133.here hx rfl (hb hby d16_36) rfl) ?_
  refine gs (fun t => XS.lload X133.here hx rfl (hb hby d16_37) rfl) ?_
  obtain ⟨cq134, q134, q134'⟩ := E_r0.cell
  obtain ⟨_, _, ⟨T134, L134, k134, n134⟩, -, X134, ⟨Lc134, hQ134, l134, y134, z134⟩, st134⟩ := X133.privateBack hx (y := (⟨"com/example/interval/interval/service/SlotOrder", "indexIn", "(IJJ)I"⟩ : MethodName)) hown (mvT hZ (hw _ (List.mem_of_getElem? (i := 85) rfl))) (mvT hZ (hw _ (List.mem_of_getElem? (i := 86) rfl))) (own_selP hown (mvT hZ (hw _ (List.mem_of_getElem? (i := 56) rfl)) (args := #[])) rfl (mvP hZ (hw _ (List.mem_of_getElem? (i := 87) rfl))) (mvT hZ (hw _ (List.mem_of_getElem? (i := 86) rfl))) (by decide)) (Cond.privateMethod_at (mvP hZ (hw _ (List.mem_of_getElem? (i := 87) rfl)) (args := #[]))) (mvT hZ (hw _ (List.mem_of_getElem? (i := 88) rfl))) (by decide) (backOf (W := 0) (rmIx l Z a0 hw [] r0 r ra sz rn 1 xs tb pg pa fpg fa fl Vv Ss h0 n0 ZZ F_runs_r0 F_sizes_r0 F_table_r0 F_field_r0 E_r0 V_ra V_sz V_rn E_tb F_pages_tb V_pg hpg V_pa htab hfl (by omega) hxs hmono) hZ (hw _ (List.mem_of_getElem? (i := 88) rfl)) (hw _ (List.mem_of_getElem? (i := 33) rfl)) (by decide) (by decide)) (g := (mkF m 39 #[rv r0, iv (oI r), jv (Vv r), .second, jv (Ss r), .second, iv 0, .unset] [(.long (Ss r)), (.long (Vv r)), (.int (0 : Int32)), (.ref r0)])) rfl (by rw [hml]; rfl) (Steps.refl _) (a := r0) (by rw [e133]; exact q134) q134' (argsL := [(.int (0 : Int32)), (.long (Vv r)), (.long (Ss r))]) (rest := []) (lenOf pd_4 rfl) rfl (by show 2 * 0 + _ ≤ _; exact Nat.le_of_eq rfl) (hb hby d16_39) (fun _ _ => ⟨rfl, e133, (by decide : 0 + 0 ≤ _), (by decide : 0 + 0 ≤ _)⟩)
  dsimp only [Pt.U, Pt.locs, Pt.cells, Pt.slots] at X134 l134 y134 z134 st134 hQ134
  subst l134 y134 z134
  obtain ⟨j134, rfl, N134q, e134, hj134⟩ := hQ134
  replace N0 := Fr.app N0 N134q
  refine gt st134 ?_
  show Go p e below s QQ 0 0 (T134.setTop (mkF m 42 #[rv r0, iv (oI r), jv (Vv r), .second, jv (Ss r), .second, iv 0, .unset] [(.int (oI j134))]))
  have hjk := hj134.1
  obtain ⟨hf1, hf2⟩ := hfind _ hj134
  refine gs (fun t => XS.istore X134.here hx rfl (hb hby d16_42) rfl (l' := #[rv r0, iv (oI r), jv (Vv r), .second, jv (Ss r), .second, iv 0, iv (oI j134)]) rfl) ?_
  refine gs (fun t => XS.iload X134.here hx rfl (hb hby d16_44) rfl) ?_
  refine gs (fun t => XS.aloadN X134.here hx rfl (hb hby d16_46) rfl rfl) ?_
  obtain ⟨T135, X135, e135, st135⟩ := getF X134 hx hZ hown (host := "") (Or.inl (hw _ (List.mem_of_getElem? (i := 42) rfl))) Via.refl e134 F_sizes_r0 (g := (mkF m 47 #[rv r0, iv (oI r), jv (Vv r), .second, jv (Ss r), .second, iv 0, iv (oI j134)] [(.ref r0), (.int (oI j134))])) rfl rfl (hb hby d16_47)
  refine gs st135 ?_
  show Go p e below s QQ 0 0 (T135.setTop (mkF m 50 #[rv r0, iv (oI r), jv (Vv r), .second, jv (Ss r), .second, iv 0, iv (oI j134)] [(.ref sz), (.int (oI j134))]))
  refine gs (fun t => XS.iload X135.here hx rfl (hb hby d16_50) rfl) ?_
  refine gs (fun t => ldIf X135 hx hZ e135 V_sz (j := (0 : Int32)) (v := (.int (oI 1))) (by decide) rfl (g := (mkF m 52 #[rv r0, iv (oI r), jv (Vv r), .second, jv (Ss r), .second, iv 0, iv (oI j134)] [(.int (0 : Int32)), (.ref sz), (.int (oI j134))])) rfl rfl (hb hby d16_52) t) ?_
  refine gs (fun t => XS.icmpNo X135.here hx rfl (hb hby d16_53) rfl (feq (fun q => by have q2 := congrArg Int32.toInt q; rw [oI_t (by omega), oI_t (by omega)] at q2; omega : ¬ ((oI j134) = (oI 1)))).1) ?_
  refine gs (fun t => XS.aloadN X135.here hx rfl (hb hby d16_56) rfl rfl) ?_
  obtain ⟨T136, X136, e136, st136⟩ := getF X135 hx hZ hown (host := "") (Or.inl (hw _ (List.mem_of_getElem? (i := 40) rfl))) Via.refl e135 F_runs_r0 (g := (mkF m 57 #[rv r0, iv (oI r), jv (Vv r), .second, jv (Ss r), .second, iv 0, iv (oI j134)] [(.ref r0)])) rfl rfl (hb hby d16_57)
  refine gs st136 ?_
  show Go p e below s QQ 0 0 (T136.setTop (mkF m 60 #[rv r0, iv (oI r), jv (Vv r), .second, jv (Ss r), .second, iv 0, iv (oI j134)] [(.ref ra)]))
  refine gs (fun t => XS.iload X136.here hx rfl (hb hby d16_60) rfl) ?_
  refine gs (fun t => ldRf X136 hx hZ e136 V_ra rfl (j := (0 : Int32)) (v := (.ref rn)) (by decide) rfl (g := (mkF m 62 #[rv r0, iv (oI r), jv (Vv r), .second, jv (Ss r), .second, iv 0, iv (oI j134)] [(.int (0 : Int32)), (.ref ra)])) rfl rfl (hb hby d16_62) t) ?_
  refine gs (fun t => XS.iload X136.here hx rfl (hb hby d16_63) rfl) ?_
  refine gs (fun t => ldIf X136 hx hZ e136 V_rn (j := (oI j134)) (v := (.int (oI (xs j134)))) (own_oin (by omega) (by decide)) (by rw [oI_c (by omega)]) (g := (mkF m 65 #[rv r0, iv (oI r), jv (Vv r), .second, jv (Ss r), .second, iv 0, iv (oI j134)] [(.int (oI j134)), (.ref rn)])) rfl rfl (hb hby d16_65) t) ?_
  refine gs (fun t => XS.iloadN X136.here hx rfl (hb hby d16_66) rfl) ?_
  refine gs (fun t => XS.icmpYes X136.here hx rfl (pc0 := 67) (pc' := 84) rfl (hb hby d16_67) rfl (teq (congrArg oI hf2 : (oI (xs j134)) = (oI r))).1 (by decide) (by decide)) ?_
  show Go p e below s QQ 0 0 (T136.setTop (mkF m 84 #[rv r0, iv (oI r), jv (Vv r), .second, jv (Ss r), .second, iv 0, iv (oI j134)] []))
  refine gs (fun t => XS.aloadN X136.here hx rfl (hb hby d16_84) rfl rfl) ?_
  refine gs (fun t => XS.iload X136.here hx rfl (hb hby d16_85) rfl) ?_
  refine gs (fun t => XS.iload X136.here hx rfl (hb hby d16_87) rfl) ?_
  obtain ⟨cq137, q137, q137'⟩ := E_r0.cell
  obtain ⟨_, _, ⟨T137, L137, k137, n137⟩, -, X137, ⟨Lc137, hQ137, l137, y137, z137⟩, st137⟩ := X136.privateBack hx (y := (⟨"com/example/interval/interval/service/SlotOrder", "removeAt", "(II)V"⟩ : MethodName)) hown (mvT hZ (hw _ (List.mem_of_getElem? (i := 102) rfl))) (mvT hZ (hw _ (List.mem_of_getElem? (i := 103) rfl))) (own_selP hown (mvT hZ (hw _ (List.mem_of_getElem? (i := 56) rfl)) (args := #[])) rfl (mvP hZ (hw _ (List.mem_of_getElem? (i := 104) rfl))) (mvT hZ (hw _ (List.mem_of_getElem? (i := 103) rfl))) (by decide)) (Cond.privateMethod_at (mvP hZ (hw _ (List.mem_of_getElem? (i := 104) rfl)) (args := #[]))) (mvT hZ (hw _ (List.mem_of_getElem? (i := 105) rfl))) (by decide) (backOf (W := 0) (rmR1 l Z a0 hw [] r0 j134 ra sz rn xs tb fl h0 n0 ZZ F_runs_r0 F_sizes_r0 F_table_r0 F_field_r0 F_size_r0 F_runCount_r0 E_r0 V_ra V_sz V_rn ge_r0 ge_ra ge_sz ge_rn ne_r0_ra ne_r0_sz ne_r0_rn ne_ra_sz ne_ra_rn ne_sz_rn hf1) hZ (hw _ (List.mem_of_getElem? (i := 105) rfl)) (hw _ (List.mem_of_getElem? (i := 33) rfl)) (by decide) (by decide)) (g := (mkF m 89 #[rv r0, iv (oI r), jv (Vv r), .second, jv (Ss r), .second, iv 0, iv (oI j134)] [(.int (oI j134)), (.int (0 : Int32)), (.ref r0)])) rfl (by rw [hml]; rfl) (Steps.refl _) (a := r0) (by rw [e136]; exact q137) q137' (argsL := [(.int (0 : Int32)), (.int (oI j134))]) (rest := []) (lenOf pd_7 rfl) rfl (by show 2 * 0 + _ ≤ _; exact Nat.le_of_eq rfl) (hb hby d16_89) (fun _ _ => ⟨rfl, e136, (by decide : 0 + 0 ≤ _), (by decide : 0 + 0 ≤ _)⟩)
  dsimp only [Pt.U, Pt.locs, Pt.cells, Pt.slots] at X137 l137 y137 z137 st137 hQ137
  subst l137 y137 z137
  obtain ⟨rfl, N137q, K137, Gruns_137, Gsizes_137, Gtable_137, Gfield_137, Gsize_137, GrunCount_137⟩ := hQ137
  replace N0 := Fr.app N0 N137q
  refine gt st137 ?_
  show Go p e below s QQ 0 0 (T137.setTop (mkF m 92 #[rv r0, iv (oI r), jv (Vv r), .second, jv (Ss r), .second, iv 0, iv (oI j134)] []))
  replace E_r0 := E_r0.keep K137
  replace E_tb := E_tb.keep K137
  replace F_pages_tb := F_pages_tb.keep K137 (ninS (Ne.symm ne_r0_tb) (ninS (Ne.symm ne_ra_tb) (ninS (Ne.symm ne_sz_tb) (ninS (Ne.symm ne_rn_tb) nin0))))
  replace V_pg := V_pg.keep K137 (ninS (Ne.symm ne_r0_pg) (ninS (Ne.symm ne_ra_pg) (ninS (Ne.symm ne_sz_pg) (ninS (Ne.symm ne_rn_pg) nin0))))
  replace V_pa := V_pa.keep K137 (ninS (Ne.symm ne_r0_pa) (ninS (Ne.symm ne_ra_pa) (ninS (Ne.symm ne_sz_pa) (ninS (Ne.symm ne_rn_pa) nin0))))
  replace ZZ := Nat.le_trans ZZ K137.1
  replace KK := KK.trans K137 (allS (Or.inl (by simp)) (allS (Or.inl (by simp)) (allS (Or.inl (by simp)) (allS (Or.inl (by simp)) all0))))
  exact goV X137 hx Bd.notSynchronized Bd.returns (hb hby d16_92) (by rw [← hQQ]; exact ⟨rfl, N0, KK, Gruns_137, Gsizes_137, Gtable_137, Gfield_137, Gsize_137, GrunCount_137⟩) (by decide) (by decide)
def QrmVN (Z : State) (r0 : Addr) (r : Nat) (ra : Addr) (sz : Addr) (rn : Addr) (kn : Nat) (xs : Nat → Nat) (tb : Addr) (pg : Addr) (pa : Addr) (fpg : Nat → Value) (fa : Nat → Value) (fl : Nat) (Vv : Nat → Int64) (Ss : Nat → Int64) (h0 : Heap) (n0 : Nat) (v : Option Value) (h : Heap) (L : List Loc) : Prop := ∃ j : Nat, v = none ∧ Fr n0 L ∧ Keep h0 h [r0, sz, rn] ∧ Fld Z h r0 "com/example/interval/interval/service/SlotOrder" "runs" "[[I" (.ref ra) ∧ Fld Z h r0 "com/example/interval/interval/service/SlotOrder" "sizes" "[I" (.ref sz) ∧ Fld Z h r0 "com/example/interval/interval/service/SlotOrder" "table" "Lcom/example/interval/interval/service/SlotTable;" (.ref tb) ∧ Fld Z h r0 "com/example/interval/interval/service/SlotOrder" "field" "I" (.int (oI fl)) ∧ Fld Z h r0 "com/example/interval/interval/service/SlotOrder" "size" "I" (.int (oI (kn - 1))) ∧ Fld Z h r0 "com/example/interval/interval/service/SlotOrder" "runCount" "I" (.int (1 : Int32)) ∧ Arf Z h ra (.array .int) 1 (fun _ => .ref rn) ∧ Arf Z h sz .int 1 (fun _ => .int (oI (kn - 1))) ∧ Arf Z h rn .int 8 (fun i => .int (oI (own_mv xs (j + 1) j (kn - j - 1) i))) ∧ j < kn ∧ xs j = r
set_option maxRecDepth 65536 in
set_option maxHeartbeats 40000000 in
theorem rmVN (l : Launch) (Z : State) (a0 : Array Value) (hw : ∀ d ∈ tables_1, d.before a0 Z = true) (ws : List Jvm.Cond) (r0 : Addr) (r : Nat) (ra : Addr) (sz : Addr) (rn : Addr) (kn : Nat) (xs : Nat → Nat) (tb : Addr) (pg : Addr) (pa : Addr) (fpg : Nat → Value) (fa : Nat → Value) (fl : Nat) (Vv : Nat → Int64) (Ss : Nat → Int64) (h0 : Heap) (n0 : Nat) (Z0 : n0 ≤ h0.size) (F_runs_r0 : Fld Z h0 r0 "com/example/interval/interval/service/SlotOrder" "runs" "[[I" (.ref ra)) (F_sizes_r0 : Fld Z h0 r0 "com/example/interval/interval/service/SlotOrder" "sizes" "[I" (.ref sz)) (F_table_r0 : Fld Z h0 r0 "com/example/interval/interval/service/SlotOrder" "table" "Lcom/example/interval/interval/service/SlotTable;" (.ref tb)) (F_field_r0 : Fld Z h0 r0 "com/example/interval/interval/service/SlotOrder" "field" "I" (.int (oI fl))) (F_size_r0 : Fld Z h0 r0 "com/example/interval/interval/service/SlotOrder" "size" "I" (.int (oI kn))) (F_runCount_r0 : Fld Z h0 r0 "com/example/interval/interval/service/SlotOrder" "runCount" "I" (.int (1 : Int32))) (E_r0 : Exa Z h0 r0 "com/example/interval/interval/service/SlotOrder") (V_ra : Arf Z h0 ra (.array .int) 1 (fun _ => .ref rn)) (V_sz : Arf Z h0 sz .int 1 (fun _ => .int (oI kn))) (V_rn : Arf Z h0 rn .int 8 (fun i => .int (oI (xs i)))) (E_tb : Exa Z h0 tb "com/example/interval/interval/service/SlotTable") (F_pages_tb : Fld Z h0 tb "com/example/interval/interval/service/SlotTable" "pages" "[[J" (.ref pg)) (V_pg : Arf Z h0 pg (.array .long) 1 fpg) (hpg : fpg 0 = .ref pa) (V_pa : Arf Z h0 pa .long 40 fa) (htab : own_tb fa fl Vv Ss) (hfl : fl < 5) (ge_r0 : n0 ≤ r0) (ge_sz : n0 ≤ sz) (ge_rn : n0 ≤ rn) (ne_r0_ra : r0 ≠ ra) (ne_r0_sz : r0 ≠ sz) (ne_r0_rn : r0 ≠ rn) (ne_ra_sz : ra ≠ sz) (ne_ra_rn : ra ≠ rn) (ne_sz_rn : sz ≠ rn) (ne_r0_tb : r0 ≠ tb) (ne_r0_pg : r0 ≠ pg) (ne_r0_pa : r0 ≠ pa) (ne_ra_tb : ra ≠ tb) (ne_ra_pg : ra ≠ pg) (ne_ra_pa : ra ≠ pa) (ne_sz_tb : sz ≠ tb) (ne_sz_pg : sz ≠ pg) (ne_sz_pa : sz ≠ pa) (ne_rn_tb : rn ≠ tb) (ne_rn_pg : rn ≠ pg) (ne_rn_pa : rn ≠ pa) (hr : r < 3) (hxs : ∀ i, i < kn → xs i < 3) (hmono : ∀ i i', i < i' → i' < kn → own_L Vv Ss (xs i') r → own_L Vv Ss (xs i) r) (hfind : ∀ j, own_at Vv Ss xs kn r j → j < kn ∧ xs j = r) (hk2 : 2 ≤ kn) (hkn : kn ≤ 3) :
    MetFree l (⟨"com/example/interval/interval/service/SlotOrder", "remove", "(I)V"⟩ : MethodName) (head1 (Jvm.Cond.code (⟨"com/example/interval/interval/service/SlotOrder", "remove", "(I)V"⟩ : MethodName) prog_26_method_8_code 8 none :: ws) ({ frames := 4, cells := 0, slots := 0, locals := 66 } : Room)) (fun a U => a = #[(.ref r0), (.int (oI r))] ∧ Z.Warmed39 U.vm ∧ U.heap = h0) (fun _ _ _ _ _ => True) (fun _ U o U' => ∃ v L, o = .returned v ∧ QrmVN Z r0 r ra sz rn kn xs tb pg pa fpg fa fl Vv Ss h0 n0 v U'.heap L ∧ FrameEnd U o U' L ({ frames := 4, cells := 0, slots := 0, locals := 66 } : Room).cells ({ frames := 4, cells := 0, slots := 0, locals := 66 } : Room).slots) := by
  refine MetFree.of_bodySF (plainFor_of_name pn_16) hisR ?_
  intro p e s m args below meth c s₁ Bd hml0 hP hK
  obtain ⟨rfl, hZ, hh⟩ := hP
  have hx := Bd.exec
  have hby := Bd.bytes
  have hml : c.maxLocals = 8 := hml0
  have hown : s.vm.findClass "com/example/interval/interval/service/SlotOrder" = some m.cls := findClass_of_methodNamed Bd.named
  have hnm := (name_of_methodNamed Bd.named Bd.method).1
  have X0 : Stand p l e ({ frames := 4, cells := 0, slots := 0, locals := 66 } : Room) s m #[(.ref r0), (.int (oI r))] below meth c s₁ [] 0 0 := Stand.of_body Bd
  have e0 : s₁.heap = h0 := by rw [← hh, Bd.state]; rfl
  have N0 := Fr.nil n0
  have ZZ := Z0
  have KK : Keep h0 h0 [r0, sz, rn] := Keep.refl h0 _
  show Go p e below s (QrmVN Z r0 r ra sz rn kn xs tb pg pa fpg fa fl Vv Ss h0 n0) 0 0 (s₁.setTop (entryFrame m #[(.ref r0), (.int (oI r))] 8))
  generalize hQQ : (QrmVN Z r0 r ra sz rn kn xs tb pg pa fpg fa fl Vv Ss h0 n0) = QQ
  refine gs (fun t k => castTop (g' := (mkF m 0 #[rv r0, iv (oI r), .unset, .unset, .unset, .unset, .unset, .unset] [])) (by first | (simp [entryFrame, mkF, argsToLocals, Value.category, maxLocals]; done) | rfl) k) ?_
  show Go p e below s QQ 0 0 (s₁.setTop (mkF m 0 #[rv r0, iv (oI r), .unset, .unset, .unset, .unset, .unset, .unset] []))
  refine gs (fun t => XS.aloadN X0.here hx rfl (hb hby d16_0) rfl rfl) ?_
  obtain ⟨T138, X138, e138, st138⟩ := getF X0 hx hZ hown (host := "") (Or.inl (hw _ (List.mem_of_getElem? (i := 44) rfl))) Via.refl e0 F_table_r0 (g := (mkF m 1 #[rv r0, iv (oI r), .unset, .unset, .unset, .unset, .unset, .unset] [(.ref r0)])) rfl rfl (hb hby d16_1)
  refine gs st138 ?_
  show Go p e below s QQ 0 0 (T138.setTop (mkF m 4 #[rv r0, iv (oI r), .unset, .unset, .unset, .unset, .unset, .unset] [(.ref tb)]))
  refine gs (fun t => XS.iloadN X138.here hx rfl (hb hby d16_4) rfl) ?_
  refine gs (fun t => XS.aloadN X138.here hx rfl (hb hby d16_5) rfl rfl) ?_
  obtain ⟨T139, X139, e139, st139⟩ := getF X138 hx hZ hown (host := "") (Or.inl (hw _ (List.mem_of_getElem? (i := 46) rfl))) Via.refl e138 F_field_r0 (g := (mkF m 6 #[rv r0, iv (oI r), .unset, .unset, .unset, .unset, .unset, .unset] [(.ref r0), (.int (oI r)), (.ref tb)])) rfl rfl (hb hby d16_6)
  refine gs st139 ?_
  show Go p e below s QQ 0 0 (T139.setTop (mkF m 9 #[rv r0, iv (oI r), .unset, .unset, .unset, .unset, .unset, .unset] [(.int (oI fl)), (.int (oI r)), (.ref tb)]))
  show Go p e below s QQ 0 0 (T139.setTop (mkF m 9 #[rv r0, iv (oI r), .unset, .unset, .unset, .unset, .unset, .unset] [(.int (oI fl)), (.int (oI r)), (.ref tb)]))
  obtain ⟨cq140, kq140, q140a, q140b, q140c⟩ := isOf hZ e139 E_tb
  obtain ⟨_, _, ⟨T140, L140, k140, n140⟩, -, X140, ⟨Lc140, hQ140, l140, y140, z140⟩, st140⟩ := X139.virtualBack hx (y := (⟨"com/example/interval/interval/service/SlotTable", "get", "(II)J"⟩ : MethodName)) (z := (⟨"com/example/interval/interval/service/SlotTable", "get", "(II)J"⟩ : MethodName)) hown (mvT hZ (hw _ (List.mem_of_getElem? (i := 65) rfl))) (mvT hZ (hw _ (List.mem_of_getElem? (i := 66) rfl))) (notFace_of_selects (args := #[]) (mvT hZ (hw _ (List.mem_of_getElem? (i := 68) rfl)))) (mvT hZ (hw _ (List.mem_of_getElem? (i := 68) rfl))) (mvT hZ (hw _ (List.mem_of_getElem? (i := 67) rfl))) (by decide) (backOf (W := 0) (rm10 l Z a0 hw [] tb r fl pg pa fpg fa (Vv r) h0 n0 ZZ F_pages_tb V_pg hpg V_pa (by omega) (by omega) (htab r hr).1) hZ (hw _ (List.mem_of_getElem? (i := 69) rfl)) (hw _ (List.mem_of_getElem? (i := 3) rfl)) (by decide) (by decide)) q140a q140c (g := (mkF m 9 #[rv r0, iv (oI r), .unset, .unset, .unset, .unset, .unset, .unset] [(.int (oI fl)), (.int (oI r)), (.ref tb)])) rfl (by rw [hml]; rfl) (Steps.refl _) (argsL := [(.int (oI r)), (.int (oI fl))]) (rest := []) (lenOf pd_2 rfl) rfl (by show 2 * 0 + _ ≤ _; exact Nat.le_of_eq rfl) (hb hby d16_9) (fun _ _ => ⟨rfl, e139, (by decide : 0 + 0 ≤ _), (by decide : 0 + 0 ≤ _)⟩)
  dsimp only [Pt.U, Pt.locs, Pt.cells, Pt.slots] at X140 l140 y140 z140 st140 hQ140
  subst l140 y140 z140
  obtain ⟨rfl, N140q, e140⟩ := hQ140
  replace N0 := Fr.app N0 N140q
  refine gt st140 ?_
  show Go p e below s QQ 0 0 (T140.setTop (mkF m 12 #[rv r0, iv (oI r), .unset, .unset, .unset, .unset, .unset, .unset] [(.long (Vv r))]))
  refine gs (fun t => XS.lstoreN X140.here hx rfl (hb hby d16_12) rfl (l' := #[rv r0, iv (oI r), jv (Vv r), .second, .unset, .unset, .unset, .unset]) rfl) ?_
  refine gs (fun t => XS.aloadN X140.here hx rfl (hb hby d16_13) rfl rfl) ?_
  obtain ⟨T141, X141, e141, st141⟩ := getF X140 hx hZ hown (host := "") (Or.inl (hw _ (List.mem_of_getElem? (i := 44) rfl))) Via.refl e140 F_table_r0 (g := (mkF m 14 #[rv r0, iv (oI r), jv (Vv r), .second, .unset, .unset, .unset, .unset] [(.ref r0)])) rfl rfl (hb hby d16_14)
  refine gs st141 ?_
  show Go p e below s QQ 0 0 (T141.setTop (mkF m 17 #[rv r0, iv (oI r), jv (Vv r), .second, .unset, .unset, .unset, .unset] [(.ref tb)]))
  refine gs (fun t => XS.iloadN X141.here hx rfl (hb hby d16_17) rfl) ?_
  refine gs (fun t => XS.iconst X141.here hx rfl (hb hby d16_18)) ?_
  show Go p e below s QQ 0 0 (T141.setTop (mkF m 19 #[rv r0, iv (oI r), jv (Vv r), .second, .unset, .unset, .unset, .unset] [(.int (oI 0)), (.int (oI r)), (.ref tb)]))
  obtain ⟨cq142, kq142, q142a, q142b, q142c⟩ := isOf hZ e141 E_tb
  obtain ⟨_, _, ⟨T142, L142, k142, n142⟩, -, X142, ⟨Lc142, hQ142, l142, y142, z142⟩, st142⟩ := X141.virtualBack hx (y := (⟨"com/example/interval/interval/service/SlotTable", "get", "(II)J"⟩ : MethodName)) (z := (⟨"com/example/interval/interval/service/SlotTable", "get", "(II)J"⟩ : MethodName)) hown (mvT hZ (hw _ (List.mem_of_getElem? (i := 65) rfl))) (mvT hZ (hw _ (List.mem_of_getElem? (i := 66) rfl))) (notFace_of_selects (args := #[]) (mvT hZ (hw _ (List.mem_of_getElem? (i := 68) rfl)))) (mvT hZ (hw _ (List.mem_of_getElem? (i := 68) rfl))) (mvT hZ (hw _ (List.mem_of_getElem? (i := 67) rfl))) (by decide) (backOf (W := 0) (rm10 l Z a0 hw [] tb r 0 pg pa fpg fa (Ss r) h0 n0 ZZ F_pages_tb V_pg hpg V_pa (by omega) (by omega) (htab r hr).2) hZ (hw _ (List.mem_of_getElem? (i := 69) rfl)) (hw _ (List.mem_of_getElem? (i := 3) rfl)) (by decide) (by decide)) q142a q142c (g := (mkF m 19 #[rv r0, iv (oI r), jv (Vv r), .second, .unset, .unset, .unset, .unset] [(.int (oI 0)), (.int (oI r)), (.ref tb)])) rfl (by rw [hml]; rfl) (Steps.refl _) (argsL := [(.int (oI r)), (.int (oI 0))]) (rest := []) (lenOf pd_2 rfl) rfl (by show 2 * 0 + _ ≤ _; exact Nat.le_of_eq rfl) (hb hby d16_19) (fun _ _ => ⟨rfl, e141, (by decide : 0 + 0 ≤ _), (by decide : 0 + 0 ≤ _)⟩)
  dsimp only [Pt.U, Pt.locs, Pt.cells, Pt.slots] at X142 l142 y142 z142 st142 hQ142
  subst l142 y142 z142
  obtain ⟨rfl, N142q, e142⟩ := hQ142
  replace N0 := Fr.app N0 N142q
  refine gt st142 ?_
  show Go p e below s QQ 0 0 (T142.setTop (mkF m 22 #[rv r0, iv (oI r), jv (Vv r), .second, .unset, .unset, .unset, .unset] [(.long (Ss r))]))
  refine gs (fun t => XS.lstore X142.here hx rfl (hb hby d16_22) rfl (l' := #[rv r0, iv (oI r), jv (Vv r), .second, jv (Ss r), .second, .unset, .unset]) rfl) ?_
  refine gs (fun t => XS.aloadN X142.here hx rfl (hb hby d16_24) rfl rfl) ?_
  refine gs (fun t => XS.lloadN X142.here hx rfl (hb hby d16_25) rfl) ?_
  refine gs (fun t => XS.lload X142.here hx rfl (hb hby d16_26) rfl) ?_
  obtain ⟨cq143, q143, q143'⟩ := E_r0.cell
  obtain ⟨_, _, ⟨T143, L143, k143, n143⟩, -, X143, ⟨Lc143, hQ143, l143, y143, z143⟩, st143⟩ := X142.privateBack hx (y := (⟨"com/example/interval/interval/service/SlotOrder", "runOf", "(JJ)I"⟩ : MethodName)) hown (mvT hZ (hw _ (List.mem_of_getElem? (i := 81) rfl))) (mvT hZ (hw _ (List.mem_of_getElem? (i := 82) rfl))) (own_selP hown (mvT hZ (hw _ (List.mem_of_getElem? (i := 56) rfl)) (args := #[])) rfl (mvP hZ (hw _ (List.mem_of_getElem? (i := 83) rfl))) (mvT hZ (hw _ (List.mem_of_getElem? (i := 82) rfl))) (by decide)) (Cond.privateMethod_at (mvP hZ (hw _ (List.mem_of_getElem? (i := 83) rfl)) (args := #[]))) (mvT hZ (hw _ (List.mem_of_getElem? (i := 84) rfl))) (by decide) (backOf (W := 0) (rmRo l Z a0 hw [] r0 (Vv r) (Ss r) h0 n0 ZZ F_runCount_r0) hZ (hw _ (List.mem_of_getElem? (i := 84) rfl)) (hw _ (List.mem_of_getElem? (i := 33) rfl)) (by decide) (by decide)) (g := (mkF m 28 #[rv r0, iv (oI r), jv (Vv r), .second, jv (Ss r), .second, .unset, .unset] [(.long (Ss r)), (.long (Vv r)), (.ref r0)])) rfl (by rw [hml]; rfl) (Steps.refl _) (a := r0) (by rw [e142]; exact q143) q143' (argsL := [(.long (Vv r)), (.long (Ss r))]) (rest := []) (lenOf pd_3 rfl) rfl (by show 2 * 0 + _ ≤ _; exact Nat.le_of_eq rfl) (hb hby d16_28) (fun _ _ => ⟨rfl, e142, (by decide : 0 + 0 ≤ _), (by decide : 0 + 0 ≤ _)⟩)
  dsimp only [Pt.U, Pt.locs, Pt.cells, Pt.slots] at X143 l143 y143 z143 st143 hQ143
  subst l143 y143 z143
  obtain ⟨rfl, N143q, e143⟩ := hQ143
  replace N0 := Fr.app N0 N143q
  refine gt st143 ?_
  show Go p e below s QQ 0 0 (T143.setTop (mkF m 31 #[rv r0, iv (oI r), jv (Vv r), .second, jv (Ss r), .second, .unset, .unset] [(.int (0 : Int32))]))
  refine gs (fun t => XS.istore X143.here hx rfl (hb hby d16_31) rfl (l' := #[rv r0, iv (oI r), jv (Vv r), .second, jv (Ss r), .second, iv 0, .unset]) rfl) ?_
  refine gs (fun t => XS.aloadN X143.here hx rfl (hb hby d16_33) rfl rfl) ?_
  refine gs (fun t => XS.iload X143.here hx rfl (hb hby d16_34) rfl) ?_
  refine gs (fun t => XS.lloadN X143.here hx rfl (hb hby d16_36) rfl) ?_
  refine gs (fun t => XS.lload X143.here hx rfl (hb hby d16_37) rfl) ?_
  obtain ⟨cq144, q144, q144'⟩ := E_r0.cell
  obtain ⟨_, _, ⟨T144, L144, k144, n144⟩, -, X144, ⟨Lc144, hQ144, l144, y144, z144⟩, st144⟩ := X143.privateBack hx (y := (⟨"com/example/interval/interval/service/SlotOrder", "indexIn", "(IJJ)I"⟩ : MethodName)) hown (mvT hZ (hw _ (List.mem_of_getElem? (i := 85) rfl))) (mvT hZ (hw _ (List.mem_of_getElem? (i := 86) rfl))) (own_selP hown (mvT hZ (hw _ (List.mem_of_getElem? (i := 56) rfl)) (args := #[])) rfl (mvP hZ (hw _ (List.mem_of_getElem? (i := 87) rfl))) (mvT hZ (hw _ (List.mem_of_getElem? (i := 86) rfl))) (by decide)) (Cond.privateMethod_at (mvP hZ (hw _ (List.mem_of_getElem? (i := 87) rfl)) (args := #[]))) (mvT hZ (hw _ (List.mem_of_getElem? (i := 88) rfl))) (by decide) (backOf (W := 0) (rmIx l Z a0 hw [] r0 r ra sz rn kn xs tb pg pa fpg fa fl Vv Ss h0 n0 ZZ F_runs_r0 F_sizes_r0 F_table_r0 F_field_r0 E_r0 V_ra V_sz V_rn E_tb F_pages_tb V_pg hpg V_pa htab hfl (by omega) hxs hmono) hZ (hw _ (List.mem_of_getElem? (i := 88) rfl)) (hw _ (List.mem_of_getElem? (i := 33) rfl)) (by decide) (by decide)) (g := (mkF m 39 #[rv r0, iv (oI r), jv (Vv r), .second, jv (Ss r), .second, iv 0, .unset] [(.long (Ss r)), (.long (Vv r)), (.int (0 : Int32)), (.ref r0)])) rfl (by rw [hml]; rfl) (Steps.refl _) (a := r0) (by rw [e143]; exact q144) q144' (argsL := [(.int (0 : Int32)), (.long (Vv r)), (.long (Ss r))]) (rest := []) (lenOf pd_4 rfl) rfl (by show 2 * 0 + _ ≤ _; exact Nat.le_of_eq rfl) (hb hby d16_39) (fun _ _ => ⟨rfl, e143, (by decide : 0 + 0 ≤ _), (by decide : 0 + 0 ≤ _)⟩)
  dsimp only [Pt.U, Pt.locs, Pt.cells, Pt.slots] at X144 l144 y144 z144 st144 hQ144
  subst l144 y144 z144
  obtain ⟨j144, rfl, N144q, e144, hj144⟩ := hQ144
  replace N0 := Fr.app N0 N144q
  refine gt st144 ?_
  show Go p e below s QQ 0 0 (T144.setTop (mkF m 42 #[rv r0, iv (oI r), jv (Vv r), .second, jv (Ss r), .second, iv 0, .unset] [(.int (oI j144))]))
  have hjk := hj144.1
  obtain ⟨hf1, hf2⟩ := hfind _ hj144
  refine gs (fun t => XS.istore X144.here hx rfl (hb hby d16_42) rfl (l' := #[rv r0, iv (oI r), jv (Vv r), .second, jv (Ss r), .second, iv 0, iv (oI j144)]) rfl) ?_
  refine gs (fun t => XS.iload X144.here hx rfl (hb hby d16_44) rfl) ?_
  refine gs (fun t => XS.aloadN X144.here hx rfl (hb hby d16_46) rfl rfl) ?_
  obtain ⟨T145, X145, e145, st145⟩ := getF X144 hx hZ hown (host := "") (Or.inl (hw _ (List.mem_of_getElem? (i := 42) rfl))) Via.refl e144 F_sizes_r0 (g := (mkF m 47 #[rv r0, iv (oI r), jv (Vv r), .second, jv (Ss r), .second, iv 0, iv (oI j144)] [(.ref r0), (.int (oI j144))])) rfl rfl (hb hby d16_47)
  refine gs st145 ?_
  show Go p e below s QQ 0 0 (T145.setTop (mkF m 50 #[rv r0, iv (oI r), jv (Vv r), .second, jv (Ss r), .second, iv 0, iv (oI j144)] [(.ref sz), (.int (oI j144))]))
  refine gs (fun t => XS.iload X145.here hx rfl (hb hby d16_50) rfl) ?_
  refine gs (fun t => ldIf X145 hx hZ e145 V_sz (j := (0 : Int32)) (v := (.int (oI kn))) (by decide) rfl (g := (mkF m 52 #[rv r0, iv (oI r), jv (Vv r), .second, jv (Ss r), .second, iv 0, iv (oI j144)] [(.int (0 : Int32)), (.ref sz), (.int (oI j144))])) rfl rfl (hb hby d16_52) t) ?_
  refine gs (fun t => XS.icmpNo X145.here hx rfl (hb hby d16_53) rfl (feq (fun q => by have q2 := congrArg Int32.toInt q; rw [oI_t (by omega), oI_t (by omega)] at q2; omega : ¬ ((oI j144) = (oI kn)))).1) ?_
  refine gs (fun t => XS.aloadN X145.here hx rfl (hb hby d16_56) rfl rfl) ?_
  obtain ⟨T146, X146, e146, st146⟩ := getF X145 hx hZ hown (host := "") (Or.inl (hw _ (List.mem_of_getElem? (i := 40) rfl))) Via.refl e145 F_runs_r0 (g := (mkF m 57 #[rv r0, iv (oI r), jv (Vv r), .second, jv (Ss r), .second, iv 0, iv (oI j144)] [(.ref r0)])) rfl rfl (hb hby d16_57)
  refine gs st146 ?_
  show Go p e below s QQ 0 0 (T146.setTop (mkF m 60 #[rv r0, iv (oI r), jv (Vv r), .second, jv (Ss r), .second, iv 0, iv (oI j144)] [(.ref ra)]))
  refine gs (fun t => XS.iload X146.here hx rfl (hb hby d16_60) rfl) ?_
  refine gs (fun t => ldRf X146 hx hZ e146 V_ra rfl (j := (0 : Int32)) (v := (.ref rn)) (by decide) rfl (g := (mkF m 62 #[rv r0, iv (oI r), jv (Vv r), .second, jv (Ss r), .second, iv 0, iv (oI j144)] [(.int (0 : Int32)), (.ref ra)])) rfl rfl (hb hby d16_62) t) ?_
  refine gs (fun t => XS.iload X146.here hx rfl (hb hby d16_63) rfl) ?_
  refine gs (fun t => ldIf X146 hx hZ e146 V_rn (j := (oI j144)) (v := (.int (oI (xs j144)))) (own_oin (by omega) (by decide)) (by rw [oI_c (by omega)]) (g := (mkF m 65 #[rv r0, iv (oI r), jv (Vv r), .second, jv (Ss r), .second, iv 0, iv (oI j144)] [(.int (oI j144)), (.ref rn)])) rfl rfl (hb hby d16_65) t) ?_
  refine gs (fun t => XS.iloadN X146.here hx rfl (hb hby d16_66) rfl) ?_
  refine gs (fun t => XS.icmpYes X146.here hx rfl (pc0 := 67) (pc' := 84) rfl (hb hby d16_67) rfl (teq (congrArg oI hf2 : (oI (xs j144)) = (oI r))).1 (by decide) (by decide)) ?_
  show Go p e below s QQ 0 0 (T146.setTop (mkF m 84 #[rv r0, iv (oI r), jv (Vv r), .second, jv (Ss r), .second, iv 0, iv (oI j144)] []))
  refine gs (fun t => XS.aloadN X146.here hx rfl (hb hby d16_84) rfl rfl) ?_
  refine gs (fun t => XS.iload X146.here hx rfl (hb hby d16_85) rfl) ?_
  refine gs (fun t => XS.iload X146.here hx rfl (hb hby d16_87) rfl) ?_
  obtain ⟨cq147, q147, q147'⟩ := E_r0.cell
  obtain ⟨_, _, ⟨T147, L147, k147, n147⟩, -, X147, ⟨Lc147, hQ147, l147, y147, z147⟩, st147⟩ := X146.privateBack hx (y := (⟨"com/example/interval/interval/service/SlotOrder", "removeAt", "(II)V"⟩ : MethodName)) hown (mvT hZ (hw _ (List.mem_of_getElem? (i := 102) rfl))) (mvT hZ (hw _ (List.mem_of_getElem? (i := 103) rfl))) (own_selP hown (mvT hZ (hw _ (List.mem_of_getElem? (i := 56) rfl)) (args := #[])) rfl (mvP hZ (hw _ (List.mem_of_getElem? (i := 104) rfl))) (mvT hZ (hw _ (List.mem_of_getElem? (i := 103) rfl))) (by decide)) (Cond.privateMethod_at (mvP hZ (hw _ (List.mem_of_getElem? (i := 104) rfl)) (args := #[]))) (mvT hZ (hw _ (List.mem_of_getElem? (i := 105) rfl))) (by decide) (backOf (W := 0) (rmRN l Z a0 hw [] r0 j144 ra sz rn kn xs tb fl h0 n0 ZZ F_runs_r0 F_sizes_r0 F_table_r0 F_field_r0 F_size_r0 F_runCount_r0 E_r0 V_ra V_sz V_rn ge_r0 ge_sz ge_rn ne_r0_ra ne_r0_sz ne_r0_rn ne_ra_sz ne_ra_rn ne_sz_rn hf1 hk2 hkn) hZ (hw _ (List.mem_of_getElem? (i := 105) rfl)) (hw _ (List.mem_of_getElem? (i := 33) rfl)) (by decide) (by decide)) (g := (mkF m 89 #[rv r0, iv (oI r), jv (Vv r), .second, jv (Ss r), .second, iv 0, iv (oI j144)] [(.int (oI j144)), (.int (0 : Int32)), (.ref r0)])) rfl (by rw [hml]; rfl) (Steps.refl _) (a := r0) (by rw [e146]; exact q147) q147' (argsL := [(.int (0 : Int32)), (.int (oI j144))]) (rest := []) (lenOf pd_7 rfl) rfl (by show 2 * 0 + _ ≤ _; exact Nat.le_of_eq rfl) (hb hby d16_89) (fun _ _ => ⟨rfl, e146, (by decide : 0 + 0 ≤ _), (by decide : 0 + 0 ≤ _)⟩)
  dsimp only [Pt.U, Pt.locs, Pt.cells, Pt.slots] at X147 l147 y147 z147 st147 hQ147
  subst l147 y147 z147
  obtain ⟨rfl, N147q, K147, Gruns_147, Gsizes_147, Gtable_147, Gfield_147, Gsize_147, GrunCount_147, Ha147, Hs147, Hr147⟩ := hQ147
  replace N0 := Fr.app N0 N147q
  refine gt st147 ?_
  show Go p e below s QQ 0 0 (T147.setTop (mkF m 92 #[rv r0, iv (oI r), jv (Vv r), .second, jv (Ss r), .second, iv 0, iv (oI j144)] []))
  replace E_r0 := E_r0.keep K147
  replace V_ra := V_ra.keep K147 (ninS (Ne.symm ne_r0_ra) (ninS ne_ra_sz (ninS ne_ra_rn nin0)))
  replace E_tb := E_tb.keep K147
  replace F_pages_tb := F_pages_tb.keep K147 (ninS (Ne.symm ne_r0_tb) (ninS (Ne.symm ne_sz_tb) (ninS (Ne.symm ne_rn_tb) nin0)))
  replace V_pg := V_pg.keep K147 (ninS (Ne.symm ne_r0_pg) (ninS (Ne.symm ne_sz_pg) (ninS (Ne.symm ne_rn_pg) nin0)))
  replace V_pa := V_pa.keep K147 (ninS (Ne.symm ne_r0_pa) (ninS (Ne.symm ne_sz_pa) (ninS (Ne.symm ne_rn_pa) nin0)))
  replace ZZ := Nat.le_trans ZZ K147.1
  replace KK := KK.trans K147 (allS (Or.inl (by simp)) (allS (Or.inl (by simp)) (allS (Or.inl (by simp)) all0)))
  exact goV X147 hx Bd.notSynchronized Bd.returns (hb hby d16_92) (by rw [← hQQ]; exact ⟨j144, rfl, N0, KK, Gruns_147, Gsizes_147, Gtable_147, Gfield_147, Gsize_147, GrunCount_147, Ha147, Hs147, Hr147, hf1, hf2⟩) (by decide) (by decide)
theorem d8_0 : decode prog_26_method_3_code 0 = .ok (.aload_n 0, 1) := by decide +kernel
theorem d8_1 : decode prog_26_method_3_code 1 = .ok (.getfield 26, 3) := by decide +kernel
theorem d8_4 : decode prog_26_method_3_code 4 = .ok (.ifCond .ne 7, 3) := by decide +kernel
theorem d8_7 : decode prog_26_method_3_code 7 = .ok (.iconst (-1), 1) := by decide +kernel
theorem d8_8 : decode prog_26_method_3_code 8 = .ok (.goto 11, 3) := by decide +kernel
theorem d8_11 : decode prog_26_method_3_code 11 = .ok (.aload_n 0, 1) := by decide +kernel
theorem d8_12 : decode prog_26_method_3_code 12 = .ok (.getfield 11, 3) := by decide +kernel
theorem d8_15 : decode prog_26_method_3_code 15 = .ok (.iconst 0, 1) := by decide +kernel
theorem d8_16 : decode prog_26_method_3_code 16 = .ok (.aaload, 1) := by decide +kernel
theorem d8_17 : decode prog_26_method_3_code 17 = .ok (.iconst 0, 1) := by decide +kernel
theorem d8_18 : decode prog_26_method_3_code 18 = .ok (.iaload, 1) := by decide +kernel
theorem d8_19 : decode prog_26_method_3_code 19 = .ok (.ireturn, 1) := by decide +kernel
theorem pn_8 : plainName "com/example/interval/interval/service/SlotOrder" = true := by first | (simp [plainName, overriddenIn]; done) | decide +kernel
def QrmF0 (Z : State) (r0 : Addr) (h0 : Heap) (n0 : Nat) (v : Option Value) (h : Heap) (L : List Loc) : Prop := v = some (.int (-1)) ∧ Fr n0 L ∧ h = h0
set_option maxRecDepth 65536 in
set_option maxHeartbeats 40000000 in
theorem rmF0 (l : Launch) (Z : State) (a0 : Array Value) (hw : ∀ d ∈ tables_1, d.before a0 Z = true) (ws : List Jvm.Cond) (r0 : Addr) (h0 : Heap) (n0 : Nat) (Z0 : n0 ≤ h0.size) (F_size_r0 : Fld Z h0 r0 "com/example/interval/interval/service/SlotOrder" "size" "I" (.int (oI 0))) :
    MetFree l (⟨"com/example/interval/interval/service/SlotOrder", "first", "()I"⟩ : MethodName) (head1 (Jvm.Cond.code (⟨"com/example/interval/interval/service/SlotOrder", "first", "()I"⟩ : MethodName) prog_26_method_3_code 1 (some .int) :: ws) ({ frames := 0, cells := 0, slots := 0, locals := 0 } : Room)) (fun a U => a = #[(.ref r0)] ∧ Z.Warmed39 U.vm ∧ U.heap = h0) (fun _ _ _ _ _ => True) (fun _ U o U' => ∃ v L, o = .returned v ∧ QrmF0 Z r0 h0 n0 v U'.heap L ∧ FrameEnd U o U' L ({ frames := 0, cells := 0, slots := 0, locals := 0 } : Room).cells ({ frames := 0, cells := 0, slots := 0, locals := 0 } : Room).slots) := by
  refine MetFree.of_bodySF (plainFor_of_name pn_8) hisR ?_
  intro p e s m args below meth c s₁ Bd hml0 hP hK
  obtain ⟨rfl, hZ, hh⟩ := hP
  have hx := Bd.exec
  have hby := Bd.bytes
  have hml : c.maxLocals = 1 := hml0
  have hown : s.vm.findClass "com/example/interval/interval/service/SlotOrder" = some m.cls := findClass_of_methodNamed Bd.named
  have hnm := (name_of_methodNamed Bd.named Bd.method).1
  have X0 : Stand p l e ({ frames := 0, cells := 0, slots := 0, locals := 0 } : Room) s m #[(.ref r0)] below meth c s₁ [] 0 0 := Stand.of_body Bd
  have e0 : s₁.heap = h0 := by rw [← hh, Bd.state]; rfl
  have N0 := Fr.nil n0
  have ZZ := Z0
  show Go p e below s (QrmF0 Z r0 h0 n0) 0 0 (s₁.setTop (entryFrame m #[(.ref r0)] 1))
  generalize hQQ : (QrmF0 Z r0 h0 n0) = QQ
  refine gs (fun t k => castTop (g' := (mkF m 0 #[rv r0] [])) (by first | (simp [entryFrame, mkF, argsToLocals, Value.category, maxLocals]; done) | rfl) k) ?_
  show Go p e below s QQ 0 0 (s₁.setTop (mkF m 0 #[rv r0] []))
  refine gs (fun t => XS.aloadN X0.here hx rfl (hb hby d8_0) rfl rfl) ?_
  obtain ⟨T148, X148, e148, st148⟩ := getF X0 hx hZ hown (host := "") (Or.inl (hw _ (List.mem_of_getElem? (i := 58) rfl))) Via.refl e0 F_size_r0 (g := (mkF m 1 #[rv r0] [(.ref r0)])) rfl rfl (hb hby d8_1)
  refine gs st148 ?_
  show Go p e below s QQ 0 0 (T148.setTop (mkF m 4 #[rv r0] [(.int (oI 0))]))
  refine gs (fun t => XS.ifNo X148.here hx rfl (hb hby d8_4) rfl ((if0 _ _).trans (teq (rfl : (oI 0) = (0 : Int32))).2)) ?_
  refine gs (fun t => XS.iconst X148.here hx rfl (hb hby d8_7)) ?_
  refine gs (fun t => XS.goto X148.here hx rfl (pc0 := 8) (pc' := 19) rfl (hb hby d8_8) (by decide) (by decide)) ?_
  exact goI X148 hx Bd.notSynchronized Bd.returns (hb hby d8_19) (by rw [← hQQ, e148]; exact ⟨rfl, N0, rfl⟩) (by decide) (by decide)
def QrmFN (Z : State) (r0 : Addr) (ra : Addr) (rn : Addr) (kn : Nat) (xs : Nat → Nat) (h0 : Heap) (n0 : Nat) (v : Option Value) (h : Heap) (L : List Loc) : Prop := v = some (.int (oI (xs 0))) ∧ Fr n0 L ∧ h = h0
set_option maxRecDepth 65536 in
set_option maxHeartbeats 40000000 in
theorem rmFN (l : Launch) (Z : State) (a0 : Array Value) (hw : ∀ d ∈ tables_1, d.before a0 Z = true) (ws : List Jvm.Cond) (r0 : Addr) (ra : Addr) (rn : Addr) (kn : Nat) (xs : Nat → Nat) (h0 : Heap) (n0 : Nat) (Z0 : n0 ≤ h0.size) (F_size_r0 : Fld Z h0 r0 "com/example/interval/interval/service/SlotOrder" "size" "I" (.int (oI kn))) (F_runs_r0 : Fld Z h0 r0 "com/example/interval/interval/service/SlotOrder" "runs" "[[I" (.ref ra)) (V_ra : Arf Z h0 ra (.array .int) 1 (fun _ => .ref rn)) (V_rn : Arf Z h0 rn .int 8 (fun i => .int (oI (xs i)))) (hk1 : 1 ≤ kn) (hkn : kn ≤ 3) :
    MetFree l (⟨"com/example/interval/interval/service/SlotOrder", "first", "()I"⟩ : MethodName) (head1 (Jvm.Cond.code (⟨"com/example/interval/interval/service/SlotOrder", "first", "()I"⟩ : MethodName) prog_26_method_3_code 1 (some .int) :: ws) ({ frames := 0, cells := 0, slots := 0, locals := 0 } : Room)) (fun a U => a = #[(.ref r0)] ∧ Z.Warmed39 U.vm ∧ U.heap = h0) (fun _ _ _ _ _ => True) (fun _ U o U' => ∃ v L, o = .returned v ∧ QrmFN Z r0 ra rn kn xs h0 n0 v U'.heap L ∧ FrameEnd U o U' L ({ frames := 0, cells := 0, slots := 0, locals := 0 } : Room).cells ({ frames := 0, cells := 0, slots := 0, locals := 0 } : Room).slots) := by
  refine MetFree.of_bodySF (plainFor_of_name pn_8) hisR ?_
  intro p e s m args below meth c s₁ Bd hml0 hP hK
  obtain ⟨rfl, hZ, hh⟩ := hP
  have hx := Bd.exec
  have hby := Bd.bytes
  have hml : c.maxLocals = 1 := hml0
  have hown : s.vm.findClass "com/example/interval/interval/service/SlotOrder" = some m.cls := findClass_of_methodNamed Bd.named
  have hnm := (name_of_methodNamed Bd.named Bd.method).1
  have X0 : Stand p l e ({ frames := 0, cells := 0, slots := 0, locals := 0 } : Room) s m #[(.ref r0)] below meth c s₁ [] 0 0 := Stand.of_body Bd
  have e0 : s₁.heap = h0 := by rw [← hh, Bd.state]; rfl
  have N0 := Fr.nil n0
  have ZZ := Z0
  show Go p e below s (QrmFN Z r0 ra rn kn xs h0 n0) 0 0 (s₁.setTop (entryFrame m #[(.ref r0)] 1))
  generalize hQQ : (QrmFN Z r0 ra rn kn xs h0 n0) = QQ
  refine gs (fun t k => castTop (g' := (mkF m 0 #[rv r0] [])) (by first | (simp [entryFrame, mkF, argsToLocals, Value.category, maxLocals]; done) | rfl) k) ?_
  show Go p e below s QQ 0 0 (s₁.setTop (mkF m 0 #[rv r0] []))
  refine gs (fun t => XS.aloadN X0.here hx rfl (hb hby d8_0) rfl rfl) ?_
  obtain ⟨T149, X149, e149, st149⟩ := getF X0 hx hZ hown (host := "") (Or.inl (hw _ (List.mem_of_getElem? (i := 58) rfl))) Via.refl e0 F_size_r0 (g := (mkF m 1 #[rv r0] [(.ref r0)])) rfl rfl (hb hby d8_1)
  refine gs st149 ?_
  show Go p e below s QQ 0 0 (T149.setTop (mkF m 4 #[rv r0] [(.int (oI kn))]))
  refine gs (fun t => XS.ifYes X149.here hx rfl (pc0 := 4) (pc' := 11) rfl (hb hby d8_4) rfl ((if0 _ _).trans (feq (fun q => by have q2 := congrArg Int32.toInt q; rw [oI_t (by omega)] at q2; have q3 : (0 : Int32).toInt = 0 := rfl; omega : ¬ ((oI kn) = (0 : Int32)))).2) (by decide) (by decide)) ?_
  refine gs (fun t => XS.aloadN X149.here hx rfl (hb hby d8_11) rfl rfl) ?_
  obtain ⟨T150, X150, e150, st150⟩ := getF X149 hx hZ hown (host := "") (Or.inl (hw _ (List.mem_of_getElem? (i := 40) rfl))) Via.refl e149 F_runs_r0 (g := (mkF m 12 #[rv r0] [(.ref r0)])) rfl rfl (hb hby d8_12)
  refine gs st150 ?_
  show Go p e below s QQ 0 0 (T150.setTop (mkF m 15 #[rv r0] [(.ref ra)]))
  refine gs (fun t => XS.iconst X150.here hx rfl (hb hby d8_15)) ?_
  refine gs (fun t => ldRf X150 hx hZ e150 V_ra rfl (j := (0 : Int32)) (v := (.ref rn)) (by decide) rfl (g := (mkF m 16 #[rv r0] [(.int (0 : Int32)), (.ref ra)])) rfl rfl (hb hby d8_16) t) ?_
  refine gs (fun t => XS.iconst X150.here hx rfl (hb hby d8_17)) ?_
  refine gs (fun t => ldIf X150 hx hZ e150 V_rn (j := (0 : Int32)) (v := (.int (oI (xs 0)))) (by decide) rfl (g := (mkF m 18 #[rv r0] [(.int (0 : Int32)), (.ref rn)])) rfl rfl (hb hby d8_18) t) ?_
  exact goI X150 hx Bd.notSynchronized Bd.returns (hb hby d8_19) (by rw [← hQQ, e150]; exact ⟨rfl, N0, rfl⟩) (by decide) (by decide)
theorem d7_0 : decode method_3_code 0 = .ok (.aload_n 2, 1) := by decide +kernel
theorem d7_1 : decode method_3_code 1 = .ok (.iload 4, 2) := by decide +kernel
theorem d7_3 : decode method_3_code 3 = .ok (.baload, 1) := by decide +kernel
theorem d7_4 : decode method_3_code 4 = .ok (.ifCond .ne 5, 3) := by decide +kernel
theorem d7_7 : decode method_3_code 7 = .ok (.iload_n 3, 1) := by decide +kernel
theorem d7_8 : decode method_3_code 8 = .ok (.ireturn, 1) := by decide +kernel
theorem d7_9 : decode method_3_code 9 = .ok (.iload_n 3, 1) := by decide +kernel
theorem d7_10 : decode method_3_code 10 = .ok (.ifCond .ge 6, 3) := by decide +kernel
theorem d7_13 : decode method_3_code 13 = .ok (.iload 4, 2) := by decide +kernel
theorem d7_15 : decode method_3_code 15 = .ok (.ireturn, 1) := by decide +kernel
theorem d7_16 : decode method_3_code 16 = .ok (.aload_n 0, 1) := by decide +kernel
theorem d7_17 : decode method_3_code 17 = .ok (.iload 4, 2) := by decide +kernel
theorem d7_19 : decode method_3_code 19 = .ok (.laload, 1) := by decide +kernel
theorem d7_20 : decode method_3_code 20 = .ok (.aload_n 0, 1) := by decide +kernel
theorem d7_21 : decode method_3_code 21 = .ok (.iload_n 3, 1) := by decide +kernel
theorem d7_22 : decode method_3_code 22 = .ok (.laload, 1) := by decide +kernel
theorem d7_23 : decode method_3_code 23 = .ok (.lcmp, 1) := by decide +kernel
theorem d7_24 : decode method_3_code 24 = .ok (.ifCond .lt 25, 3) := by decide +kernel
theorem d7_27 : decode method_3_code 27 = .ok (.aload_n 0, 1) := by decide +kernel
theorem d7_28 : decode method_3_code 28 = .ok (.iload 4, 2) := by decide +kernel
theorem d7_30 : decode method_3_code 30 = .ok (.laload, 1) := by decide +kernel
theorem d7_31 : decode method_3_code 31 = .ok (.aload_n 0, 1) := by decide +kernel
theorem d7_32 : decode method_3_code 32 = .ok (.iload_n 3, 1) := by decide +kernel
theorem d7_33 : decode method_3_code 33 = .ok (.laload, 1) := by decide +kernel
theorem d7_34 : decode method_3_code 34 = .ok (.lcmp, 1) := by decide +kernel
theorem d7_35 : decode method_3_code 35 = .ok (.ifCond .ne 18, 3) := by decide +kernel
theorem d7_38 : decode method_3_code 38 = .ok (.aload_n 1, 1) := by decide +kernel
theorem d7_39 : decode method_3_code 39 = .ok (.iload 4, 2) := by decide +kernel
theorem d7_41 : decode method_3_code 41 = .ok (.laload, 1) := by decide +kernel
theorem d7_42 : decode method_3_code 42 = .ok (.aload_n 1, 1) := by decide +kernel
theorem d7_43 : decode method_3_code 43 = .ok (.iload_n 3, 1) := by decide +kernel
theorem d7_44 : decode method_3_code 44 = .ok (.laload, 1) := by decide +kernel
theorem d7_45 : decode method_3_code 45 = .ok (.lcmp, 1) := by decide +kernel
theorem d7_46 : decode method_3_code 46 = .ok (.ifCond .ge 7, 3) := by decide +kernel
theorem d7_49 : decode method_3_code 49 = .ok (.iconst 1, 1) := by decide +kernel
theorem d7_50 : decode method_3_code 50 = .ok (.goto 4, 3) := by decide +kernel
theorem d7_53 : decode method_3_code 53 = .ok (.iconst 0, 1) := by decide +kernel
theorem d7_54 : decode method_3_code 54 = .ok (.istore 5, 2) := by decide +kernel
theorem d7_56 : decode method_3_code 56 = .ok (.iload 5, 2) := by decide +kernel
theorem d7_58 : decode method_3_code 58 = .ok (.ifCond .eq 8, 3) := by decide +kernel
theorem d7_61 : decode method_3_code 61 = .ok (.iload 4, 2) := by decide +kernel
theorem d7_63 : decode method_3_code 63 = .ok (.goto 4, 3) := by decide +kernel
theorem d7_66 : decode method_3_code 66 = .ok (.iload_n 3, 1) := by decide +kernel
theorem d7_67 : decode method_3_code 67 = .ok (.ireturn, 1) := by decide +kernel
theorem pn_7 : plainName "com/example/interval/interval/service/SlotOrderFirstPinLaw" = true := by first | (simp [plainName, overriddenIn]; done) | decide +kernel
def QrmPN0 (Z : State) (r0 : Addr) (r1 : Addr) (r2 : Addr) (ix : Nat) (bv : Nat → Int32) (h0 : Heap) (n0 : Nat) (v : Option Value) (h : Heap) (L : List Loc) : Prop := v = some (.int (-1)) ∧ Fr n0 L ∧ h = h0
set_option maxRecDepth 65536 in
set_option maxHeartbeats 40000000 in
theorem rmPN0 (l : Launch) (Z : State) (a0 : Array Value) (hw : ∀ d ∈ tables_1, d.before a0 Z = true) (ws : List Jvm.Cond) (r0 : Addr) (r1 : Addr) (r2 : Addr) (ix : Nat) (bv : Nat → Int32) (h0 : Heap) (n0 : Nat) (Z0 : n0 ≤ h0.size) (V_r2 : Arf Z h0 r2 .boolean 3 (fun i => .int (bv i))) (hix : ix < 3) (hz : bv ix = (0 : Int32)) :
    MetFree l (⟨"com/example/interval/interval/service/SlotOrderFirstPinLaw", "pick", "([J[J[ZII)I"⟩ : MethodName) (head1 (Jvm.Cond.code (⟨"com/example/interval/interval/service/SlotOrderFirstPinLaw", "pick", "([J[J[ZII)I"⟩ : MethodName) method_3_code 6 (some .int) :: ws) ({ frames := 0, cells := 0, slots := 0, locals := 0 } : Room)) (fun a U => a = #[(.ref r0), (.ref r1), (.ref r2), (.int (-1 : Int32)), (.int (oI ix))] ∧ Z.Warmed39 U.vm ∧ U.heap = h0) (fun _ _ _ _ _ => True) (fun _ U o U' => ∃ v L, o = .returned v ∧ QrmPN0 Z r0 r1 r2 ix bv h0 n0 v U'.heap L ∧ FrameEnd U o U' L ({ frames := 0, cells := 0, slots := 0, locals := 0 } : Room).cells ({ frames := 0, cells := 0, slots := 0, locals := 0 } : Room).slots) := by
  refine MetFree.of_bodySF (plainFor_of_name pn_7) hisR ?_
  intro p e s m args below meth c s₁ Bd hml0 hP hK
  obtain ⟨rfl, hZ, hh⟩ := hP
  have hx := Bd.exec
  have hby := Bd.bytes
  have hml : c.maxLocals = 6 := hml0
  have hown : s.vm.findClass "com/example/interval/interval/service/SlotOrderFirstPinLaw" = some m.cls := findClass_of_methodNamed Bd.named
  have hnm := (name_of_methodNamed Bd.named Bd.method).1
  have X0 : Stand p l e ({ frames := 0, cells := 0, slots := 0, locals := 0 } : Room) s m #[(.ref r0), (.ref r1), (.ref r2), (.int (-1 : Int32)), (.int (oI ix))] below meth c s₁ [] 0 0 := Stand.of_body Bd
  have e0 : s₁.heap = h0 := by rw [← hh, Bd.state]; rfl
  have N0 := Fr.nil n0
  have ZZ := Z0
  show Go p e below s (QrmPN0 Z r0 r1 r2 ix bv h0 n0) 0 0 (s₁.setTop (entryFrame m #[(.ref r0), (.ref r1), (.ref r2), (.int (-1 : Int32)), (.int (oI ix))] 6))
  generalize hQQ : (QrmPN0 Z r0 r1 r2 ix bv h0 n0) = QQ
  refine gs (fun t k => castTop (g' := (mkF m 0 #[rv r0, rv r1, rv r2, iv (-1), iv (oI ix), .unset] [])) (by first | (simp [entryFrame, mkF, argsToLocals, Value.category, maxLocals]; done) | rfl) k) ?_
  show Go p e below s QQ 0 0 (s₁.setTop (mkF m 0 #[rv r0, rv r1, rv r2, iv (-1), iv (oI ix), .unset] []))
  refine gs (fun t => XS.aloadN X0.here hx rfl (hb hby d7_0) rfl rfl) ?_
  refine gs (fun t => XS.iload X0.here hx rfl (hb hby d7_1) rfl) ?_
  refine gs (fun t => ldZf X0 hx hZ e0 V_r2 (j := (oI ix)) (v := (.int (bv ix))) (own_oin hix (by decide)) (by rw [oI_c (by omega)]) (g := (mkF m 3 #[rv r0, rv r1, rv r2, iv (-1), iv (oI ix), .unset] [(.int (oI ix)), (.ref r2)])) rfl rfl (hb hby d7_3) t) ?_
  refine gs (fun t => XS.ifNo X0.here hx rfl (hb hby d7_4) rfl ((if0 _ _).trans (teq (hz : (bv ix) = (0 : Int32))).2)) ?_
  refine gs (fun t => XS.iloadN X0.here hx rfl (hb hby d7_7) rfl) ?_
  exact goI X0 hx Bd.notSynchronized Bd.returns (hb hby d7_8) (by rw [← hQQ, e0]; exact ⟨rfl, N0, rfl⟩) (by decide) (by decide)
def QrmPN1 (Z : State) (r0 : Addr) (r1 : Addr) (r2 : Addr) (ix : Nat) (bv : Nat → Int32) (h0 : Heap) (n0 : Nat) (v : Option Value) (h : Heap) (L : List Loc) : Prop := v = some (.int (oI ix)) ∧ Fr n0 L ∧ h = h0
set_option maxRecDepth 65536 in
set_option maxHeartbeats 40000000 in
theorem rmPN1 (l : Launch) (Z : State) (a0 : Array Value) (hw : ∀ d ∈ tables_1, d.before a0 Z = true) (ws : List Jvm.Cond) (r0 : Addr) (r1 : Addr) (r2 : Addr) (ix : Nat) (bv : Nat → Int32) (h0 : Heap) (n0 : Nat) (Z0 : n0 ≤ h0.size) (V_r2 : Arf Z h0 r2 .boolean 3 (fun i => .int (bv i))) (hix : ix < 3) (hz : ¬ bv ix = (0 : Int32)) :
    MetFree l (⟨"com/example/interval/interval/service/SlotOrderFirstPinLaw", "pick", "([J[J[ZII)I"⟩ : MethodName) (head1 (Jvm.Cond.code (⟨"com/example/interval/interval/service/SlotOrderFirstPinLaw", "pick", "([J[J[ZII)I"⟩ : MethodName) method_3_code 6 (some .int) :: ws) ({ frames := 0, cells := 0, slots := 0, locals := 0 } : Room)) (fun a U => a = #[(.ref r0), (.ref r1), (.ref r2), (.int (-1 : Int32)), (.int (oI ix))] ∧ Z.Warmed39 U.vm ∧ U.heap = h0) (fun _ _ _ _ _ => True) (fun _ U o U' => ∃ v L, o = .returned v ∧ QrmPN1 Z r0 r1 r2 ix bv h0 n0 v U'.heap L ∧ FrameEnd U o U' L ({ frames := 0, cells := 0, slots := 0, locals := 0 } : Room).cells ({ frames := 0, cells := 0, slots := 0, locals := 0 } : Room).slots) := by
  refine MetFree.of_bodySF (plainFor_of_name pn_7) hisR ?_
  intro p e s m args below meth c s₁ Bd hml0 hP hK
  obtain ⟨rfl, hZ, hh⟩ := hP
  have hx := Bd.exec
  have hby := Bd.bytes
  have hml : c.maxLocals = 6 := hml0
  have hown : s.vm.findClass "com/example/interval/interval/service/SlotOrderFirstPinLaw" = some m.cls := findClass_of_methodNamed Bd.named
  have hnm := (name_of_methodNamed Bd.named Bd.method).1
  have X0 : Stand p l e ({ frames := 0, cells := 0, slots := 0, locals := 0 } : Room) s m #[(.ref r0), (.ref r1), (.ref r2), (.int (-1 : Int32)), (.int (oI ix))] below meth c s₁ [] 0 0 := Stand.of_body Bd
  have e0 : s₁.heap = h0 := by rw [← hh, Bd.state]; rfl
  have N0 := Fr.nil n0
  have ZZ := Z0
  show Go p e below s (QrmPN1 Z r0 r1 r2 ix bv h0 n0) 0 0 (s₁.setTop (entryFrame m #[(.ref r0), (.ref r1), (.ref r2), (.int (-1 : Int32)), (.int (oI ix))] 6))
  generalize hQQ : (QrmPN1 Z r0 r1 r2 ix bv h0 n0) = QQ
  refine gs (fun t k => castTop (g' := (mkF m 0 #[rv r0, rv r1, rv r2, iv (-1), iv (oI ix), .unset] [])) (by first | (simp [entryFrame, mkF, argsToLocals, Value.category, maxLocals]; done) | rfl) k) ?_
  show Go p e below s QQ 0 0 (s₁.setTop (mkF m 0 #[rv r0, rv r1, rv r2, iv (-1), iv (oI ix), .unset] []))
  refine gs (fun t => XS.aloadN X0.here hx rfl (hb hby d7_0) rfl rfl) ?_
  refine gs (fun t => XS.iload X0.here hx rfl (hb hby d7_1) rfl) ?_
  refine gs (fun t => ldZf X0 hx hZ e0 V_r2 (j := (oI ix)) (v := (.int (bv ix))) (own_oin hix (by decide)) (by rw [oI_c (by omega)]) (g := (mkF m 3 #[rv r0, rv r1, rv r2, iv (-1), iv (oI ix), .unset] [(.int (oI ix)), (.ref r2)])) rfl rfl (hb hby d7_3) t) ?_
  refine gs (fun t => XS.ifYes X0.here hx rfl (pc0 := 4) (pc' := 9) rfl (hb hby d7_4) rfl ((if0 _ _).trans (feq (hz : ¬ ((bv ix) = (0 : Int32)))).2) (by decide) (by decide)) ?_
  refine gs (fun t => XS.iloadN X0.here hx rfl (hb hby d7_9) rfl) ?_
  refine gs (fun t => XS.ifNo X0.here hx rfl (hb hby d7_10) rfl ((if0 _ _).trans (tlt (by decide : (-1 : Int32) < (0 : Int32))).2.1)) ?_
  show Go p e below s QQ 0 0 (s₁.setTop (mkF m 13 #[rv r0, rv r1, rv r2, iv (-1), iv (oI ix), .unset] []))
  refine gs (fun t => XS.iload X0.here hx rfl (hb hby d7_13) rfl) ?_
  exact goI X0 hx Bd.notSynchronized Bd.returns (hb hby d7_15) (by rw [← hQQ, e0]; exact ⟨rfl, N0, rfl⟩) (by decide) (by decide)
def QrmPS0 (Z : State) (r0 : Addr) (r1 : Addr) (r2 : Addr) (ix : Nat) (bv : Nat → Int32) (q : Nat) (h0 : Heap) (n0 : Nat) (v : Option Value) (h : Heap) (L : List Loc) : Prop := v = some (.int (oI q)) ∧ Fr n0 L ∧ h = h0
set_option maxRecDepth 65536 in
set_option maxHeartbeats 40000000 in
theorem rmPS0 (l : Launch) (Z : State) (a0 : Array Value) (hw : ∀ d ∈ tables_1, d.before a0 Z = true) (ws : List Jvm.Cond) (r0 : Addr) (r1 : Addr) (r2 : Addr) (ix : Nat) (bv : Nat → Int32) (q : Nat) (h0 : Heap) (n0 : Nat) (Z0 : n0 ≤ h0.size) (V_r2 : Arf Z h0 r2 .boolean 3 (fun i => .int (bv i))) (hix : ix < 3) (hz : bv ix = (0 : Int32)) :
    MetFree l (⟨"com/example/interval/interval/service/SlotOrderFirstPinLaw", "pick", "([J[J[ZII)I"⟩ : MethodName) (head1 (Jvm.Cond.code (⟨"com/example/interval/interval/service/SlotOrderFirstPinLaw", "pick", "([J[J[ZII)I"⟩ : MethodName) method_3_code 6 (some .int) :: ws) ({ frames := 0, cells := 0, slots := 0, locals := 0 } : Room)) (fun a U => a = #[(.ref r0), (.ref r1), (.ref r2), (.int (oI q)), (.int (oI ix))] ∧ Z.Warmed39 U.vm ∧ U.heap = h0) (fun _ _ _ _ _ => True) (fun _ U o U' => ∃ v L, o = .returned v ∧ QrmPS0 Z r0 r1 r2 ix bv q h0 n0 v U'.heap L ∧ FrameEnd U o U' L ({ frames := 0, cells := 0, slots := 0, locals := 0 } : Room).cells ({ frames := 0, cells := 0, slots := 0, locals := 0 } : Room).slots) := by
  refine MetFree.of_bodySF (plainFor_of_name pn_7) hisR ?_
  intro p e s m args below meth c s₁ Bd hml0 hP hK
  obtain ⟨rfl, hZ, hh⟩ := hP
  have hx := Bd.exec
  have hby := Bd.bytes
  have hml : c.maxLocals = 6 := hml0
  have hown : s.vm.findClass "com/example/interval/interval/service/SlotOrderFirstPinLaw" = some m.cls := findClass_of_methodNamed Bd.named
  have hnm := (name_of_methodNamed Bd.named Bd.method).1
  have X0 : Stand p l e ({ frames := 0, cells := 0, slots := 0, locals := 0 } : Room) s m #[(.ref r0), (.ref r1), (.ref r2), (.int (oI q)), (.int (oI ix))] below meth c s₁ [] 0 0 := Stand.of_body Bd
  have e0 : s₁.heap = h0 := by rw [← hh, Bd.state]; rfl
  have N0 := Fr.nil n0
  have ZZ := Z0
  show Go p e below s (QrmPS0 Z r0 r1 r2 ix bv q h0 n0) 0 0 (s₁.setTop (entryFrame m #[(.ref r0), (.ref r1), (.ref r2), (.int (oI q)), (.int (oI ix))] 6))
  generalize hQQ : (QrmPS0 Z r0 r1 r2 ix bv q h0 n0) = QQ
  refine gs (fun t k => castTop (g' := (mkF m 0 #[rv r0, rv r1, rv r2, iv (oI q), iv (oI ix), .unset] [])) (by first | (simp [entryFrame, mkF, argsToLocals, Value.category, maxLocals]; done) | rfl) k) ?_
  show Go p e below s QQ 0 0 (s₁.setTop (mkF m 0 #[rv r0, rv r1, rv r2, iv (oI q), iv (oI ix), .unset] []))
  refine gs (fun t => XS.aloadN X0.here hx rfl (hb hby d7_0) rfl rfl) ?_
  refine gs (fun t => XS.iload X0.here hx rfl (hb hby d7_1) rfl) ?_
  refine gs (fun t => ldZf X0 hx hZ e0 V_r2 (j := (oI ix)) (v := (.int (bv ix))) (own_oin hix (by decide)) (by rw [oI_c (by omega)]) (g := (mkF m 3 #[rv r0, rv r1, rv r2, iv (oI q), iv (oI ix), .unset] [(.int (oI ix)), (.ref r2)])) rfl rfl (hb hby d7_3) t) ?_
  refine gs (fun t => XS.ifNo X0.here hx rfl (hb hby d7_4) rfl ((if0 _ _).trans (teq (hz : (bv ix) = (0 : Int32))).2)) ?_
  refine gs (fun t => XS.iloadN X0.here hx rfl (hb hby d7_7) rfl) ?_
  exact goI X0 hx Bd.notSynchronized Bd.returns (hb hby d7_8) (by rw [← hQQ, e0]; exact ⟨rfl, N0, rfl⟩) (by decide) (by decide)
def QrmPS1 (Z : State) (r0 : Addr) (r1 : Addr) (r2 : Addr) (ix : Nat) (bv : Nat → Int32) (q : Nat) (Vv : Nat → Int64) (Ss : Nat → Int64) (h0 : Heap) (n0 : Nat) (v : Option Value) (h : Heap) (L : List Loc) : Prop := ∃ q' : Nat, v = some (.int (oI q')) ∧ Fr n0 L ∧ h = h0 ∧ ((own_L Vv Ss ix q ∧ q' = ix) ∨ (¬ own_L Vv Ss ix q ∧ q' = q))
set_option maxRecDepth 65536 in
set_option maxHeartbeats 40000000 in
theorem rmPS1 (l : Launch) (Z : State) (a0 : Array Value) (hw : ∀ d ∈ tables_1, d.before a0 Z = true) (ws : List Jvm.Cond) (r0 : Addr) (r1 : Addr) (r2 : Addr) (ix : Nat) (bv : Nat → Int32) (q : Nat) (Vv : Nat → Int64) (Ss : Nat → Int64) (h0 : Heap) (n0 : Nat) (Z0 : n0 ≤ h0.size) (V_r0 : Arf Z h0 r0 .long 3 (fun i => .long (Vv i))) (V_r1 : Arf Z h0 r1 .long 3 (fun i => .long (Ss i))) (V_r2 : Arf Z h0 r2 .boolean 3 (fun i => .int (bv i))) (hix : ix < 3) (hq3 : q < 3) (hz : ¬ bv ix = (0 : Int32)) :
    MetFree l (⟨"com/example/interval/interval/service/SlotOrderFirstPinLaw", "pick", "([J[J[ZII)I"⟩ : MethodName) (head1 (Jvm.Cond.code (⟨"com/example/interval/interval/service/SlotOrderFirstPinLaw", "pick", "([J[J[ZII)I"⟩ : MethodName) method_3_code 6 (some .int) :: ws) ({ frames := 0, cells := 0, slots := 0, locals := 0 } : Room)) (fun a U => a = #[(.ref r0), (.ref r1), (.ref r2), (.int (oI q)), (.int (oI ix))] ∧ Z.Warmed39 U.vm ∧ U.heap = h0) (fun _ _ _ _ _ => True) (fun _ U o U' => ∃ v L, o = .returned v ∧ QrmPS1 Z r0 r1 r2 ix bv q Vv Ss h0 n0 v U'.heap L ∧ FrameEnd U o U' L ({ frames := 0, cells := 0, slots := 0, locals := 0 } : Room).cells ({ frames := 0, cells := 0, slots := 0, locals := 0 } : Room).slots) := by
  refine MetFree.of_bodySF (plainFor_of_name pn_7) hisR ?_
  intro p e s m args below meth c s₁ Bd hml0 hP hK
  obtain ⟨rfl, hZ, hh⟩ := hP
  have hx := Bd.exec
  have hby := Bd.bytes
  have hml : c.maxLocals = 6 := hml0
  have hown : s.vm.findClass "com/example/interval/interval/service/SlotOrderFirstPinLaw" = some m.cls := findClass_of_methodNamed Bd.named
  have hnm := (name_of_methodNamed Bd.named Bd.method).1
  have X0 : Stand p l e ({ frames := 0, cells := 0, slots := 0, locals := 0 } : Room) s m #[(.ref r0), (.ref r1), (.ref r2), (.int (oI q)), (.int (oI ix))] below meth c s₁ [] 0 0 := Stand.of_body Bd
  have e0 : s₁.heap = h0 := by rw [← hh, Bd.state]; rfl
  have N0 := Fr.nil n0
  have ZZ := Z0
  show Go p e below s (QrmPS1 Z r0 r1 r2 ix bv q Vv Ss h0 n0) 0 0 (s₁.setTop (entryFrame m #[(.ref r0), (.ref r1), (.ref r2), (.int (oI q)), (.int (oI ix))] 6))
  generalize hQQ : (QrmPS1 Z r0 r1 r2 ix bv q Vv Ss h0 n0) = QQ
  refine gs (fun t k => castTop (g' := (mkF m 0 #[rv r0, rv r1, rv r2, iv (oI q), iv (oI ix), .unset] [])) (by first | (simp [entryFrame, mkF, argsToLocals, Value.category, maxLocals]; done) | rfl) k) ?_
  show Go p e below s QQ 0 0 (s₁.setTop (mkF m 0 #[rv r0, rv r1, rv r2, iv (oI q), iv (oI ix), .unset] []))
  refine gs (fun t => XS.aloadN X0.here hx rfl (hb hby d7_0) rfl rfl) ?_
  refine gs (fun t => XS.iload X0.here hx rfl (hb hby d7_1) rfl) ?_
  refine gs (fun t => ldZf X0 hx hZ e0 V_r2 (j := (oI ix)) (v := (.int (bv ix))) (own_oin hix (by decide)) (by rw [oI_c (by omega)]) (g := (mkF m 3 #[rv r0, rv r1, rv r2, iv (oI q), iv (oI ix), .unset] [(.int (oI ix)), (.ref r2)])) rfl rfl (hb hby d7_3) t) ?_
  refine gs (fun t => XS.ifYes X0.here hx rfl (pc0 := 4) (pc' := 9) rfl (hb hby d7_4) rfl ((if0 _ _).trans (feq (hz : ¬ ((bv ix) = (0 : Int32)))).2) (by decide) (by decide)) ?_
  refine gs (fun t => XS.iloadN X0.here hx rfl (hb hby d7_9) rfl) ?_
  refine gs (fun t => XS.ifYes X0.here hx rfl (pc0 := 10) (pc' := 16) rfl (hb hby d7_10) rfl ((if0 _ _).trans (flt (oI_nn (by omega) : ¬ ((oI q) < (0 : Int32)))).2.1) (by decide) (by decide)) ?_
  show Go p e below s QQ 0 0 (s₁.setTop (mkF m 16 #[rv r0, rv r1, rv r2, iv (oI q), iv (oI ix), .unset] []))
  refine gs (fun t => XS.aloadN X0.here hx rfl (hb hby d7_16) rfl rfl) ?_
  refine gs (fun t => XS.iload X0.here hx rfl (hb hby d7_17) rfl) ?_
  refine gs (fun t => ldJf X0 hx hZ e0 V_r0 (j := (oI ix)) (v := (.long (Vv ix))) (own_oin (by omega) (by decide)) (by rw [oI_c (by omega)]) (g := (mkF m 19 #[rv r0, rv r1, rv r2, iv (oI q), iv (oI ix), .unset] [(.int (oI ix)), (.ref r0)])) rfl rfl (hb hby d7_19) t) ?_
  refine gs (fun t => XS.aloadN X0.here hx rfl (hb hby d7_20) rfl rfl) ?_
  refine gs (fun t => XS.iloadN X0.here hx rfl (hb hby d7_21) rfl) ?_
  refine gs (fun t => ldJf X0 hx hZ e0 V_r0 (j := (oI q)) (v := (.long (Vv q))) (own_oin (by omega) (by decide)) (by rw [oI_c (by omega)]) (g := (mkF m 22 #[rv r0, rv r1, rv r2, iv (oI q), iv (oI ix), .unset] [(.int (oI q)), (.ref r0), (.long (Vv ix))])) rfl rfl (hb hby d7_22) t) ?_
  show Go p e below s QQ 0 0 (s₁.setTop (mkF m 23 #[rv r0, rv r1, rv r2, iv (oI q), iv (oI ix), .unset] [(.long (Vv q)), (.long (Vv ix))]))
  refine gs (fun t => XS.lcmp X0.here hx rfl (hb hby d7_23) rfl) ?_
  by_cases h1 : (lcmpW (Vv ix) (Vv q)) < (0 : Int32)
  · skip
    refine gs (fun t => XS.ifYes X0.here hx rfl (pc0 := 24) (pc' := 49) rfl (hb hby d7_24) rfl ((if0 _ _).trans (tlt h1).1) (by decide) (by decide)) ?_
    refine gs (fun t => XS.iconst X0.here hx rfl (hb hby d7_49)) ?_
    refine gs (fun t => XS.goto X0.here hx rfl (pc0 := 50) (pc' := 54) rfl (hb hby d7_50) (by decide) (by decide)) ?_
    refine gs (fun t => XS.istore X0.here hx rfl (hb hby d7_54) rfl (l' := #[rv r0, rv r1, rv r2, iv (oI q), iv (oI ix), iv 1]) rfl) ?_
    refine gs (fun t => XS.iload X0.here hx rfl (hb hby d7_56) rfl) ?_
    show Go p e below s QQ 0 0 (s₁.setTop (mkF m 58 #[rv r0, rv r1, rv r2, iv (oI q), iv (oI ix), iv 1] [(.int (1 : Int32))]))
    refine gs (fun t => XS.ifNo X0.here hx rfl (hb hby d7_58) rfl ((if0 _ _).trans (feq (by decide : ¬ ((1 : Int32) = (0 : Int32)))).1)) ?_
    refine gs (fun t => XS.iload X0.here hx rfl (hb hby d7_61) rfl) ?_
    refine gs (fun t => XS.goto X0.here hx rfl (pc0 := 63) (pc' := 67) rfl (hb hby d7_63) (by decide) (by decide)) ?_
    exact goI X0 hx Bd.notSynchronized Bd.returns (hb hby d7_67) (by rw [← hQQ, e0]; exact ⟨ix, rfl, N0, rfl, Or.inl ⟨Or.inl ((lw_lt _ _).mp h1), rfl⟩⟩) (by decide) (by decide)
  · skip
    refine gs (fun t => XS.ifNo X0.here hx rfl (hb hby d7_24) rfl ((if0 _ _).trans (flt h1).1)) ?_
    refine gs (fun t => XS.aloadN X0.here hx rfl (hb hby d7_27) rfl rfl) ?_
    refine gs (fun t => XS.iload X0.here hx rfl (hb hby d7_28) rfl) ?_
    refine gs (fun t => ldJf X0 hx hZ e0 V_r0 (j := (oI ix)) (v := (.long (Vv ix))) (own_oin (by omega) (by decide)) (by rw [oI_c (by omega)]) (g := (mkF m 30 #[rv r0, rv r1, rv r2, iv (oI q), iv (oI ix), .unset] [(.int (oI ix)), (.ref r0)])) rfl rfl (hb hby d7_30) t) ?_
    refine gs (fun t => XS.aloadN X0.here hx rfl (hb hby d7_31) rfl rfl) ?_
    show Go p e below s QQ 0 0 (s₁.setTop (mkF m 32 #[rv r0, rv r1, rv r2, iv (oI q), iv (oI ix), .unset] [(.ref r0), (.long (Vv ix))]))
    refine gs (fun t => XS.iloadN X0.here hx rfl (hb hby d7_32) rfl) ?_
    refine gs (fun t => ldJf X0 hx hZ e0 V_r0 (j := (oI q)) (v := (.long (Vv q))) (own_oin (by omega) (by decide)) (by rw [oI_c (by omega)]) (g := (mkF m 33 #[rv r0, rv r1, rv r2, iv (oI q), iv (oI ix), .unset] [(.int (oI q)), (.ref r0), (.long (Vv ix))])) rfl rfl (hb hby d7_33) t) ?_
    refine gs (fun t => XS.lcmp X0.here hx rfl (hb hby d7_34) rfl) ?_
    by_cases h2 : (lcmpW (Vv ix) (Vv q)) = (0 : Int32)
    · skip
      refine gs (fun t => XS.ifNo X0.here hx rfl (hb hby d7_35) rfl ((if0 _ _).trans (teq h2).2)) ?_
      refine gs (fun t => XS.aloadN X0.here hx rfl (hb hby d7_38) rfl rfl) ?_
      refine gs (fun t => XS.iload X0.here hx rfl (hb hby d7_39) rfl) ?_
      show Go p e below s QQ 0 0 (s₁.setTop (mkF m 41 #[rv r0, rv r1, rv r2, iv (oI q), iv (oI ix), .unset] [(.int (oI ix)), (.ref r1)]))
      refine gs (fun t => ldJf X0 hx hZ e0 V_r1 (j := (oI ix)) (v := (.long (Ss ix))) (own_oin (by omega) (by decide)) (by rw [oI_c (by omega)]) (g := (mkF m 41 #[rv r0, rv r1, rv r2, iv (oI q), iv (oI ix), .unset] [(.int (oI ix)), (.ref r1)])) rfl rfl (hb hby d7_41) t) ?_
      refine gs (fun t => XS.aloadN X0.here hx rfl (hb hby d7_42) rfl rfl) ?_
      refine gs (fun t => XS.iloadN X0.here hx rfl (hb hby d7_43) rfl) ?_
      refine gs (fun t => ldJf X0 hx hZ e0 V_r1 (j := (oI q)) (v := (.long (Ss q))) (own_oin (by omega) (by decide)) (by rw [oI_c (by omega)]) (g := (mkF m 44 #[rv r0, rv r1, rv r2, iv (oI q), iv (oI ix), .unset] [(.int (oI q)), (.ref r1), (.long (Ss ix))])) rfl rfl (hb hby d7_44) t) ?_
      refine gs (fun t => XS.lcmp X0.here hx rfl (hb hby d7_45) rfl) ?_
      by_cases h3 : (lcmpW (Ss ix) (Ss q)) < (0 : Int32)
      · skip
        refine gs (fun t => XS.ifNo X0.here hx rfl (hb hby d7_46) rfl ((if0 _ _).trans (tlt h3).2.1)) ?_
        show Go p e below s QQ 0 0 (s₁.setTop (mkF m 49 #[rv r0, rv r1, rv r2, iv (oI q), iv (oI ix), .unset] []))
        refine gs (fun t => XS.iconst X0.here hx rfl (hb hby d7_49)) ?_
        refine gs (fun t => XS.goto X0.here hx rfl (pc0 := 50) (pc' := 54) rfl (hb hby d7_50) (by decide) (by decide)) ?_
        refine gs (fun t => XS.istore X0.here hx rfl (hb hby d7_54) rfl (l' := #[rv r0, rv r1, rv r2, iv (oI q), iv (oI ix), iv 1]) rfl) ?_
        refine gs (fun t => XS.iload X0.here hx rfl (hb hby d7_56) rfl) ?_
        refine gs (fun t => XS.ifNo X0.here hx rfl (hb hby d7_58) rfl ((if0 _ _).trans (feq (by decide : ¬ ((1 : Int32) = (0 : Int32)))).1)) ?_
        refine gs (fun t => XS.iload X0.here hx rfl (hb hby d7_61) rfl) ?_
        show Go p e below s QQ 0 0 (s₁.setTop (mkF m 63 #[rv r0, rv r1, rv r2, iv (oI q), iv (oI ix), iv 1] [(.int (oI ix))]))
        refine gs (fun t => XS.goto X0.here hx rfl (pc0 := 63) (pc' := 67) rfl (hb hby d7_63) (by decide) (by decide)) ?_
        exact goI X0 hx Bd.notSynchronized Bd.returns (hb hby d7_67) (by rw [← hQQ, e0]; exact ⟨ix, rfl, N0, rfl, Or.inl ⟨Or.inr ⟨(lw_eq _ _).mp h2, (lw_lt _ _).mp h3⟩, rfl⟩⟩) (by decide) (by decide)
      · skip
        refine gs (fun t => XS.ifYes X0.here hx rfl (pc0 := 46) (pc' := 53) rfl (hb hby d7_46) rfl ((if0 _ _).trans (flt h3).2.1) (by decide) (by decide)) ?_
        show Go p e below s QQ 0 0 (s₁.setTop (mkF m 53 #[rv r0, rv r1, rv r2, iv (oI q), iv (oI ix), .unset] []))
        refine gs (fun t => XS.iconst X0.here hx rfl (hb hby d7_53)) ?_
        refine gs (fun t => XS.istore X0.here hx rfl (hb hby d7_54) rfl (l' := #[rv r0, rv r1, rv r2, iv (oI q), iv (oI ix), iv 0]) rfl) ?_
        refine gs (fun t => XS.iload X0.here hx rfl (hb hby d7_56) rfl) ?_
        refine gs (fun t => XS.ifYes X0.here hx rfl (pc0 := 58) (pc' := 66) rfl (hb hby d7_58) rfl ((if0 _ _).trans (teq (by decide : (0 : Int32) = (0 : Int32))).1) (by decide) (by decide)) ?_
        refine gs (fun t => XS.iloadN X0.here hx rfl (hb hby d7_66) rfl) ?_
        exact goI X0 hx Bd.notSynchronized Bd.returns (hb hby d7_67) (by rw [← hQQ, e0]; exact ⟨q, rfl, N0, rfl, Or.inr ⟨own_no h1 (Or.inr h3), rfl⟩⟩) (by decide) (by decide)
    · skip
      refine gs (fun t => XS.ifYes X0.here hx rfl (pc0 := 35) (pc' := 53) rfl (hb hby d7_35) rfl ((if0 _ _).trans (feq h2).2) (by decide) (by decide)) ?_
      refine gs (fun t => XS.iconst X0.here hx rfl (hb hby d7_53)) ?_
      refine gs (fun t => XS.istore X0.here hx rfl (hb hby d7_54) rfl (l' := #[rv r0, rv r1, rv r2, iv (oI q), iv (oI ix), iv 0]) rfl) ?_
      show Go p e below s QQ 0 0 (s₁.setTop (mkF m 56 #[rv r0, rv r1, rv r2, iv (oI q), iv (oI ix), iv 0] []))
      refine gs (fun t => XS.iload X0.here hx rfl (hb hby d7_56) rfl) ?_
      refine gs (fun t => XS.ifYes X0.here hx rfl (pc0 := 58) (pc' := 66) rfl (hb hby d7_58) rfl ((if0 _ _).trans (teq (by decide : (0 : Int32) = (0 : Int32))).1) (by decide) (by decide)) ?_
      refine gs (fun t => XS.iloadN X0.here hx rfl (hb hby d7_66) rfl) ?_
      exact goI X0 hx Bd.notSynchronized Bd.returns (hb hby d7_67) (by rw [← hQQ, e0]; exact ⟨q, rfl, N0, rfl, Or.inr ⟨own_no h1 (Or.inl h2), rfl⟩⟩) (by decide) (by decide)
theorem d6_0 : decode prog_26_method_1_code 0 = .ok (.aload_n 0, 1) := by decide +kernel
theorem d6_1 : decode prog_26_method_1_code 1 = .ok (.invokespecial 3, 3) := by decide +kernel
theorem d6_4 : decode prog_26_method_1_code 4 = .ok (.aload_n 0, 1) := by decide +kernel
theorem d6_5 : decode prog_26_method_1_code 5 = .ok (.iconst 1, 1) := by decide +kernel
theorem d6_6 : decode prog_26_method_1_code 6 = .ok (.anewarray 9, 3) := by decide +kernel
theorem d6_9 : decode prog_26_method_1_code 9 = .ok (.putfield 11, 3) := by decide +kernel
theorem d6_12 : decode prog_26_method_1_code 12 = .ok (.aload_n 0, 1) := by decide +kernel
theorem d6_13 : decode prog_26_method_1_code 13 = .ok (.iconst 1, 1) := by decide +kernel
theorem d6_14 : decode prog_26_method_1_code 14 = .ok (.newarray .int, 2) := by decide +kernel
theorem d6_16 : decode prog_26_method_1_code 16 = .ok (.putfield 15, 3) := by decide +kernel
theorem d6_19 : decode prog_26_method_1_code 19 = .ok (.aload_n 0, 1) := by decide +kernel
theorem d6_20 : decode prog_26_method_1_code 20 = .ok (.aload_n 1, 1) := by decide +kernel
theorem d6_21 : decode prog_26_method_1_code 21 = .ok (.putfield 18, 3) := by decide +kernel
theorem d6_24 : decode prog_26_method_1_code 24 = .ok (.aload_n 0, 1) := by decide +kernel
theorem d6_25 : decode prog_26_method_1_code 25 = .ok (.iload_n 2, 1) := by decide +kernel
theorem d6_26 : decode prog_26_method_1_code 26 = .ok (.putfield 22, 3) := by decide +kernel
theorem d6_29 : decode prog_26_method_1_code 29 = .ok (.return_, 1) := by decide +kernel
theorem pn_6 : plainName "com/example/interval/interval/service/SlotOrder" = true := by first | (simp [plainName, overriddenIn]; done) | decide +kernel
def QrmIni (Z : State) (r0 : Addr) (r1 : Addr) (fl : Nat) (h0 : Heap) (n0 : Nat) (v : Option Value) (h : Heap) (L : List Loc) : Prop := ∃ ra sz : Addr, v = none ∧ Fr n0 L ∧ Keep h0 h [r0] ∧ Fld Z h r0 "com/example/interval/interval/service/SlotOrder" "runs" "[[I" (.ref ra) ∧ Fld Z h r0 "com/example/interval/interval/service/SlotOrder" "sizes" "[I" (.ref sz) ∧ Fld Z h r0 "com/example/interval/interval/service/SlotOrder" "table" "Lcom/example/interval/interval/service/SlotTable;" (.ref r1) ∧ Fld Z h r0 "com/example/interval/interval/service/SlotOrder" "field" "I" (.int (oI fl)) ∧ Fld Z h r0 "com/example/interval/interval/service/SlotOrder" "size" "I" (.int (oI 0)) ∧ Fld Z h r0 "com/example/interval/interval/service/SlotOrder" "runCount" "I" (.int (0 : Int32)) ∧ Arf Z h ra (.array .int) 1 (fun _ => .null) ∧ Tak Z h ra "[I" ∧ Arf Z h sz .int 1 (fun _ => .int (oI 0)) ∧ h0.size ≤ ra ∧ h0.size ≤ sz ∧ ra ≠ sz
set_option maxRecDepth 65536 in
set_option maxHeartbeats 40000000 in
theorem rmIni (l : Launch) (Z : State) (a0 : Array Value) (hw : ∀ d ∈ tables_1, d.before a0 Z = true) (ws : List Jvm.Cond) (r0 : Addr) (r1 : Addr) (fl : Nat) (h0 : Heap) (n0 : Nat) (Z0 : n0 ≤ h0.size) (F_runs_r0 : Fld Z h0 r0 "com/example/interval/interval/service/SlotOrder" "runs" "[[I" .null) (F_sizes_r0 : Fld Z h0 r0 "com/example/interval/interval/service/SlotOrder" "sizes" "[I" .null) (F_table_r0 : Fld Z h0 r0 "com/example/interval/interval/service/SlotOrder" "table" "Lcom/example/interval/interval/service/SlotTable;" .null) (F_field_r0 : Fld Z h0 r0 "com/example/interval/interval/service/SlotOrder" "field" "I" (.int (0 : Int32))) (F_size_r0 : Fld Z h0 r0 "com/example/interval/interval/service/SlotOrder" "size" "I" (.int (0 : Int32))) (F_runCount_r0 : Fld Z h0 r0 "com/example/interval/interval/service/SlotOrder" "runCount" "I" (.int (0 : Int32))) (E_r0 : Exa Z h0 r0 "com/example/interval/interval/service/SlotOrder") (ge_r0 : n0 ≤ r0) :
    MetFree l (⟨"com/example/interval/interval/service/SlotOrder", "<init>", "(Lcom/example/interval/interval/service/SlotTable;I)V"⟩ : MethodName) (head1 (Jvm.Cond.code (⟨"com/example/interval/interval/service/SlotOrder", "<init>", "(Lcom/example/interval/interval/service/SlotTable;I)V"⟩ : MethodName) prog_26_method_1_code 3 none :: ws) ({ frames := 1, cells := 2, slots := 2, locals := 12 } : Room)) (fun a U => a = #[(.ref r0), (.ref r1), (.int (oI fl))] ∧ Z.Warmed39 U.vm ∧ U.heap = h0) (fun _ _ _ _ _ => True) (fun _ U o U' => ∃ v L, o = .returned v ∧ QrmIni Z r0 r1 fl h0 n0 v U'.heap L ∧ FrameEnd U o U' L ({ frames := 1, cells := 2, slots := 2, locals := 12 } : Room).cells ({ frames := 1, cells := 2, slots := 2, locals := 12 } : Room).slots) := by
  refine MetFree.of_bodySF (plainFor_of_name pn_6) hisR ?_
  intro p e s m args below meth c s₁ Bd hml0 hP hK
  obtain ⟨rfl, hZ, hh⟩ := hP
  have hx := Bd.exec
  have hby := Bd.bytes
  have hml : c.maxLocals = 3 := hml0
  have hown : s.vm.findClass "com/example/interval/interval/service/SlotOrder" = some m.cls := findClass_of_methodNamed Bd.named
  have hnm := (name_of_methodNamed Bd.named Bd.method).1
  have X0 : Stand p l e ({ frames := 1, cells := 2, slots := 2, locals := 12 } : Room) s m #[(.ref r0), (.ref r1), (.int (oI fl))] below meth c s₁ [] 0 0 := Stand.of_body Bd
  have e0 : s₁.heap = h0 := by rw [← hh, Bd.state]; rfl
  have N0 := Fr.nil n0
  have ZZ := Z0
  have KK : Keep h0 h0 [r0] := Keep.refl h0 _
  show Go p e below s (QrmIni Z r0 r1 fl h0 n0) 2 2 (s₁.setTop (entryFrame m #[(.ref r0), (.ref r1), (.int (oI fl))] 3))
  generalize hQQ : (QrmIni Z r0 r1 fl h0 n0) = QQ
  refine gs (fun t k => castTop (g' := (mkF m 0 #[rv r0, rv r1, iv (oI fl)] [])) (by first | (simp [entryFrame, mkF, argsToLocals, Value.category, maxLocals]; done) | rfl) k) ?_
  show Go p e below s QQ 2 2 (s₁.setTop (mkF m 0 #[rv r0, rv r1, iv (oI fl)] []))
  refine gs (fun t => XS.aloadN X0.here hx rfl (hb hby d6_0) rfl rfl) ?_
  obtain ⟨T151, X151, e151, st151⟩ := initO X0 hx hZ hown (hw _ (List.mem_of_getElem? (i := 37) rfl)) (hw _ (List.mem_of_getElem? (i := 8) rfl)) (hw _ (List.mem_of_getElem? (i := 9) rfl)) e0 (g := (mkF m 1 #[rv r0, rv r1, iv (oI fl)] [(.ref r0)])) rfl (by rw [hml]; rfl) rfl (hb hby d6_1) (by decide) (W := 0) (by show 2 * 0 + _ ≤ _; exact Nat.le_of_eq rfl) (by decide)
  refine gs st151 ?_
  show Go p e below s QQ 2 2 (T151.setTop (mkF m 4 #[rv r0, rv r1, iv (oI fl)] []))
  refine gs (fun t => XS.aloadN X151.here hx rfl (hb hby d6_4) rfl rfl) ?_
  refine gs (fun t => XS.iconst X151.here hx rfl (hb hby d6_5)) ?_
  obtain ⟨T152, h152, k152, X152, e152, E152, A152, Q152, O152, st152⟩ := newRA X151 hx hZ hown (ty := .int) (by decide) (hw _ (List.mem_of_getElem? (i := 38) rfl)) (hw _ (List.mem_of_getElem? (i := 39) rfl)) e151 (g := (mkF m 6 #[rv r0, rv r1, iv (oI fl)] [(.int (1 : Int32)), (.ref r0)])) rfl (hb hby d6_6) rfl (by decide) (cap := 1) (by decide) (by decide) (by decide) (by decide) (ad := "[[I") (by decide)
  obtain ⟨b152, g152⟩ : ∃ z, z = h0.size := ⟨_, rfl⟩
  rw [← g152] at A152 st152 Q152
  have ge_b152 : n0 ≤ b152 := by rw [g152]; exact ZZ
  have sz_b152 : h0.size ≤ b152 := by rw [g152]; exact KK.1
  have ne_r0_b152 : r0 ≠ b152 := by rw [g152]; exact Nat.ne_of_lt F_runs_r0.lt
  refine gs st152 ?_
  show Go p e below s QQ 2 2 (T152.setTop (mkF m 9 #[rv r0, rv r1, iv (oI fl)] [(.ref b152), (.ref r0)]))
  replace F_runs_r0 := F_runs_r0.ext E152
  replace F_sizes_r0 := F_sizes_r0.ext E152
  replace F_table_r0 := F_table_r0.ext E152
  replace F_field_r0 := F_field_r0.ext E152
  replace F_size_r0 := F_size_r0.ext E152
  replace F_runCount_r0 := F_runCount_r0.ext E152
  replace E_r0 := E_r0.ext E152
  replace ZZ := Nat.le_trans ZZ E152.1
  replace KK := KK.ext E152
  have V_b152 : Arf Z h152 b152 (.array .int) 1 (fun _ => .null) := Arf.new A152
  have TK_b152 : Tak Z h152 b152 "[I" := Tak.ofA A152 O152
  obtain ⟨T153, h153, X153, e153, W153, st153⟩ := putF X152 hx hZ hown (host := "") (Or.inl (hw _ (List.mem_of_getElem? (i := 40) rfl))) Via.refl e152 F_runs_r0 E_r0 (Or.inl (hw _ (List.mem_of_getElem? (i := 41) rfl))) (hw _ (List.mem_of_getElem? (i := 32) rfl)) (ty := (.array (.array .int))) (by decide) rfl rfl (g := (mkF m 9 #[rv r0, rv r1, iv (oI fl)] [(.ref b152), (.ref r0)])) rfl rfl (hb hby d6_9)
  replace N0 := Fr.snoc X153 N0 ge_r0
  refine gs st153 ?_
  show Go p e below s QQ 2 2 (T153.setTop (mkF m 12 #[rv r0, rv r1, iv (oI fl)] []))
  replace F_runs_r0 := F_runs_r0.same W153
  replace F_sizes_r0 := F_sizes_r0.other W153 (Or.inr (slot_ne (Or.inl (hw _ (List.mem_of_getElem? (i := 43) rfl))) (Or.inl (hw _ (List.mem_of_getElem? (i := 41) rfl))) (by decide) (t := (.array .int)) (t' := (.array (.array .int))) (by decide) (by decide)))
  replace F_table_r0 := F_table_r0.other W153 (Or.inr (slot_ne (Or.inr (hw _ (List.mem_of_getElem? (i := 45) rfl))) (Or.inl (hw _ (List.mem_of_getElem? (i := 41) rfl))) (by decide) (t := (.object "com/example/interval/interval/service/SlotTable")) (t' := (.array (.array .int))) (by decide) (by decide)))
  replace F_field_r0 := F_field_r0.other W153 (Or.inr (slot_ne (Or.inr (hw _ (List.mem_of_getElem? (i := 47) rfl))) (Or.inl (hw _ (List.mem_of_getElem? (i := 41) rfl))) (by decide) (t := .int) (t' := (.array (.array .int))) (by decide) (by decide)))
  replace F_size_r0 := F_size_r0.other W153 (Or.inr (slot_ne (Or.inl (hw _ (List.mem_of_getElem? (i := 59) rfl))) (Or.inl (hw _ (List.mem_of_getElem? (i := 41) rfl))) (by decide) (t := .int) (t' := (.array (.array .int))) (by decide) (by decide)))
  replace F_runCount_r0 := F_runCount_r0.other W153 (Or.inr (slot_ne (Or.inl (hw _ (List.mem_of_getElem? (i := 71) rfl))) (Or.inl (hw _ (List.mem_of_getElem? (i := 41) rfl))) (by decide) (t := .int) (t' := (.array (.array .int))) (by decide) (by decide)))
  replace E_r0 := E_r0.wr W153
  replace V_b152 := V_b152.other W153 (Ne.symm ne_r0_b152)
  replace TK_b152 := TK_b152.wr W153
  replace ZZ : n0 ≤ h153.size := by rw [W153.size]; exact ZZ
  replace KK := KK.wr W153 (Or.inl (by simp))
  refine gs (fun t => XS.aloadN X153.here hx rfl (hb hby d6_12) rfl rfl) ?_
  refine gs (fun t => XS.iconst X153.here hx rfl (hb hby d6_13)) ?_
  obtain ⟨T154, h154, k154, X154, e154, E154, A154, st154⟩ := newP X153 hx hZ (hw _ (List.mem_of_getElem? (i := 15) rfl)) e153 (g := (mkF m 14 #[rv r0, rv r1, iv (oI fl)] [(.int (1 : Int32)), (.ref r0)])) rfl (hb hby d6_14) rfl (by decide) (cap := 1) (by decide) (by decide) (by decide) (by decide)
  obtain ⟨b154, g154⟩ : ∃ z, z = h153.size := ⟨_, rfl⟩
  rw [← g154] at A154 st154
  have ge_b154 : n0 ≤ b154 := by rw [g154]; exact ZZ
  have sz_b154 : h0.size ≤ b154 := by rw [g154]; exact KK.1
  have ne_r0_b154 : r0 ≠ b154 := by rw [g154]; exact Nat.ne_of_lt F_runs_r0.lt
  have ne_b152_b154 : b152 ≠ b154 := by rw [g154]; exact Nat.ne_of_lt V_b152.lt
  refine gs st154 ?_
  show Go p e below s QQ 2 2 (T154.setTop (mkF m 16 #[rv r0, rv r1, iv (oI fl)] [(.ref b154), (.ref r0)]))
  replace F_runs_r0 := F_runs_r0.ext E154
  replace F_sizes_r0 := F_sizes_r0.ext E154
  replace F_table_r0 := F_table_r0.ext E154
  replace F_field_r0 := F_field_r0.ext E154
  replace F_size_r0 := F_size_r0.ext E154
  replace F_runCount_r0 := F_runCount_r0.ext E154
  replace E_r0 := E_r0.ext E154
  replace V_b152 := V_b152.ext E154
  replace TK_b152 := TK_b152.ext E154
  replace ZZ := Nat.le_trans ZZ E154.1
  replace KK := KK.ext E154
  have V_b154 : Arf Z h154 b154 .int 1 (fun _ => .int 0) := Arf.new A154
  obtain ⟨T155, h155, X155, e155, W155, st155⟩ := putF X154 hx hZ hown (host := "") (Or.inl (hw _ (List.mem_of_getElem? (i := 42) rfl))) Via.refl e154 F_sizes_r0 E_r0 (Or.inl (hw _ (List.mem_of_getElem? (i := 43) rfl))) (hw _ (List.mem_of_getElem? (i := 32) rfl)) (ty := (.array .int)) (by decide) rfl rfl (g := (mkF m 16 #[rv r0, rv r1, iv (oI fl)] [(.ref b154), (.ref r0)])) rfl rfl (hb hby d6_16)
  replace N0 := Fr.snoc X155 N0 ge_r0
  refine gs st155 ?_
  show Go p e below s QQ 2 2 (T155.setTop (mkF m 19 #[rv r0, rv r1, iv (oI fl)] []))
  replace F_runs_r0 := F_runs_r0.other W155 (Or.inr (slot_ne (Or.inl (hw _ (List.mem_of_getElem? (i := 41) rfl))) (Or.inl (hw _ (List.mem_of_getElem? (i := 43) rfl))) (by decide) (t := (.array (.array .int))) (t' := (.array .int)) (by decide) (by decide)))
  replace F_sizes_r0 := F_sizes_r0.same W155
  replace F_table_r0 := F_table_r0.other W155 (Or.inr (slot_ne (Or.inr (hw _ (List.mem_of_getElem? (i := 45) rfl))) (Or.inl (hw _ (List.mem_of_getElem? (i := 43) rfl))) (by decide) (t := (.object "com/example/interval/interval/service/SlotTable")) (t' := (.array .int)) (by decide) (by decide)))
  replace F_field_r0 := F_field_r0.other W155 (Or.inr (slot_ne (Or.inr (hw _ (List.mem_of_getElem? (i := 47) rfl))) (Or.inl (hw _ (List.mem_of_getElem? (i := 43) rfl))) (by decide) (t := .int) (t' := (.array .int)) (by decide) (by decide)))
  replace F_size_r0 := F_size_r0.other W155 (Or.inr (slot_ne (Or.inl (hw _ (List.mem_of_getElem? (i := 59) rfl))) (Or.inl (hw _ (List.mem_of_getElem? (i := 43) rfl))) (by decide) (t := .int) (t' := (.array .int)) (by decide) (by decide)))
  replace F_runCount_r0 := F_runCount_r0.other W155 (Or.inr (slot_ne (Or.inl (hw _ (List.mem_of_getElem? (i := 71) rfl))) (Or.inl (hw _ (List.mem_of_getElem? (i := 43) rfl))) (by decide) (t := .int) (t' := (.array .int)) (by decide) (by decide)))
  replace E_r0 := E_r0.wr W155
  replace V_b152 := V_b152.other W155 (Ne.symm ne_r0_b152)
  replace TK_b152 := TK_b152.wr W155
  replace V_b154 := V_b154.other W155 (Ne.symm ne_r0_b154)
  replace ZZ : n0 ≤ h155.size := by rw [W155.size]; exact ZZ
  replace KK := KK.wr W155 (Or.inl (by simp))
  refine gs (fun t => XS.aloadN X155.here hx rfl (hb hby d6_19) rfl rfl) ?_
  refine gs (fun t => XS.aloadN X155.here hx rfl (hb hby d6_20) rfl rfl) ?_
  obtain ⟨T156, h156, X156, e156, W156, st156⟩ := putF X155 hx hZ hown (host := "") (Or.inl (hw _ (List.mem_of_getElem? (i := 44) rfl))) Via.refl e155 F_table_r0 E_r0 (Or.inr ⟨(hw _ (List.mem_of_getElem? (i := 45) rfl)), rfl, hnm⟩) (hw _ (List.mem_of_getElem? (i := 32) rfl)) (ty := (.object "com/example/interval/interval/service/SlotTable")) (by decide) rfl rfl (g := (mkF m 21 #[rv r0, rv r1, iv (oI fl)] [(.ref r1), (.ref r0)])) rfl rfl (hb hby d6_21)
  replace N0 := Fr.snoc X156 N0 ge_r0
  refine gs st156 ?_
  show Go p e below s QQ 2 2 (T156.setTop (mkF m 24 #[rv r0, rv r1, iv (oI fl)] []))
  replace F_runs_r0 := F_runs_r0.other W156 (Or.inr (slot_ne (Or.inl (hw _ (List.mem_of_getElem? (i := 41) rfl))) (Or.inr (hw _ (List.mem_of_getElem? (i := 45) rfl))) (by decide) (t := (.array (.array .int))) (t' := (.object "com/example/interval/interval/service/SlotTable")) (by decide) (by decide)))
  replace F_sizes_r0 := F_sizes_r0.other W156 (Or.inr (slot_ne (Or.inl (hw _ (List.mem_of_getElem? (i := 43) rfl))) (Or.inr (hw _ (List.mem_of_getElem? (i := 45) rfl))) (by decide) (t := (.array .int)) (t' := (.object "com/example/interval/interval/service/SlotTable")) (by decide) (by decide)))
  replace F_table_r0 := F_table_r0.same W156
  replace F_field_r0 := F_field_r0.other W156 (Or.inr (slot_ne (Or.inr (hw _ (List.mem_of_getElem? (i := 47) rfl))) (Or.inr (hw _ (List.mem_of_getElem? (i := 45) rfl))) (by decide) (t := .int) (t' := (.object "com/example/interval/interval/service/SlotTable")) (by decide) (by decide)))
  replace F_size_r0 := F_size_r0.other W156 (Or.inr (slot_ne (Or.inl (hw _ (List.mem_of_getElem? (i := 59) rfl))) (Or.inr (hw _ (List.mem_of_getElem? (i := 45) rfl))) (by decide) (t := .int) (t' := (.object "com/example/interval/interval/service/SlotTable")) (by decide) (by decide)))
  replace F_runCount_r0 := F_runCount_r0.other W156 (Or.inr (slot_ne (Or.inl (hw _ (List.mem_of_getElem? (i := 71) rfl))) (Or.inr (hw _ (List.mem_of_getElem? (i := 45) rfl))) (by decide) (t := .int) (t' := (.object "com/example/interval/interval/service/SlotTable")) (by decide) (by decide)))
  replace E_r0 := E_r0.wr W156
  replace V_b152 := V_b152.other W156 (Ne.symm ne_r0_b152)
  replace TK_b152 := TK_b152.wr W156
  replace V_b154 := V_b154.other W156 (Ne.symm ne_r0_b154)
  replace ZZ : n0 ≤ h156.size := by rw [W156.size]; exact ZZ
  replace KK := KK.wr W156 (Or.inl (by simp))
  refine gs (fun t => XS.aloadN X156.here hx rfl (hb hby d6_24) rfl rfl) ?_
  refine gs (fun t => XS.iloadN X156.here hx rfl (hb hby d6_25) rfl) ?_
  obtain ⟨T157, h157, X157, e157, W157, st157⟩ := putF X156 hx hZ hown (host := "") (Or.inl (hw _ (List.mem_of_getElem? (i := 46) rfl))) Via.refl e156 F_field_r0 E_r0 (Or.inr ⟨(hw _ (List.mem_of_getElem? (i := 47) rfl)), rfl, hnm⟩) (hw _ (List.mem_of_getElem? (i := 32) rfl)) (ty := .int) (by decide) rfl rfl (g := (mkF m 26 #[rv r0, rv r1, iv (oI fl)] [(.int (oI fl)), (.ref r0)])) rfl rfl (hb hby d6_26)
  replace N0 := Fr.snoc X157 N0 ge_r0
  refine gs st157 ?_
  show Go p e below s QQ 2 2 (T157.setTop (mkF m 29 #[rv r0, rv r1, iv (oI fl)] []))
  replace F_runs_r0 := F_runs_r0.other W157 (Or.inr (slot_ne (Or.inl (hw _ (List.mem_of_getElem? (i := 41) rfl))) (Or.inr (hw _ (List.mem_of_getElem? (i := 47) rfl))) (by decide) (t := (.array (.array .int))) (t' := .int) (by decide) (by decide)))
  replace F_sizes_r0 := F_sizes_r0.other W157 (Or.inr (slot_ne (Or.inl (hw _ (List.mem_of_getElem? (i := 43) rfl))) (Or.inr (hw _ (List.mem_of_getElem? (i := 47) rfl))) (by decide) (t := (.array .int)) (t' := .int) (by decide) (by decide)))
  replace F_table_r0 := F_table_r0.other W157 (Or.inr (slot_ne (Or.inr (hw _ (List.mem_of_getElem? (i := 45) rfl))) (Or.inr (hw _ (List.mem_of_getElem? (i := 47) rfl))) (by decide) (t := (.object "com/example/interval/interval/service/SlotTable")) (t' := .int) (by decide) (by decide)))
  replace F_field_r0 := F_field_r0.same W157
  replace F_size_r0 := F_size_r0.other W157 (Or.inr (slot_ne (Or.inl (hw _ (List.mem_of_getElem? (i := 59) rfl))) (Or.inr (hw _ (List.mem_of_getElem? (i := 47) rfl))) (by decide) (t := .int) (t' := .int) (by decide) (by decide)))
  replace F_runCount_r0 := F_runCount_r0.other W157 (Or.inr (slot_ne (Or.inl (hw _ (List.mem_of_getElem? (i := 71) rfl))) (Or.inr (hw _ (List.mem_of_getElem? (i := 47) rfl))) (by decide) (t := .int) (t' := .int) (by decide) (by decide)))
  replace E_r0 := E_r0.wr W157
  replace V_b152 := V_b152.other W157 (Ne.symm ne_r0_b152)
  replace TK_b152 := TK_b152.wr W157
  replace V_b154 := V_b154.other W157 (Ne.symm ne_r0_b154)
  replace ZZ : n0 ≤ h157.size := by rw [W157.size]; exact ZZ
  replace KK := KK.wr W157 (Or.inl (by simp))
  exact goV X157 hx Bd.notSynchronized Bd.returns (hb hby d6_29) (by rw [← hQQ, e157]; exact ⟨b152, b154, rfl, N0, KK, F_runs_r0, F_sizes_r0, F_table_r0, F_field_r0, F_size_r0, F_runCount_r0, V_b152, TK_b152, V_b154, sz_b152, sz_b154, ne_b152_b154⟩) (by decide) (by decide)
theorem pn_0 : plainName "com/example/interval/interval/service/SlotOrderFirstPinLaw" = true := by first | (simp [plainName, overriddenIn]; done) | decide +kernel
def Qrm0 (Z : State) (p0 : Int64) (p1 : Int64) (p2 : Int64) (p3 : Int64) (p4 : Int32) (h0 : Heap) (n0 : Nat) (v : Option Value) (h : Heap) (L : List Loc) : Prop := v = some (.int 1) ∧ Fr n0 L
set_option maxRecDepth 65536 in
set_option maxHeartbeats 40000000 in
theorem rm0 (l : Launch) (Z : State) (a0 : Array Value) (hw : ∀ d ∈ tables_1, d.before a0 Z = true) (ws : List Jvm.Cond) (p0 : Int64) (p1 : Int64) (p2 : Int64) (p3 : Int64) (p4 : Int32) (h0 : Heap) (n0 : Nat) (Z0 : n0 ≤ h0.size) :
    MetFree l x (head1 (Jvm.Cond.code x code maxLocals ret :: ws) room_1) (fun a U => a = #[(.long p0), (.long p1), (.long p2), (.long p3), (.int p4)] ∧ Z.Warmed39 U.vm ∧ U.heap = h0) (fun _ _ _ _ _ => True) (fun _ U o U' => ∃ v L, o = .returned v ∧ Qrm0 Z p0 p1 p2 p3 p4 h0 n0 v U'.heap L ∧ FrameEnd U o U' L room_1.cells room_1.slots) := by
  refine MetFree.of_bodySF (plainFor_of_name pn_0) hisR ?_
  intro p e s m args below meth c s₁ Bd hml0 hP hK
  obtain ⟨rfl, hZ, hh⟩ := hP
  have hx := Bd.exec
  have hby := Bd.bytes
  have hml : c.maxLocals = 28 := hml0
  have hown : s.vm.findClass "com/example/interval/interval/service/SlotOrderFirstPinLaw" = some m.cls := findClass_of_methodNamed Bd.named
  have hnm := (name_of_methodNamed Bd.named Bd.method).1
  have X0 : Stand p l e room_1 s m #[(.long p0), (.long p1), (.long p2), (.long p3), (.int p4)] below meth c s₁ [] 0 0 := Stand.of_body Bd
  have e0 : s₁.heap = h0 := by rw [← hh, Bd.state]; rfl
  have N0 := Fr.nil n0
  have ZZ := Z0
  show Go p e below s (Qrm0 Z p0 p1 p2 p3 p4 h0 n0) room_1.cells room_1.slots (s₁.setTop (entryFrame m #[(.long p0), (.long p1), (.long p2), (.long p3), (.int p4)] maxLocals))
  generalize hQQ : (Qrm0 Z p0 p1 p2 p3 p4 h0 n0) = QQ
  refine gs (fun t k => castTop (g' := (mkF m 0 #[jv p0, .second, jv p1, .second, jv p2, .second, jv p3, .second, iv p4, .unset, .unset, .unset, .unset, .unset, .unset, .unset, .unset, .unset, .unset, .unset, .unset, .unset, .unset, .unset, .unset, .unset, .unset, .unset] [])) (by first | (simp [entryFrame, mkF, argsToLocals, Value.category, maxLocals]; done) | rfl) k) ?_
  show Go p e below s QQ room_1.cells room_1.slots (s₁.setTop (mkF m 0 #[jv p0, .second, jv p1, .second, jv p2, .second, jv p3, .second, iv p4, .unset, .unset, .unset, .unset, .unset, .unset, .unset, .unset, .unset, .unset, .unset, .unset, .unset, .unset, .unset, .unset, .unset, .unset, .unset] []))
  refine gs (fun t => XS.iload X0.here hx rfl (hb hby at_0) rfl) ?_
  refine gs (fun t => XS.bipush X0.here hx rfl (hb hby at_2)) ?_
  refine gs (fun t => XS.iand X0.here hx rfl (hb hby at_4) rfl) ?_
  refine gs (fun t => XS.bipush X0.here hx rfl (hb hby at_5)) ?_
  refine gs (fun t => iremM X0 hx (g := (mkF m 7 #[jv p0, .second, jv p1, .second, jv p2, .second, jv p3, .second, iv p4, .unset, .unset, .unset, .unset, .unset, .unset, .unset, .unset, .unset, .unset, .unset, .unset, .unset, .unset, .unset, .unset, .unset, .unset, .unset] [(.int (6 : Int32)), (.int (p4 &&& (7 : Int32)))])) rfl (hb hby at_7) rfl (by decide)) ?_
  show Go p e below s QQ room_1.cells room_1.slots (s₁.setTop (mkF m 8 #[jv p0, .second, jv p1, .second, jv p2, .second, jv p3, .second, iv p4, .unset, .unset, .unset, .unset, .unset, .unset, .unset, .unset, .unset, .unset, .unset, .unset, .unset, .unset, .unset, .unset, .unset, .unset, .unset] [(.int ((p4 &&& (7 : Int32)) % (6 : Int32)))]))
  generalize hpp : ((p4 &&& (7 : Int32)) % (6 : Int32)) = pp
  show Go p e below s QQ room_1.cells room_1.slots (s₁.setTop (mkF m 8 #[jv p0, .second, jv p1, .second, jv p2, .second, jv p3, .second, iv p4, .unset, .unset, .unset, .unset, .unset, .unset, .unset, .unset, .unset, .unset, .unset, .unset, .unset, .unset, .unset, .unset, .unset, .unset, .unset] [(.int pp)]))
  refine gs (fun t => XS.istore X0.here hx rfl (hb hby at_8) rfl (l' := #[jv p0, .second, jv p1, .second, jv p2, .second, jv p3, .second, iv p4, iv pp, .unset, .unset, .unset, .unset, .unset, .unset, .unset, .unset, .unset, .unset, .unset, .unset, .unset, .unset, .unset, .unset, .unset, .unset]) rfl) ?_
  refine gs (fun t => XS.iload X0.here hx rfl (hb hby at_10) rfl) ?_
  refine gs (fun t => XS.iconst X0.here hx rfl (hb hby at_12)) ?_
  refine gs (fun t => XS.iushr X0.here hx rfl (hb hby at_13) rfl) ?_
  refine gs (fun t => XS.bipush X0.here hx rfl (hb hby at_14)) ?_
  refine gs (fun t => XS.iand X0.here hx rfl (hb hby at_16) rfl) ?_
  show Go p e below s QQ room_1.cells room_1.slots (s₁.setTop (mkF m 17 #[jv p0, .second, jv p1, .second, jv p2, .second, jv p3, .second, iv p4, iv pp, .unset, .unset, .unset, .unset, .unset, .unset, .unset, .unset, .unset, .unset, .unset, .unset, .unset, .unset, .unset, .unset, .unset, .unset] [(.int (((p4.toUInt32 >>> ((3 : Int32) &&& 31).toUInt32).toInt32) &&& (7 : Int32)))]))
  refine gs (fun t => XS.iconst X0.here hx rfl (hb hby at_17)) ?_
  refine gs (fun t => iremM X0 hx (g := (mkF m 18 #[jv p0, .second, jv p1, .second, jv p2, .second, jv p3, .second, iv p4, iv pp, .unset, .unset, .unset, .unset, .unset, .unset, .unset, .unset, .unset, .unset, .unset, .unset, .unset, .unset, .unset, .unset, .unset, .unset] [(.int (5 : Int32)), (.int (((p4.toUInt32 >>> ((3 : Int32) &&& 31).toUInt32).toInt32) &&& (7 : Int32)))])) rfl (hb hby at_18) rfl (by decide)) ?_
  show Go p e below s QQ room_1.cells room_1.slots (s₁.setTop (mkF m 19 #[jv p0, .second, jv p1, .second, jv p2, .second, jv p3, .second, iv p4, iv pp, .unset, .unset, .unset, .unset, .unset, .unset, .unset, .unset, .unset, .unset, .unset, .unset, .unset, .unset, .unset, .unset, .unset, .unset] [(.int ((((p4.toUInt32 >>> ((3 : Int32) &&& 31).toUInt32).toInt32) &&& (7 : Int32)) % (5 : Int32)))]))
  generalize hgg : ((((p4.toUInt32 >>> ((3 : Int32) &&& 31).toUInt32).toInt32) &&& (7 : Int32)) % (5 : Int32)) = gg
  show Go p e below s QQ room_1.cells room_1.slots (s₁.setTop (mkF m 19 #[jv p0, .second, jv p1, .second, jv p2, .second, jv p3, .second, iv p4, iv pp, .unset, .unset, .unset, .unset, .unset, .unset, .unset, .unset, .unset, .unset, .unset, .unset, .unset, .unset, .unset, .unset, .unset, .unset] [(.int gg)]))
  have hp6 := own_p6 p4 hpp
  obtain ⟨fl, hfl, rfl⟩ := own_fg p4 hgg
  clear hpp hgg
  show Go p e below s QQ room_1.cells room_1.slots (s₁.setTop (mkF m 19 #[jv p0, .second, jv p1, .second, jv p2, .second, jv p3, .second, iv p4, iv pp, .unset, .unset, .unset, .unset, .unset, .unset, .unset, .unset, .unset, .unset, .unset, .unset, .unset, .unset, .unset, .unset, .unset, .unset] [(.int (oI fl))]))
  refine gs (fun t => XS.istore X0.here hx rfl (hb hby at_19) rfl (l' := #[jv p0, .second, jv p1, .second, jv p2, .second, jv p3, .second, iv p4, iv pp, iv (oI fl), .unset, .unset, .unset, .unset, .unset, .unset, .unset, .unset, .unset, .unset, .unset, .unset, .unset, .unset, .unset, .unset, .unset]) rfl) ?_
  refine gs (fun t => XS.iload X0.here hx rfl (hb hby at_21) rfl) ?_
  refine gs (fun t => XS.bipush X0.here hx rfl (hb hby at_23)) ?_
  refine gs (fun t => XS.iushr X0.here hx rfl (hb hby at_25) rfl) ?_
  refine gs (fun t => XS.bipush X0.here hx rfl (hb hby at_26)) ?_
  refine gs (fun t => XS.iand X0.here hx rfl (hb hby at_28) rfl) ?_
  show Go p e below s QQ room_1.cells room_1.slots (s₁.setTop (mkF m 29 #[jv p0, .second, jv p1, .second, jv p2, .second, jv p3, .second, iv p4, iv pp, iv (oI fl), .unset, .unset, .unset, .unset, .unset, .unset, .unset, .unset, .unset, .unset, .unset, .unset, .unset, .unset, .unset, .unset, .unset] [(.int (((p4.toUInt32 >>> ((6 : Int32) &&& 31).toUInt32).toInt32) &&& (7 : Int32)))]))
  generalize hmb : (((p4.toUInt32 >>> ((6 : Int32) &&& 31).toUInt32).toInt32) &&& (7 : Int32)) = mb
  show Go p e below s QQ room_1.cells room_1.slots (s₁.setTop (mkF m 29 #[jv p0, .second, jv p1, .second, jv p2, .second, jv p3, .second, iv p4, iv pp, iv (oI fl), .unset, .unset, .unset, .unset, .unset, .unset, .unset, .unset, .unset, .unset, .unset, .unset, .unset, .unset, .unset, .unset, .unset] [(.int mb)]))
  refine gs (fun t => XS.istore X0.here hx rfl (hb hby at_29) rfl (l' := #[jv p0, .second, jv p1, .second, jv p2, .second, jv p3, .second, iv p4, iv pp, iv (oI fl), iv mb, .unset, .unset, .unset, .unset, .unset, .unset, .unset, .unset, .unset, .unset, .unset, .unset, .unset, .unset, .unset, .unset]) rfl) ?_
  refine gs (fun t => XS.iload X0.here hx rfl (hb hby at_31) rfl) ?_
  refine gs (fun t => XS.bipush X0.here hx rfl (hb hby at_33)) ?_
  refine gs (fun t => XS.iushr X0.here hx rfl (hb hby at_35) rfl) ?_
  refine gs (fun t => XS.iconst X0.here hx rfl (hb hby at_36)) ?_
  refine gs (fun t => XS.iand X0.here hx rfl (hb hby at_37) rfl) ?_
  show Go p e below s QQ room_1.cells room_1.slots (s₁.setTop (mkF m 38 #[jv p0, .second, jv p1, .second, jv p2, .second, jv p3, .second, iv p4, iv pp, iv (oI fl), iv mb, .unset, .unset, .unset, .unset, .unset, .unset, .unset, .unset, .unset, .unset, .unset, .unset, .unset, .unset, .unset, .unset] [(.int (((p4.toUInt32 >>> ((9 : Int32) &&& 31).toUInt32).toInt32) &&& (1 : Int32)))]))
  have kv1 : ∀ (R1 : Int64), Go p e below s QQ room_1.cells room_1.slots (s₁.setTop (mkF m 43 #[jv p0, .second, jv R1, .second, jv p2, .second, jv p3, .second, iv p4, iv pp, iv (oI fl), iv mb, .unset, .unset, .unset, .unset, .unset, .unset, .unset, .unset, .unset, .unset, .unset, .unset, .unset, .unset, .unset, .unset] [])) := by
    intro R1
    refine gs (fun t => XS.iload X0.here hx rfl (hb hby at_43) rfl) ?_
    refine gs (fun t => XS.bipush X0.here hx rfl (hb hby at_45)) ?_
    refine gs (fun t => XS.iushr X0.here hx rfl (hb hby at_47) rfl) ?_
    refine gs (fun t => XS.iconst X0.here hx rfl (hb hby at_48)) ?_
    refine gs (fun t => XS.iand X0.here hx rfl (hb hby at_49) rfl) ?_
    have kv2 : ∀ (R2 : Int64), Go p e below s QQ room_1.cells room_1.slots (s₁.setTop (mkF m 56 #[jv p0, .second, jv R1, .second, jv R2, .second, jv p3, .second, iv p4, iv pp, iv (oI fl), iv mb, .unset, .unset, .unset, .unset, .unset, .unset, .unset, .unset, .unset, .unset, .unset, .unset, .unset, .unset, .unset, .unset] [])) := by
      intro R2
      refine gs (fun t => XS.iload X0.here hx rfl (hb hby at_56) rfl) ?_
      show Go p e below s QQ room_1.cells room_1.slots (s₁.setTop (mkF m 58 #[jv p0, .second, jv R1, .second, jv R2, .second, jv p3, .second, iv p4, iv pp, iv (oI fl), iv mb, .unset, .unset, .unset, .unset, .unset, .unset, .unset, .unset, .unset, .unset, .unset, .unset, .unset, .unset, .unset, .unset] [(.int p4)]))
      refine gs (fun t => XS.bipush X0.here hx rfl (hb hby at_58)) ?_
      refine gs (fun t => XS.iushr X0.here hx rfl (hb hby at_60) rfl) ?_
      refine gs (fun t => XS.iconst X0.here hx rfl (hb hby at_61)) ?_
      refine gs (fun t => XS.iand X0.here hx rfl (hb hby at_62) rfl) ?_
      have kd : ∀ (dr : Int32), Go p e below s QQ room_1.cells room_1.slots (s₁.setTop (mkF m 71 #[jv p0, .second, jv R1, .second, jv R2, .second, jv p3, .second, iv p4, iv pp, iv (oI fl), iv mb, .unset, .unset, .unset, .unset, .unset, .unset, .unset, .unset, .unset, .unset, .unset, .unset, .unset, .unset, .unset, .unset] [(.int dr)])) := by
        intro dr
        refine gs (fun t => XS.istore X0.here hx rfl (hb hby at_71) rfl (l' := #[jv p0, .second, jv R1, .second, jv R2, .second, jv p3, .second, iv p4, iv pp, iv (oI fl), iv mb, iv dr, .unset, .unset, .unset, .unset, .unset, .unset, .unset, .unset, .unset, .unset, .unset, .unset, .unset, .unset, .unset]) rfl) ?_
        refine gs (fun t => XS.iload X0.here hx rfl (hb hby at_73) rfl) ?_
        show Go p e below s QQ room_1.cells room_1.slots (s₁.setTop (mkF m 75 #[jv p0, .second, jv R1, .second, jv R2, .second, jv p3, .second, iv p4, iv pp, iv (oI fl), iv mb, iv dr, .unset, .unset, .unset, .unset, .unset, .unset, .unset, .unset, .unset, .unset, .unset, .unset, .unset, .unset, .unset] [(.int p4)]))
        refine gs (fun t => XS.bipush X0.here hx rfl (hb hby at_75)) ?_
        refine gs (fun t => XS.iushr X0.here hx rfl (hb hby at_77) rfl) ?_
        refine gs (fun t => XS.iconst X0.here hx rfl (hb hby at_78)) ?_
        refine gs (fun t => XS.iand X0.here hx rfl (hb hby at_79) rfl) ?_
        refine gs (fun t => XS.iconst X0.here hx rfl (hb hby at_80)) ?_
        refine gs (fun t => iremM X0 hx (g := (mkF m 81 #[jv p0, .second, jv R1, .second, jv R2, .second, jv p3, .second, iv p4, iv pp, iv (oI fl), iv mb, iv dr, .unset, .unset, .unset, .unset, .unset, .unset, .unset, .unset, .unset, .unset, .unset, .unset, .unset, .unset, .unset] [(.int (3 : Int32)), (.int (((p4.toUInt32 >>> ((12 : Int32) &&& 31).toUInt32).toInt32) &&& (3 : Int32)))])) rfl (hb hby at_81) rfl (by decide)) ?_
        show Go p e below s QQ room_1.cells room_1.slots (s₁.setTop (mkF m 82 #[jv p0, .second, jv R1, .second, jv R2, .second, jv p3, .second, iv p4, iv pp, iv (oI fl), iv mb, iv dr, .unset, .unset, .unset, .unset, .unset, .unset, .unset, .unset, .unset, .unset, .unset, .unset, .unset, .unset, .unset] [(.int ((((p4.toUInt32 >>> ((12 : Int32) &&& 31).toUInt32).toInt32) &&& (3 : Int32)) % (3 : Int32)))]))
        generalize hrg : ((((p4.toUInt32 >>> ((12 : Int32) &&& 31).toUInt32).toInt32) &&& (3 : Int32)) % (3 : Int32)) = rg
        show Go p e below s QQ room_1.cells room_1.slots (s₁.setTop (mkF m 82 #[jv p0, .second, jv R1, .second, jv R2, .second, jv p3, .second, iv p4, iv pp, iv (oI fl), iv mb, iv dr, .unset, .unset, .unset, .unset, .unset, .unset, .unset, .unset, .unset, .unset, .unset, .unset, .unset, .unset, .unset] [(.int rg)]))
        obtain ⟨rq, hrq, rfl⟩ := own_rg p4 hrg
        clear hrg
        show Go p e below s QQ room_1.cells room_1.slots (s₁.setTop (mkF m 82 #[jv p0, .second, jv R1, .second, jv R2, .second, jv p3, .second, iv p4, iv pp, iv (oI fl), iv mb, iv dr, .unset, .unset, .unset, .unset, .unset, .unset, .unset, .unset, .unset, .unset, .unset, .unset, .unset, .unset, .unset] [(.int (oI rq))]))
        refine gs (fun t => XS.istore X0.here hx rfl (hb hby at_82) rfl (l' := #[jv p0, .second, jv R1, .second, jv R2, .second, jv p3, .second, iv p4, iv pp, iv (oI fl), iv mb, iv dr, iv (oI rq), .unset, .unset, .unset, .unset, .unset, .unset, .unset, .unset, .unset, .unset, .unset, .unset, .unset, .unset]) rfl) ?_
        have kp : ∀ (k0 : Int32) (ka : Int32) (kb : Int32) (k1 : Int32) (k2 : Int32) (hk01 : k0 ≠ k1) (hk02 : k0 ≠ k2) (hk12 : k1 ≠ k2), Go p e below s QQ room_1.cells room_1.slots (s₁.setTop (mkF m 147 #[jv p0, .second, jv R1, .second, jv R2, .second, jv p3, .second, iv p4, iv pp, iv (oI fl), iv mb, iv dr, iv (oI rq), iv k0, iv ka, iv kb, iv k1, iv k2, .unset, .unset, .unset, .unset, .unset, .unset, .unset, .unset, .unset] [])) := by
          intro k0 ka kb k1 k2 hk01 hk02 hk12
          refine gs (fun t => XS.iconst X0.here hx rfl (hb hby at_147)) ?_
          obtain ⟨T162, h162, k162, X162, e162, E162, A162, st162⟩ := newP X0 hx hZ (hw _ (List.mem_of_getElem? (i := 0) rfl)) e0 (g := (mkF m 148 #[jv p0, .second, jv R1, .second, jv R2, .second, jv p3, .second, iv p4, iv pp, iv (oI fl), iv mb, iv dr, iv (oI rq), iv k0, iv ka, iv kb, iv k1, iv k2, .unset, .unset, .unset, .unset, .unset, .unset, .unset, .unset, .unset] [(.int (3 : Int32))])) rfl (hb hby at_148) rfl (by decide) (cap := 3) (by decide) (by decide) (by decide) (by decide)
          obtain ⟨b162, g162⟩ : ∃ z, z = h0.size := ⟨_, rfl⟩
          rw [← g162] at A162 st162
          have ge_b162 : n0 ≤ b162 := by rw [g162]; exact ZZ
          refine gs st162 ?_
          show Go p e below s QQ room_1.cells room_1.slots (T162.setTop (mkF m 150 #[jv p0, .second, jv R1, .second, jv R2, .second, jv p3, .second, iv p4, iv pp, iv (oI fl), iv mb, iv dr, iv (oI rq), iv k0, iv ka, iv kb, iv k1, iv k2, .unset, .unset, .unset, .unset, .unset, .unset, .unset, .unset, .unset] [(.ref b162)]))
          replace ZZ := Nat.le_trans ZZ E162.1
          have V_b162 : Arf Z h162 b162 .long 3 (fun _ => .long 0) := Arf.new A162
          refine gs (fun t => XS.dup X162.here hx rfl (hb hby at_150) rfl rfl) ?_
          refine gs (fun t => XS.iconst X162.here hx rfl (hb hby at_151)) ?_
          refine gs (fun t => XS.lload X162.here hx rfl (hb hby at_152) rfl) ?_
          refine gs (fun t => XS.iload X162.here hx rfl (hb hby at_154) rfl) ?_
          refine gs (fun t => XS.i2l X162.here hx rfl (hb hby at_156) rfl) ?_
          refine gs (fun t => XS.ladd X162.here hx rfl (hb hby at_157) rfl) ?_
          show Go p e below s QQ room_1.cells room_1.slots (T162.setTop (mkF m 158 #[jv p0, .second, jv R1, .second, jv R2, .second, jv p3, .second, iv p4, iv pp, iv (oI fl), iv mb, iv dr, iv (oI rq), iv k0, iv ka, iv kb, iv k1, iv k2, .unset, .unset, .unset, .unset, .unset, .unset, .unset, .unset, .unset] [(.long (p3 + (k0.toInt64))), (.int (0 : Int32)), (.ref b162), (.ref b162)]))
          generalize hS0 : (p3 + (k0.toInt64)) = S0
          show Go p e below s QQ room_1.cells room_1.slots (T162.setTop (mkF m 158 #[jv p0, .second, jv R1, .second, jv R2, .second, jv p3, .second, iv p4, iv pp, iv (oI fl), iv mb, iv dr, iv (oI rq), iv k0, iv ka, iv kb, iv k1, iv k2, .unset, .unset, .unset, .unset, .unset, .unset, .unset, .unset, .unset] [(.long S0), (.int (0 : Int32)), (.ref b162), (.ref b162)]))
          obtain ⟨T163, h163, X163, e163, W163, V163, st163⟩ := stJf X162 hx hZ e162 V_b162 (j := (0 : Int32)) (by decide) (g := (mkF m 158 #[jv p0, .second, jv R1, .second, jv R2, .second, jv p3, .second, iv p4, iv pp, iv (oI fl), iv mb, iv dr, iv (oI rq), iv k0, iv ka, iv kb, iv k1, iv k2, .unset, .unset, .unset, .unset, .unset, .unset, .unset, .unset, .unset] [(.long S0), (.int (0 : Int32)), (.ref b162), (.ref b162)])) rfl rfl (hb hby at_158)
          replace N0 := Fr.snoc X163 N0 ge_b162
          refine gs st163 ?_
          show Go p e below s QQ room_1.cells room_1.slots (T163.setTop (mkF m 159 #[jv p0, .second, jv R1, .second, jv R2, .second, jv p3, .second, iv p4, iv pp, iv (oI fl), iv mb, iv dr, iv (oI rq), iv k0, iv ka, iv kb, iv k1, iv k2, .unset, .unset, .unset, .unset, .unset, .unset, .unset, .unset, .unset] [(.ref b162)]))
          replace ZZ : n0 ≤ h163.size := by rw [W163.size]; exact ZZ
          replace V_b162 : Arf Z h163 b162 .long 3 (updv (fun _ => .long 0) 0 (.long S0)) := V163
          refine gs (fun t => XS.dup X163.here hx rfl (hb hby at_159) rfl rfl) ?_
          refine gs (fun t => XS.iconst X163.here hx rfl (hb hby at_160)) ?_
          refine gs (fun t => XS.lload X163.here hx rfl (hb hby at_161) rfl) ?_
          refine gs (fun t => XS.iload X163.here hx rfl (hb hby at_163) rfl) ?_
          refine gs (fun t => XS.i2l X163.here hx rfl (hb hby at_165) rfl) ?_
          refine gs (fun t => XS.ladd X163.here hx rfl (hb hby at_166) rfl) ?_
          show Go p e below s QQ room_1.cells room_1.slots (T163.setTop (mkF m 167 #[jv p0, .second, jv R1, .second, jv R2, .second, jv p3, .second, iv p4, iv pp, iv (oI fl), iv mb, iv dr, iv (oI rq), iv k0, iv ka, iv kb, iv k1, iv k2, .unset, .unset, .unset, .unset, .unset, .unset, .unset, .unset, .unset] [(.long (p3 + (k1.toInt64))), (.int (1 : Int32)), (.ref b162), (.ref b162)]))
          generalize hS1 : (p3 + (k1.toInt64)) = S1
          show Go p e below s QQ room_1.cells room_1.slots (T163.setTop (mkF m 167 #[jv p0, .second, jv R1, .second, jv R2, .second, jv p3, .second, iv p4, iv pp, iv (oI fl), iv mb, iv dr, iv (oI rq), iv k0, iv ka, iv kb, iv k1, iv k2, .unset, .unset, .unset, .unset, .unset, .unset, .unset, .unset, .unset] [(.long S1), (.int (1 : Int32)), (.ref b162), (.ref b162)]))
          obtain ⟨T164, h164, X164, e164, W164, V164, st164⟩ := stJf X163 hx hZ e163 V_b162 (j := (1 : Int32)) (by decide) (g := (mkF m 167 #[jv p0, .second, jv R1, .second, jv R2, .second, jv p3, .second, iv p4, iv pp, iv (oI fl), iv mb, iv dr, iv (oI rq), iv k0, iv ka, iv kb, iv k1, iv k2, .unset, .unset, .unset, .unset, .unset, .unset, .unset, .unset, .unset] [(.long S1), (.int (1 : Int32)), (.ref b162), (.ref b162)])) rfl rfl (hb hby at_167)
          replace N0 := Fr.snoc X164 N0 ge_b162
          refine gs st164 ?_
          show Go p e below s QQ room_1.cells room_1.slots (T164.setTop (mkF m 168 #[jv p0, .second, jv R1, .second, jv R2, .second, jv p3, .second, iv p4, iv pp, iv (oI fl), iv mb, iv dr, iv (oI rq), iv k0, iv ka, iv kb, iv k1, iv k2, .unset, .unset, .unset, .unset, .unset, .unset, .unset, .unset, .unset] [(.ref b162)]))
          replace ZZ : n0 ≤ h164.size := by rw [W164.size]; exact ZZ
          replace V_b162 : Arf Z h164 b162 .long 3 (updv (updv (fun _ => .long 0) 0 (.long S0)) 1 (.long S1)) := V164
          refine gs (fun t => XS.dup X164.here hx rfl (hb hby at_168) rfl rfl) ?_
          refine gs (fun t => XS.iconst X164.here hx rfl (hb hby at_169)) ?_
          refine gs (fun t => XS.lload X164.here hx rfl (hb hby at_170) rfl) ?_
          refine gs (fun t => XS.iload X164.here hx rfl (hb hby at_172) rfl) ?_
          refine gs (fun t => XS.i2l X164.here hx rfl (hb hby at_174) rfl) ?_
          refine gs (fun t => XS.ladd X164.here hx rfl (hb hby at_175) rfl) ?_
          show Go p e below s QQ room_1.cells room_1.slots (T164.setTop (mkF m 176 #[jv p0, .second, jv R1, .second, jv R2, .second, jv p3, .second, iv p4, iv pp, iv (oI fl), iv mb, iv dr, iv (oI rq), iv k0, iv ka, iv kb, iv k1, iv k2, .unset, .unset, .unset, .unset, .unset, .unset, .unset, .unset, .unset] [(.long (p3 + (k2.toInt64))), (.int (2 : Int32)), (.ref b162), (.ref b162)]))
          generalize hS2 : (p3 + (k2.toInt64)) = S2
          show Go p e below s QQ room_1.cells room_1.slots (T164.setTop (mkF m 176 #[jv p0, .second, jv R1, .second, jv R2, .second, jv p3, .second, iv p4, iv pp, iv (oI fl), iv mb, iv dr, iv (oI rq), iv k0, iv ka, iv kb, iv k1, iv k2, .unset, .unset, .unset, .unset, .unset, .unset, .unset, .unset, .unset] [(.long S2), (.int (2 : Int32)), (.ref b162), (.ref b162)]))
          obtain ⟨T165, h165, X165, e165, W165, V165, st165⟩ := stJf X164 hx hZ e164 V_b162 (j := (2 : Int32)) (by decide) (g := (mkF m 176 #[jv p0, .second, jv R1, .second, jv R2, .second, jv p3, .second, iv p4, iv pp, iv (oI fl), iv mb, iv dr, iv (oI rq), iv k0, iv ka, iv kb, iv k1, iv k2, .unset, .unset, .unset, .unset, .unset, .unset, .unset, .unset, .unset] [(.long S2), (.int (2 : Int32)), (.ref b162), (.ref b162)])) rfl rfl (hb hby at_176)
          replace N0 := Fr.snoc X165 N0 ge_b162
          refine gs st165 ?_
          show Go p e below s QQ room_1.cells room_1.slots (T165.setTop (mkF m 177 #[jv p0, .second, jv R1, .second, jv R2, .second, jv p3, .second, iv p4, iv pp, iv (oI fl), iv mb, iv dr, iv (oI rq), iv k0, iv ka, iv kb, iv k1, iv k2, .unset, .unset, .unset, .unset, .unset, .unset, .unset, .unset, .unset] [(.ref b162)]))
          replace ZZ : n0 ≤ h165.size := by rw [W165.size]; exact ZZ
          replace V_b162 : Arf Z h165 b162 .long 3 (updv (updv (updv (fun _ => .long 0) 0 (.long S0)) 1 (.long S1)) 2 (.long S2)) := V165
          have h01 : S0 ≠ S1 := by rw [← hS0, ← hS1]; exact own_seqne hk01
          have h02 : S0 ≠ S2 := by rw [← hS0, ← hS2]; exact own_seqne hk02
          have h12 : S1 ≠ S2 := by rw [← hS1, ← hS2]; exact own_seqne hk12
          have TT : own_T (own_vv fl (own_q3 S0 S1 S2) (own_q3 p0 R1 R2)) (own_q3 S0 S1 S2) := own_tot h01 h02 h12
          replace V_b162 : Arf Z h165 b162 .long 3 (fun i => .long ((own_q3 S0 S1 S2) i)) := V_b162.congr (fun i hi => by rcases own_3c hi with rfl | rfl | rfl <;> rfl)
          refine gs (fun t => XS.astore X165.here hx rfl (hb hby at_177) rfl rfl (l' := #[jv p0, .second, jv R1, .second, jv R2, .second, jv p3, .second, iv p4, iv pp, iv (oI fl), iv mb, iv dr, iv (oI rq), iv k0, iv ka, iv kb, iv k1, iv k2, rv b162, .unset, .unset, .unset, .unset, .unset, .unset, .unset, .unset]) rfl) ?_
          refine gs (fun t => XS.iconst X165.here hx rfl (hb hby at_179)) ?_
          obtain ⟨T166, h166, k166, X166, e166, E166, A166, st166⟩ := newP X165 hx hZ (hw _ (List.mem_of_getElem? (i := 0) rfl)) e165 (g := (mkF m 180 #[jv p0, .second, jv R1, .second, jv R2, .second, jv p3, .second, iv p4, iv pp, iv (oI fl), iv mb, iv dr, iv (oI rq), iv k0, iv ka, iv kb, iv k1, iv k2, rv b162, .unset, .unset, .unset, .unset, .unset, .unset, .unset, .unset] [(.int (3 : Int32))])) rfl (hb hby at_180) rfl (by decide) (cap := 3) (by decide) (by decide) (by decide) (by decide)
          obtain ⟨b166, g166⟩ : ∃ z, z = h165.size := ⟨_, rfl⟩
          rw [← g166] at A166 st166
          have ge_b166 : n0 ≤ b166 := by rw [g166]; exact ZZ
          have ne_b162_b166 : b162 ≠ b166 := by rw [g166]; exact Nat.ne_of_lt V_b162.lt
          refine gs st166 ?_
          show Go p e below s QQ room_1.cells room_1.slots (T166.setTop (mkF m 182 #[jv p0, .second, jv R1, .second, jv R2, .second, jv p3, .second, iv p4, iv pp, iv (oI fl), iv mb, iv dr, iv (oI rq), iv k0, iv ka, iv kb, iv k1, iv k2, rv b162, .unset, .unset, .unset, .unset, .unset, .unset, .unset, .unset] [(.ref b166)]))
          replace V_b162 := V_b162.ext E166
          replace ZZ := Nat.le_trans ZZ E166.1
          have V_b166 : Arf Z h166 b166 .long 3 (fun _ => .long 0) := Arf.new A166
          refine gs (fun t => XS.dup X166.here hx rfl (hb hby at_182) rfl rfl) ?_
          refine gs (fun t => XS.iconst X166.here hx rfl (hb hby at_183)) ?_
          refine gs (fun t => XS.lloadN X166.here hx rfl (hb hby at_184) rfl) ?_
          obtain ⟨T167, h167, X167, e167, W167, V167, st167⟩ := stJf X166 hx hZ e166 V_b166 (j := (0 : Int32)) (by decide) (g := (mkF m 185 #[jv p0, .second, jv R1, .second, jv R2, .second, jv p3, .second, iv p4, iv pp, iv (oI fl), iv mb, iv dr, iv (oI rq), iv k0, iv ka, iv kb, iv k1, iv k2, rv b162, .unset, .unset, .unset, .unset, .unset, .unset, .unset, .unset] [(.long p0), (.int (0 : Int32)), (.ref b166), (.ref b166)])) rfl rfl (hb hby at_185)
          replace N0 := Fr.snoc X167 N0 ge_b166
          refine gs st167 ?_
          show Go p e below s QQ room_1.cells room_1.slots (T167.setTop (mkF m 186 #[jv p0, .second, jv R1, .second, jv R2, .second, jv p3, .second, iv p4, iv pp, iv (oI fl), iv mb, iv dr, iv (oI rq), iv k0, iv ka, iv kb, iv k1, iv k2, rv b162, .unset, .unset, .unset, .unset, .unset, .unset, .unset, .unset] [(.ref b166)]))
          replace V_b162 := V_b162.other W167 ne_b162_b166
          replace ZZ : n0 ≤ h167.size := by rw [W167.size]; exact ZZ
          replace V_b166 : Arf Z h167 b166 .long 3 (updv (fun _ => .long 0) 0 (.long p0)) := V167
          refine gs (fun t => XS.dup X167.here hx rfl (hb hby at_186) rfl rfl) ?_
          refine gs (fun t => XS.iconst X167.here hx rfl (hb hby at_187)) ?_
          refine gs (fun t => XS.lloadN X167.here hx rfl (hb hby at_188) rfl) ?_
          obtain ⟨T168, h168, X168, e168, W168, V168, st168⟩ := stJf X167 hx hZ e167 V_b166 (j := (1 : Int32)) (by decide) (g := (mkF m 189 #[jv p0, .second, jv R1, .second, jv R2, .second, jv p3, .second, iv p4, iv pp, iv (oI fl), iv mb, iv dr, iv (oI rq), iv k0, iv ka, iv kb, iv k1, iv k2, rv b162, .unset, .unset, .unset, .unset, .unset, .unset, .unset, .unset] [(.long R1), (.int (1 : Int32)), (.ref b166), (.ref b166)])) rfl rfl (hb hby at_189)
          replace N0 := Fr.snoc X168 N0 ge_b166
          refine gs st168 ?_
          show Go p e below s QQ room_1.cells room_1.slots (T168.setTop (mkF m 190 #[jv p0, .second, jv R1, .second, jv R2, .second, jv p3, .second, iv p4, iv pp, iv (oI fl), iv mb, iv dr, iv (oI rq), iv k0, iv ka, iv kb, iv k1, iv k2, rv b162, .unset, .unset, .unset, .unset, .unset, .unset, .unset, .unset] [(.ref b166)]))
          replace V_b162 := V_b162.other W168 ne_b162_b166
          replace ZZ : n0 ≤ h168.size := by rw [W168.size]; exact ZZ
          replace V_b166 : Arf Z h168 b166 .long 3 (updv (updv (fun _ => .long 0) 0 (.long p0)) 1 (.long R1)) := V168
          refine gs (fun t => XS.dup X168.here hx rfl (hb hby at_190) rfl rfl) ?_
          refine gs (fun t => XS.iconst X168.here hx rfl (hb hby at_191)) ?_
          refine gs (fun t => XS.lload X168.here hx rfl (hb hby at_192) rfl) ?_
          obtain ⟨T169, h169, X169, e169, W169, V169, st169⟩ := stJf X168 hx hZ e168 V_b166 (j := (2 : Int32)) (by decide) (g := (mkF m 194 #[jv p0, .second, jv R1, .second, jv R2, .second, jv p3, .second, iv p4, iv pp, iv (oI fl), iv mb, iv dr, iv (oI rq), iv k0, iv ka, iv kb, iv k1, iv k2, rv b162, .unset, .unset, .unset, .unset, .unset, .unset, .unset, .unset] [(.long R2), (.int (2 : Int32)), (.ref b166), (.ref b166)])) rfl rfl (hb hby at_194)
          replace N0 := Fr.snoc X169 N0 ge_b166
          refine gs st169 ?_
          show Go p e below s QQ room_1.cells room_1.slots (T169.setTop (mkF m 195 #[jv p0, .second, jv R1, .second, jv R2, .second, jv p3, .second, iv p4, iv pp, iv (oI fl), iv mb, iv dr, iv (oI rq), iv k0, iv ka, iv kb, iv k1, iv k2, rv b162, .unset, .unset, .unset, .unset, .unset, .unset, .unset, .unset] [(.ref b166)]))
          replace V_b162 := V_b162.other W169 ne_b162_b166
          replace ZZ : n0 ≤ h169.size := by rw [W169.size]; exact ZZ
          replace V_b166 : Arf Z h169 b166 .long 3 (updv (updv (updv (fun _ => .long 0) 0 (.long p0)) 1 (.long R1)) 2 (.long R2)) := V169
          replace V_b166 : Arf Z h169 b166 .long 3 (fun i => .long ((own_q3 p0 R1 R2) i)) := V_b166.congr (fun i hi => by rcases own_3c hi with rfl | rfl | rfl <;> rfl)
          refine gs (fun t => XS.astore X169.here hx rfl (hb hby at_195) rfl rfl (l' := #[jv p0, .second, jv R1, .second, jv R2, .second, jv p3, .second, iv p4, iv pp, iv (oI fl), iv mb, iv dr, iv (oI rq), iv k0, iv ka, iv kb, iv k1, iv k2, rv b162, rv b166, .unset, .unset, .unset, .unset, .unset, .unset, .unset]) rfl) ?_
          refine gs (fun t => XS.iconst X169.here hx rfl (hb hby at_197)) ?_
          obtain ⟨T170, h170, k170, X170, e170, E170, A170, st170⟩ := newP X169 hx hZ (hw _ (List.mem_of_getElem? (i := 0) rfl)) e169 (g := (mkF m 198 #[jv p0, .second, jv R1, .second, jv R2, .second, jv p3, .second, iv p4, iv pp, iv (oI fl), iv mb, iv dr, iv (oI rq), iv k0, iv ka, iv kb, iv k1, iv k2, rv b162, rv b166, .unset, .unset, .unset, .unset, .unset, .unset, .unset] [(.int (3 : Int32))])) rfl (hb hby at_198) rfl (by decide) (cap := 3) (by decide) (by decide) (by decide) (by decide)
          obtain ⟨b170, g170⟩ : ∃ z, z = h169.size := ⟨_, rfl⟩
          rw [← g170] at A170 st170
          have ge_b170 : n0 ≤ b170 := by rw [g170]; exact ZZ
          have ne_b162_b170 : b162 ≠ b170 := by rw [g170]; exact Nat.ne_of_lt V_b162.lt
          have ne_b166_b170 : b166 ≠ b170 := by rw [g170]; exact Nat.ne_of_lt V_b166.lt
          refine gs st170 ?_
          show Go p e below s QQ room_1.cells room_1.slots (T170.setTop (mkF m 200 #[jv p0, .second, jv R1, .second, jv R2, .second, jv p3, .second, iv p4, iv pp, iv (oI fl), iv mb, iv dr, iv (oI rq), iv k0, iv ka, iv kb, iv k1, iv k2, rv b162, rv b166, .unset, .unset, .unset, .unset, .unset, .unset, .unset] [(.ref b170)]))
          replace V_b162 := V_b162.ext E170
          replace V_b166 := V_b166.ext E170
          replace ZZ := Nat.le_trans ZZ E170.1
          have V_b170 : Arf Z h170 b170 .long 3 (fun _ => .long 0) := Arf.new A170
          refine gs (fun t => XS.astore X170.here hx rfl (hb hby at_200) rfl rfl (l' := #[jv p0, .second, jv R1, .second, jv R2, .second, jv p3, .second, iv p4, iv pp, iv (oI fl), iv mb, iv dr, iv (oI rq), iv k0, iv ka, iv kb, iv k1, iv k2, rv b162, rv b166, rv b170, .unset, .unset, .unset, .unset, .unset, .unset]) rfl) ?_
          refine gs (fun t => XS.aload X170.here hx rfl (hb hby at_202) rfl rfl) ?_
          refine gs (fun t => XS.iconst X170.here hx rfl (hb hby at_204)) ?_
          refine gs (fun t => XS.iload X170.here hx rfl (hb hby at_205) rfl) ?_
          have kjv : ∀ (T171 : State) (h171 : Heap) (lc171 : List Loc) (X171 : Stand p l e room_1 s m #[(.long p0), (.long p1), (.long p2), (.long p3), (.int p4)] below meth c T171 lc171 3 9) (N171 : Fr n0 lc171) (e171 : T171.heap = h171) (ZZ : n0 ≤ h171.size) (V_b162 : Arf Z h171 b162 .long 3 (fun i => .long ((own_q3 S0 S1 S2) i))) (V_b166 : Arf Z h171 b166 .long 3 (fun i => .long ((own_q3 p0 R1 R2) i))) (V_b170 : Arf Z h171 b170 .long 3 (fun i => .long ((own_vv fl (own_q3 S0 S1 S2) (own_q3 p0 R1 R2)) i))), Go p e below s QQ room_1.cells room_1.slots (T171.setTop (mkF m 262 #[jv p0, .second, jv R1, .second, jv R2, .second, jv p3, .second, iv p4, iv pp, iv (oI fl), iv mb, iv dr, iv (oI rq), iv k0, iv ka, iv kb, iv k1, iv k2, rv b162, rv b166, rv b170, .unset, .unset, .unset, .unset, .unset, .unset] [])) := by
            intro  T171 h171 lc171 X171 N171 e171 ZZ V_b162 V_b166 V_b170 
            obtain ⟨T172, h172, X172, e172, E172, A172, D172, -, st172⟩ := newO X171 hx hZ hown (hw _ (List.mem_of_getElem? (i := 1) rfl)) (hw _ (List.mem_of_getElem? (i := 2) rfl)) (hw _ (List.mem_of_getElem? (i := 3) rfl)) e171 (g := (mkF m 262 #[jv p0, .second, jv R1, .second, jv R2, .second, jv p3, .second, iv p4, iv pp, iv (oI fl), iv mb, iv dr, iv (oI rq), iv k0, iv ka, iv kb, iv k1, iv k2, rv b162, rv b166, rv b170, .unset, .unset, .unset, .unset, .unset, .unset] [])) rfl (hb hby at_262) (by decide) (by decide)
            obtain ⟨b172, g172⟩ : ∃ z, z = h171.size := ⟨_, rfl⟩
            rw [← g172] at A172 D172 st172
            have ge_b172 : n0 ≤ b172 := by rw [g172]; exact ZZ
            have ne_b162_b172 : b162 ≠ b172 := by rw [g172]; exact Nat.ne_of_lt V_b162.lt
            have ne_b166_b172 : b166 ≠ b172 := by rw [g172]; exact Nat.ne_of_lt V_b166.lt
            have ne_b170_b172 : b170 ≠ b172 := by rw [g172]; exact Nat.ne_of_lt V_b170.lt
            refine gs st172 ?_
            show Go p e below s QQ room_1.cells room_1.slots (T172.setTop (mkF m 265 #[jv p0, .second, jv R1, .second, jv R2, .second, jv p3, .second, iv p4, iv pp, iv (oI fl), iv mb, iv dr, iv (oI rq), iv k0, iv ka, iv kb, iv k1, iv k2, rv b162, rv b166, rv b170, .unset, .unset, .unset, .unset, .unset, .unset] [(.ref b172)]))
            replace V_b162 := V_b162.ext E172
            replace V_b166 := V_b166.ext E172
            replace V_b170 := V_b170.ext E172
            replace ZZ := Nat.le_trans ZZ E172.1
            have Ex_b172 := A172
            have F_pages_b172 : Fld Z h172 b172 "com/example/interval/interval/service/SlotTable" "pages" "[[J" .null := D172 (Or.inl (hw _ (List.mem_of_getElem? (i := 14) rfl))) (ty := (.array (.array .long))) (by decide)
            have F_size_b172 : Fld Z h172 b172 "com/example/interval/interval/service/SlotTable" "size" "I" (.int (0 : Int32)) := D172 (Or.inl (hw _ (List.mem_of_getElem? (i := 22) rfl))) (ty := .int) (by decide)
            refine gs (fun t => XS.dup X172.here hx rfl (hb hby at_265) rfl rfl) ?_
            have ZZm173 := ZZ
            have lt173_b162 := V_b162.lt
            have lt173_b166 := V_b166.lt
            have lt173_b170 := V_b170.lt
            have lt173_b172 := Ex_b172.lt
            obtain ⟨_, _, ⟨T174, L174, k174, n174⟩, -, X174, ⟨Lc174, hQ174, l174, y174, z174⟩, st174⟩ := X172.specialBack hx (y := (⟨"com/example/interval/interval/service/SlotTable", "<init>", "()V"⟩ : MethodName)) rfl hown (mvT hZ (hw _ (List.mem_of_getElem? (i := 4) rfl))) (mvT hZ (hw _ (List.mem_of_getElem? (i := 5) rfl))) (mvT hZ (hw _ (List.mem_of_getElem? (i := 6) rfl))) (by decide) (backOf (W := 1) (rm1 l Z a0 hw [] b172 h172 n0 ZZ F_pages_b172 F_size_b172 Ex_b172 ge_b172) hZ (hw _ (List.mem_of_getElem? (i := 6) rfl)) (hw _ (List.mem_of_getElem? (i := 3) rfl)) (by decide) (by decide)) (g := (mkF m 266 #[jv p0, .second, jv R1, .second, jv R2, .second, jv p3, .second, iv p4, iv pp, iv (oI fl), iv mb, iv dr, iv (oI rq), iv k0, iv ka, iv kb, iv k1, iv k2, rv b162, rv b166, rv b170, .unset, .unset, .unset, .unset, .unset, .unset] [(.ref b172), (.ref b172)])) rfl (by rw [hml]; rfl) (Steps.refl _) (a := b172) (argsL := []) (rest := [(.ref b172)]) (lenOf pd_8 rfl) rfl (by show 2 * 0 + _ ≤ _; exact Nat.le_of_eq rfl) (hb hby at_266) (fun _ _ => ⟨rfl, e172, (by decide : 4 + 2 ≤ _), (by decide : 11 + 41 ≤ _)⟩)
            dsimp only [Pt.U, Pt.locs, Pt.cells, Pt.slots] at X174 l174 y174 z174 st174 hQ174
            subst l174 y174 z174
            obtain ⟨pg, pa, rfl, N174q, K174, Fp, Fs, V_pg, V_pa, gpg, gpa, ngp⟩ := hQ174
            replace N171 := Fr.app N171 N174q
            refine gt st174 ?_
            show Go p e below s QQ room_1.cells room_1.slots (T174.setTop (mkF m 269 #[jv p0, .second, jv R1, .second, jv R2, .second, jv p3, .second, iv p4, iv pp, iv (oI fl), iv mb, iv dr, iv (oI rq), iv k0, iv ka, iv kb, iv k1, iv k2, rv b162, rv b166, rv b170, .unset, .unset, .unset, .unset, .unset, .unset] [(.ref b172)]))
            replace V_b162 := V_b162.keep K174 (ninS ne_b162_b172 nin0)
            replace V_b166 := V_b166.keep K174 (ninS ne_b166_b172 nin0)
            replace V_b170 := V_b170.keep K174 (ninS ne_b170_b172 nin0)
            replace Ex_b172 := Ex_b172.keep K174
            replace ZZ := Nat.le_trans ZZ K174.1
            have ne_b162_pg : b162 ≠ pg := Nat.ne_of_lt (Nat.lt_of_lt_of_le lt173_b162 gpg)
            have ne_b166_pg : b166 ≠ pg := Nat.ne_of_lt (Nat.lt_of_lt_of_le lt173_b166 gpg)
            have ne_b170_pg : b170 ≠ pg := Nat.ne_of_lt (Nat.lt_of_lt_of_le lt173_b170 gpg)
            have ne_b172_pg : b172 ≠ pg := Nat.ne_of_lt (Nat.lt_of_lt_of_le lt173_b172 gpg)
            have ge_pg : n0 ≤ pg := Nat.le_trans ZZm173 gpg
            have ne_b162_pa : b162 ≠ pa := Nat.ne_of_lt (Nat.lt_of_lt_of_le lt173_b162 gpa)
            have ne_b166_pa : b166 ≠ pa := Nat.ne_of_lt (Nat.lt_of_lt_of_le lt173_b166 gpa)
            have ne_b170_pa : b170 ≠ pa := Nat.ne_of_lt (Nat.lt_of_lt_of_le lt173_b170 gpa)
            have ne_b172_pa : b172 ≠ pa := Nat.ne_of_lt (Nat.lt_of_lt_of_le lt173_b172 gpa)
            have ge_pa : n0 ≤ pa := Nat.le_trans ZZm173 gpa
            refine gs (fun t => XS.astore X174.here hx rfl (hb hby at_269) rfl rfl (l' := #[jv p0, .second, jv R1, .second, jv R2, .second, jv p3, .second, iv p4, iv pp, iv (oI fl), iv mb, iv dr, iv (oI rq), iv k0, iv ka, iv kb, iv k1, iv k2, rv b162, rv b166, rv b170, rv b172, .unset, .unset, .unset, .unset, .unset]) rfl) ?_
            refine gs (fun t => XS.iconst X174.here hx rfl (hb hby at_271)) ?_
            obtain ⟨T175, h175, k175, X175, e175, E175, A175, st175⟩ := newP X174 hx hZ (hw _ (List.mem_of_getElem? (i := 15) rfl)) rfl (g := (mkF m 272 #[jv p0, .second, jv R1, .second, jv R2, .second, jv p3, .second, iv p4, iv pp, iv (oI fl), iv mb, iv dr, iv (oI rq), iv k0, iv ka, iv kb, iv k1, iv k2, rv b162, rv b166, rv b170, rv b172, .unset, .unset, .unset, .unset, .unset] [(.int (3 : Int32))])) rfl (hb hby at_272) rfl (by decide) (cap := 3) (by decide) (by decide) (by decide) (by decide)
            obtain ⟨b175, g175⟩ : ∃ z, z = T174.heap.size := ⟨_, rfl⟩
            rw [← g175] at A175 st175
            have ge_b175 : n0 ≤ b175 := by rw [g175]; exact ZZ
            have ne_b162_b175 : b162 ≠ b175 := by rw [g175]; exact Nat.ne_of_lt V_b162.lt
            have ne_b166_b175 : b166 ≠ b175 := by rw [g175]; exact Nat.ne_of_lt V_b166.lt
            have ne_b170_b175 : b170 ≠ b175 := by rw [g175]; exact Nat.ne_of_lt V_b170.lt
            have ne_b172_b175 : b172 ≠ b175 := by rw [g175]; exact Nat.ne_of_lt Ex_b172.lt
            have ne_pg_b175 : pg ≠ b175 := by rw [g175]; exact Nat.ne_of_lt V_pg.lt
            have ne_pa_b175 : pa ≠ b175 := by rw [g175]; exact Nat.ne_of_lt V_pa.lt
            refine gs st175 ?_
            show Go p e below s QQ room_1.cells room_1.slots (T175.setTop (mkF m 274 #[jv p0, .second, jv R1, .second, jv R2, .second, jv p3, .second, iv p4, iv pp, iv (oI fl), iv mb, iv dr, iv (oI rq), iv k0, iv ka, iv kb, iv k1, iv k2, rv b162, rv b166, rv b170, rv b172, .unset, .unset, .unset, .unset, .unset] [(.ref b175)]))
            replace V_b162 := V_b162.ext E175
            replace V_b166 := V_b166.ext E175
            replace V_b170 := V_b170.ext E175
            replace Ex_b172 := Ex_b172.ext E175
            replace Fp := Fp.ext E175
            replace Fs := Fs.ext E175
            replace V_pg := V_pg.ext E175
            replace V_pa := V_pa.ext E175
            replace ZZ := Nat.le_trans ZZ E175.1
            have V_b175 : Arf Z h175 b175 .int 3 (fun _ => .int 0) := Arf.new A175
            refine gs (fun t => XS.astore X175.here hx rfl (hb hby at_274) rfl rfl (l' := #[jv p0, .second, jv R1, .second, jv R2, .second, jv p3, .second, iv p4, iv pp, iv (oI fl), iv mb, iv dr, iv (oI rq), iv k0, iv ka, iv kb, iv k1, iv k2, rv b162, rv b166, rv b170, rv b172, rv b175, .unset, .unset, .unset, .unset]) rfl) ?_
            refine gs (fun t => XS.aload X175.here hx rfl (hb hby at_276) rfl rfl) ?_
            refine gs (fun t => XS.iconst X175.here hx rfl (hb hby at_278)) ?_
            refine gs (fun t => XS.aload X175.here hx rfl (hb hby at_279) rfl rfl) ?_
            refine gs (fun t => XS.aload X175.here hx rfl (hb hby at_281) rfl rfl) ?_
            refine gs (fun t => XS.iconst X175.here hx rfl (hb hby at_283)) ?_
            show Go p e below s QQ room_1.cells room_1.slots (T175.setTop (mkF m 284 #[jv p0, .second, jv R1, .second, jv R2, .second, jv p3, .second, iv p4, iv pp, iv (oI fl), iv mb, iv dr, iv (oI rq), iv k0, iv ka, iv kb, iv k1, iv k2, rv b162, rv b166, rv b170, rv b172, rv b175, .unset, .unset, .unset, .unset] [(.int (0 : Int32)), (.ref b162), (.ref b172), (.int (0 : Int32)), (.ref b175)]))
            refine gs (fun t => ldJf X175 hx hZ e175 V_b162 (j := (0 : Int32)) (v := (.long S0)) (by decide) rfl (g := (mkF m 284 #[jv p0, .second, jv R1, .second, jv R2, .second, jv p3, .second, iv p4, iv pp, iv (oI fl), iv mb, iv dr, iv (oI rq), iv k0, iv ka, iv kb, iv k1, iv k2, rv b162, rv b166, rv b170, rv b172, rv b175, .unset, .unset, .unset, .unset] [(.int (0 : Int32)), (.ref b162), (.ref b172), (.int (0 : Int32)), (.ref b175)])) rfl rfl (hb hby at_284) t) ?_
            refine gs (fun t => XS.aload X175.here hx rfl (hb hby at_285) rfl rfl) ?_
            refine gs (fun t => XS.iconst X175.here hx rfl (hb hby at_287)) ?_
            refine gs (fun t => ldJf X175 hx hZ e175 V_b166 (j := (0 : Int32)) (v := (.long p0)) (by decide) rfl (g := (mkF m 288 #[jv p0, .second, jv R1, .second, jv R2, .second, jv p3, .second, iv p4, iv pp, iv (oI fl), iv mb, iv dr, iv (oI rq), iv k0, iv ka, iv kb, iv k1, iv k2, rv b162, rv b166, rv b170, rv b172, rv b175, .unset, .unset, .unset, .unset] [(.int (0 : Int32)), (.ref b166), (.long S0), (.ref b172), (.int (0 : Int32)), (.ref b175)])) rfl rfl (hb hby at_288) t) ?_
            refine gs (fun t => XS.aload X175.here hx rfl (hb hby at_289) rfl rfl) ?_
            refine gs (fun t => XS.iconst X175.here hx rfl (hb hby at_291)) ?_
            show Go p e below s QQ room_1.cells room_1.slots (T175.setTop (mkF m 292 #[jv p0, .second, jv R1, .second, jv R2, .second, jv p3, .second, iv p4, iv pp, iv (oI fl), iv mb, iv dr, iv (oI rq), iv k0, iv ka, iv kb, iv k1, iv k2, rv b162, rv b166, rv b170, rv b172, rv b175, .unset, .unset, .unset, .unset] [(.int (0 : Int32)), (.ref b166), (.long p0), (.long S0), (.ref b172), (.int (0 : Int32)), (.ref b175)]))
            refine gs (fun t => ldJf X175 hx hZ e175 V_b166 (j := (0 : Int32)) (v := (.long p0)) (by decide) rfl (g := (mkF m 292 #[jv p0, .second, jv R1, .second, jv R2, .second, jv p3, .second, iv p4, iv pp, iv (oI fl), iv mb, iv dr, iv (oI rq), iv k0, iv ka, iv kb, iv k1, iv k2, rv b162, rv b166, rv b170, rv b172, rv b175, .unset, .unset, .unset, .unset] [(.int (0 : Int32)), (.ref b166), (.long p0), (.long S0), (.ref b172), (.int (0 : Int32)), (.ref b175)])) rfl rfl (hb hby at_292) t) ?_
            refine gs (fun t => XS.aload X175.here hx rfl (hb hby at_293) rfl rfl) ?_
            refine gs (fun t => XS.iconst X175.here hx rfl (hb hby at_295)) ?_
            refine gs (fun t => ldJf X175 hx hZ e175 V_b166 (j := (0 : Int32)) (v := (.long p0)) (by decide) rfl (g := (mkF m 296 #[jv p0, .second, jv R1, .second, jv R2, .second, jv p3, .second, iv p4, iv pp, iv (oI fl), iv mb, iv dr, iv (oI rq), iv k0, iv ka, iv kb, iv k1, iv k2, rv b162, rv b166, rv b170, rv b172, rv b175, .unset, .unset, .unset, .unset] [(.int (0 : Int32)), (.ref b166), (.long p0), (.long p0), (.long S0), (.ref b172), (.int (0 : Int32)), (.ref b175)])) rfl rfl (hb hby at_296) t) ?_
            refine gs (fun t => XS.aload X175.here hx rfl (hb hby at_297) rfl rfl) ?_
            refine gs (fun t => XS.iconst X175.here hx rfl (hb hby at_299)) ?_
            show Go p e below s QQ room_1.cells room_1.slots (T175.setTop (mkF m 300 #[jv p0, .second, jv R1, .second, jv R2, .second, jv p3, .second, iv p4, iv pp, iv (oI fl), iv mb, iv dr, iv (oI rq), iv k0, iv ka, iv kb, iv k1, iv k2, rv b162, rv b166, rv b170, rv b172, rv b175, .unset, .unset, .unset, .unset] [(.int (0 : Int32)), (.ref b166), (.long p0), (.long p0), (.long p0), (.long S0), (.ref b172), (.int (0 : Int32)), (.ref b175)]))
            refine gs (fun t => ldJf X175 hx hZ e175 V_b166 (j := (0 : Int32)) (v := (.long p0)) (by decide) rfl (g := (mkF m 300 #[jv p0, .second, jv R1, .second, jv R2, .second, jv p3, .second, iv p4, iv pp, iv (oI fl), iv mb, iv dr, iv (oI rq), iv k0, iv ka, iv kb, iv k1, iv k2, rv b162, rv b166, rv b170, rv b172, rv b175, .unset, .unset, .unset, .unset] [(.int (0 : Int32)), (.ref b166), (.long p0), (.long p0), (.long p0), (.long S0), (.ref b172), (.int (0 : Int32)), (.ref b175)])) rfl rfl (hb hby at_300) t) ?_
            obtain ⟨cq176, kq176, q176a, q176b, q176c⟩ := isOf hZ e175 Ex_b172
            obtain ⟨_, _, ⟨T176, L176, k176, n176⟩, -, X176, ⟨Lc176, hQ176, l176, y176, z176⟩, st176⟩ := X175.virtualBack hx (y := (⟨"com/example/interval/interval/service/SlotTable", "add", "(JJJJJ)I"⟩ : MethodName)) (z := (⟨"com/example/interval/interval/service/SlotTable", "add", "(JJJJJ)I"⟩ : MethodName)) hown (mvT hZ (hw _ (List.mem_of_getElem? (i := 16) rfl))) (mvT hZ (hw _ (List.mem_of_getElem? (i := 17) rfl))) (notFace_of_selects (args := #[]) (mvT hZ (hw _ (List.mem_of_getElem? (i := 19) rfl)))) (mvT hZ (hw _ (List.mem_of_getElem? (i := 19) rfl))) (mvT hZ (hw _ (List.mem_of_getElem? (i := 18) rfl))) (by decide) (backOf (W := 2) (rm3 l Z a0 hw [] b172 S0 p0 p0 p0 p0 0 pg pa (updv (fun _ => .null) 0 (.ref pa)) (fun _ => .long 0) h175 n0 ZZ Fp Fs Ex_b172 V_pg rfl V_pa ge_b172 ge_pa ne_b172_pg ne_b172_pa ngp (by decide)) hZ (hw _ (List.mem_of_getElem? (i := 20) rfl)) (hw _ (List.mem_of_getElem? (i := 3) rfl)) (by decide) (by decide)) q176a q176c (g := (mkF m 301 #[jv p0, .second, jv R1, .second, jv R2, .second, jv p3, .second, iv p4, iv pp, iv (oI fl), iv mb, iv dr, iv (oI rq), iv k0, iv ka, iv kb, iv k1, iv k2, rv b162, rv b166, rv b170, rv b172, rv b175, .unset, .unset, .unset, .unset] [(.long p0), (.long p0), (.long p0), (.long p0), (.long S0), (.ref b172), (.int (0 : Int32)), (.ref b175)])) rfl (by rw [hml]; rfl) (Steps.refl _) (argsL := [(.long S0), (.long p0), (.long p0), (.long p0), (.long p0)]) (rest := [(.int (0 : Int32)), (.ref b175)]) (lenOf pd_9 rfl) rfl (by show 2 * 0 + _ ≤ _; exact Nat.le_of_eq rfl) (hb hby at_301) (fun _ _ => ⟨rfl, e175, (by decide : 7 + 0 ≤ _), (by decide : 55 + 0 ≤ _)⟩)
            dsimp only [Pt.U, Pt.locs, Pt.cells, Pt.slots] at X176 l176 y176 z176 st176 hQ176
            subst l176 y176 z176
            obtain ⟨rfl, N176q, K176, Fpn176, Fsn176, Vn176⟩ := hQ176
            replace N171 := Fr.app N171 N176q
            refine gt st176 ?_
            show Go p e below s QQ room_1.cells room_1.slots (T176.setTop (mkF m 304 #[jv p0, .second, jv R1, .second, jv R2, .second, jv p3, .second, iv p4, iv pp, iv (oI fl), iv mb, iv dr, iv (oI rq), iv k0, iv ka, iv kb, iv k1, iv k2, rv b162, rv b166, rv b170, rv b172, rv b175, .unset, .unset, .unset, .unset] [(.int (oI 0)), (.int (0 : Int32)), (.ref b175)]))
            replace V_b162 := V_b162.keep K176 (ninS ne_b162_b172 (ninS ne_b162_pa nin0))
            replace V_b166 := V_b166.keep K176 (ninS ne_b166_b172 (ninS ne_b166_pa nin0))
            replace V_b170 := V_b170.keep K176 (ninS ne_b170_b172 (ninS ne_b170_pa nin0))
            replace Ex_b172 := Ex_b172.keep K176
            replace V_pg := V_pg.keep K176 (ninS (Ne.symm ne_b172_pg) (ninS ngp nin0))
            replace V_b175 := V_b175.keep K176 (ninS (Ne.symm ne_b172_b175) (ninS (Ne.symm ne_pa_b175) nin0))
            replace ZZ := Nat.le_trans ZZ K176.1
            have Fp := Fpn176
            have Fs := Fsn176
            have V_pa := Vn176
            obtain ⟨T177, h177, X177, e177, W177, V177, st177⟩ := stIf X176 hx hZ rfl V_b175 (j := (0 : Int32)) (by decide) (g := (mkF m 304 #[jv p0, .second, jv R1, .second, jv R2, .second, jv p3, .second, iv p4, iv pp, iv (oI fl), iv mb, iv dr, iv (oI rq), iv k0, iv ka, iv kb, iv k1, iv k2, rv b162, rv b166, rv b170, rv b172, rv b175, .unset, .unset, .unset, .unset] [(.int (oI 0)), (.int (0 : Int32)), (.ref b175)])) rfl rfl (hb hby at_304)
            replace N171 := Fr.snoc X177 N171 ge_b175
            refine gs st177 ?_
            show Go p e below s QQ room_1.cells room_1.slots (T177.setTop (mkF m 305 #[jv p0, .second, jv R1, .second, jv R2, .second, jv p3, .second, iv p4, iv pp, iv (oI fl), iv mb, iv dr, iv (oI rq), iv k0, iv ka, iv kb, iv k1, iv k2, rv b162, rv b166, rv b170, rv b172, rv b175, .unset, .unset, .unset, .unset] []))
            replace V_b162 := V_b162.other W177 ne_b162_b175
            replace V_b166 := V_b166.other W177 ne_b166_b175
            replace V_b170 := V_b170.other W177 ne_b170_b175
            replace Ex_b172 := Ex_b172.wr W177
            replace V_pg := V_pg.other W177 ne_pg_b175
            replace Fp := Fp.other W177 (Or.inl ne_b172_b175)
            replace Fs := Fs.other W177 (Or.inl ne_b172_b175)
            replace V_pa := V_pa.other W177 ne_pa_b175
            replace ZZ : n0 ≤ h177.size := by rw [W177.size]; exact ZZ
            replace V_b175 : Arf Z h177 b175 .int 3 (updv (fun _ => .int 0) 0 (.int (oI 0))) := V177
            refine gs (fun t => XS.aload X177.here hx rfl (hb hby at_305) rfl rfl) ?_
            refine gs (fun t => XS.iconst X177.here hx rfl (hb hby at_307)) ?_
            refine gs (fun t => XS.aload X177.here hx rfl (hb hby at_308) rfl rfl) ?_
            refine gs (fun t => XS.aload X177.here hx rfl (hb hby at_310) rfl rfl) ?_
            refine gs (fun t => XS.iconst X177.here hx rfl (hb hby at_312)) ?_
            refine gs (fun t => ldJf X177 hx hZ e177 V_b162 (j := (1 : Int32)) (v := (.long S1)) (by decide) rfl (g := (mkF m 313 #[jv p0, .second, jv R1, .second, jv R2, .second, jv p3, .second, iv p4, iv pp, iv (oI fl), iv mb, iv dr, iv (oI rq), iv k0, iv ka, iv kb, iv k1, iv k2, rv b162, rv b166, rv b170, rv b172, rv b175, .unset, .unset, .unset, .unset] [(.int (1 : Int32)), (.ref b162), (.ref b172), (.int (1 : Int32)), (.ref b175)])) rfl rfl (hb hby at_313) t) ?_
            show Go p e below s QQ room_1.cells room_1.slots (T177.setTop (mkF m 314 #[jv p0, .second, jv R1, .second, jv R2, .second, jv p3, .second, iv p4, iv pp, iv (oI fl), iv mb, iv dr, iv (oI rq), iv k0, iv ka, iv kb, iv k1, iv k2, rv b162, rv b166, rv b170, rv b172, rv b175, .unset, .unset, .unset, .unset] [(.long S1), (.ref b172), (.int (1 : Int32)), (.ref b175)]))
            refine gs (fun t => XS.aload X177.here hx rfl (hb hby at_314) rfl rfl) ?_
            refine gs (fun t => XS.iconst X177.here hx rfl (hb hby at_316)) ?_
            refine gs (fun t => ldJf X177 hx hZ e177 V_b166 (j := (1 : Int32)) (v := (.long R1)) (by decide) rfl (g := (mkF m 317 #[jv p0, .second, jv R1, .second, jv R2, .second, jv p3, .second, iv p4, iv pp, iv (oI fl), iv mb, iv dr, iv (oI rq), iv k0, iv ka, iv kb, iv k1, iv k2, rv b162, rv b166, rv b170, rv b172, rv b175, .unset, .unset, .unset, .unset] [(.int (1 : Int32)), (.ref b166), (.long S1), (.ref b172), (.int (1 : Int32)), (.ref b175)])) rfl rfl (hb hby at_317) t) ?_
            refine gs (fun t => XS.aload X177.here hx rfl (hb hby at_318) rfl rfl) ?_
            refine gs (fun t => XS.iconst X177.here hx rfl (hb hby at_320)) ?_
            refine gs (fun t => ldJf X177 hx hZ e177 V_b166 (j := (1 : Int32)) (v := (.long R1)) (by decide) rfl (g := (mkF m 321 #[jv p0, .second, jv R1, .second, jv R2, .second, jv p3, .second, iv p4, iv pp, iv (oI fl), iv mb, iv dr, iv (oI rq), iv k0, iv ka, iv kb, iv k1, iv k2, rv b162, rv b166, rv b170, rv b172, rv b175, .unset, .unset, .unset, .unset] [(.int (1 : Int32)), (.ref b166), (.long R1), (.long S1), (.ref b172), (.int (1 : Int32)), (.ref b175)])) rfl rfl (hb hby at_321) t) ?_
            show Go p e below s QQ room_1.cells room_1.slots (T177.setTop (mkF m 322 #[jv p0, .second, jv R1, .second, jv R2, .second, jv p3, .second, iv p4, iv pp, iv (oI fl), iv mb, iv dr, iv (oI rq), iv k0, iv ka, iv kb, iv k1, iv k2, rv b162, rv b166, rv b170, rv b172, rv b175, .unset, .unset, .unset, .unset] [(.long R1), (.long R1), (.long S1), (.ref b172), (.int (1 : Int32)), (.ref b175)]))
            refine gs (fun t => XS.aload X177.here hx rfl (hb hby at_322) rfl rfl) ?_
            refine gs (fun t => XS.iconst X177.here hx rfl (hb hby at_324)) ?_
            refine gs (fun t => ldJf X177 hx hZ e177 V_b166 (j := (1 : Int32)) (v := (.long R1)) (by decide) rfl (g := (mkF m 325 #[jv p0, .second, jv R1, .second, jv R2, .second, jv p3, .second, iv p4, iv pp, iv (oI fl), iv mb, iv dr, iv (oI rq), iv k0, iv ka, iv kb, iv k1, iv k2, rv b162, rv b166, rv b170, rv b172, rv b175, .unset, .unset, .unset, .unset] [(.int (1 : Int32)), (.ref b166), (.long R1), (.long R1), (.long S1), (.ref b172), (.int (1 : Int32)), (.ref b175)])) rfl rfl (hb hby at_325) t) ?_
            refine gs (fun t => XS.aload X177.here hx rfl (hb hby at_326) rfl rfl) ?_
            refine gs (fun t => XS.iconst X177.here hx rfl (hb hby at_328)) ?_
            refine gs (fun t => ldJf X177 hx hZ e177 V_b166 (j := (1 : Int32)) (v := (.long R1)) (by decide) rfl (g := (mkF m 329 #[jv p0, .second, jv R1, .second, jv R2, .second, jv p3, .second, iv p4, iv pp, iv (oI fl), iv mb, iv dr, iv (oI rq), iv k0, iv ka, iv kb, iv k1, iv k2, rv b162, rv b166, rv b170, rv b172, rv b175, .unset, .unset, .unset, .unset] [(.int (1 : Int32)), (.ref b166), (.long R1), (.long R1), (.long R1), (.long S1), (.ref b172), (.int (1 : Int32)), (.ref b175)])) rfl rfl (hb hby at_329) t) ?_
            show Go p e below s QQ room_1.cells room_1.slots (T177.setTop (mkF m 330 #[jv p0, .second, jv R1, .second, jv R2, .second, jv p3, .second, iv p4, iv pp, iv (oI fl), iv mb, iv dr, iv (oI rq), iv k0, iv ka, iv kb, iv k1, iv k2, rv b162, rv b166, rv b170, rv b172, rv b175, .unset, .unset, .unset, .unset] [(.long R1), (.long R1), (.long R1), (.long R1), (.long S1), (.ref b172), (.int (1 : Int32)), (.ref b175)]))
            obtain ⟨cq178, kq178, q178a, q178b, q178c⟩ := isOf hZ e177 Ex_b172
            obtain ⟨_, _, ⟨T178, L178, k178, n178⟩, -, X178, ⟨Lc178, hQ178, l178, y178, z178⟩, st178⟩ := X177.virtualBack hx (y := (⟨"com/example/interval/interval/service/SlotTable", "add", "(JJJJJ)I"⟩ : MethodName)) (z := (⟨"com/example/interval/interval/service/SlotTable", "add", "(JJJJJ)I"⟩ : MethodName)) hown (mvT hZ (hw _ (List.mem_of_getElem? (i := 16) rfl))) (mvT hZ (hw _ (List.mem_of_getElem? (i := 17) rfl))) (notFace_of_selects (args := #[]) (mvT hZ (hw _ (List.mem_of_getElem? (i := 19) rfl)))) (mvT hZ (hw _ (List.mem_of_getElem? (i := 19) rfl))) (mvT hZ (hw _ (List.mem_of_getElem? (i := 18) rfl))) (by decide) (backOf (W := 2) (rm3 l Z a0 hw [] b172 S1 R1 R1 R1 R1 (0 + 1) pg pa (updv (fun _ => .null) 0 (.ref pa)) (own_add (fun _ => .long 0) 0 S0 p0 p0 p0 p0) h177 n0 ZZ Fp Fs Ex_b172 V_pg rfl V_pa ge_b172 ge_pa ne_b172_pg ne_b172_pa ngp (by decide)) hZ (hw _ (List.mem_of_getElem? (i := 20) rfl)) (hw _ (List.mem_of_getElem? (i := 3) rfl)) (by decide) (by decide)) q178a q178c (g := (mkF m 330 #[jv p0, .second, jv R1, .second, jv R2, .second, jv p3, .second, iv p4, iv pp, iv (oI fl), iv mb, iv dr, iv (oI rq), iv k0, iv ka, iv kb, iv k1, iv k2, rv b162, rv b166, rv b170, rv b172, rv b175, .unset, .unset, .unset, .unset] [(.long R1), (.long R1), (.long R1), (.long R1), (.long S1), (.ref b172), (.int (1 : Int32)), (.ref b175)])) rfl (by rw [hml]; rfl) (Steps.refl _) (argsL := [(.long S1), (.long R1), (.long R1), (.long R1), (.long R1)]) (rest := [(.int (1 : Int32)), (.ref b175)]) (lenOf pd_9 rfl) rfl (by show 2 * 0 + _ ≤ _; exact Nat.le_of_eq rfl) (hb hby at_330) (fun _ _ => ⟨rfl, e177, (by decide : 7 + 0 ≤ _), (by decide : 55 + 0 ≤ _)⟩)
            dsimp only [Pt.U, Pt.locs, Pt.cells, Pt.slots] at X178 l178 y178 z178 st178 hQ178
            subst l178 y178 z178
            obtain ⟨rfl, N178q, K178, Fpn178, Fsn178, Vn178⟩ := hQ178
            replace N171 := Fr.app N171 N178q
            refine gt st178 ?_
            show Go p e below s QQ room_1.cells room_1.slots (T178.setTop (mkF m 333 #[jv p0, .second, jv R1, .second, jv R2, .second, jv p3, .second, iv p4, iv pp, iv (oI fl), iv mb, iv dr, iv (oI rq), iv k0, iv ka, iv kb, iv k1, iv k2, rv b162, rv b166, rv b170, rv b172, rv b175, .unset, .unset, .unset, .unset] [(.int (oI (0 + 1))), (.int (1 : Int32)), (.ref b175)]))
            replace V_b162 := V_b162.keep K178 (ninS ne_b162_b172 (ninS ne_b162_pa nin0))
            replace V_b166 := V_b166.keep K178 (ninS ne_b166_b172 (ninS ne_b166_pa nin0))
            replace V_b170 := V_b170.keep K178 (ninS ne_b170_b172 (ninS ne_b170_pa nin0))
            replace Ex_b172 := Ex_b172.keep K178
            replace V_pg := V_pg.keep K178 (ninS (Ne.symm ne_b172_pg) (ninS ngp nin0))
            replace V_b175 := V_b175.keep K178 (ninS (Ne.symm ne_b172_b175) (ninS (Ne.symm ne_pa_b175) nin0))
            replace ZZ := Nat.le_trans ZZ K178.1
            have Fp := Fpn178
            have Fs := Fsn178
            have V_pa := Vn178
            obtain ⟨T179, h179, X179, e179, W179, V179, st179⟩ := stIf X178 hx hZ rfl V_b175 (j := (1 : Int32)) (by decide) (g := (mkF m 333 #[jv p0, .second, jv R1, .second, jv R2, .second, jv p3, .second, iv p4, iv pp, iv (oI fl), iv mb, iv dr, iv (oI rq), iv k0, iv ka, iv kb, iv k1, iv k2, rv b162, rv b166, rv b170, rv b172, rv b175, .unset, .unset, .unset, .unset] [(.int (oI (0 + 1))), (.int (1 : Int32)), (.ref b175)])) rfl rfl (hb hby at_333)
            replace N171 := Fr.snoc X179 N171 ge_b175
            refine gs st179 ?_
            show Go p e below s QQ room_1.cells room_1.slots (T179.setTop (mkF m 334 #[jv p0, .second, jv R1, .second, jv R2, .second, jv p3, .second, iv p4, iv pp, iv (oI fl), iv mb, iv dr, iv (oI rq), iv k0, iv ka, iv kb, iv k1, iv k2, rv b162, rv b166, rv b170, rv b172, rv b175, .unset, .unset, .unset, .unset] []))
            replace V_b162 := V_b162.other W179 ne_b162_b175
            replace V_b166 := V_b166.other W179 ne_b166_b175
            replace V_b170 := V_b170.other W179 ne_b170_b175
            replace Ex_b172 := Ex_b172.wr W179
            replace V_pg := V_pg.other W179 ne_pg_b175
            replace Fp := Fp.other W179 (Or.inl ne_b172_b175)
            replace Fs := Fs.other W179 (Or.inl ne_b172_b175)
            replace V_pa := V_pa.other W179 ne_pa_b175
            replace ZZ : n0 ≤ h179.size := by rw [W179.size]; exact ZZ
            replace V_b175 : Arf Z h179 b175 .int 3 (updv (updv (fun _ => .int 0) 0 (.int (oI 0))) 1 (.int (oI (0 + 1)))) := V179
            refine gs (fun t => XS.aload X179.here hx rfl (hb hby at_334) rfl rfl) ?_
            refine gs (fun t => XS.iconst X179.here hx rfl (hb hby at_336)) ?_
            refine gs (fun t => XS.aload X179.here hx rfl (hb hby at_337) rfl rfl) ?_
            refine gs (fun t => XS.aload X179.here hx rfl (hb hby at_339) rfl rfl) ?_
            refine gs (fun t => XS.iconst X179.here hx rfl (hb hby at_341)) ?_
            refine gs (fun t => ldJf X179 hx hZ e179 V_b162 (j := (2 : Int32)) (v := (.long S2)) (by decide) rfl (g := (mkF m 342 #[jv p0, .second, jv R1, .second, jv R2, .second, jv p3, .second, iv p4, iv pp, iv (oI fl), iv mb, iv dr, iv (oI rq), iv k0, iv ka, iv kb, iv k1, iv k2, rv b162, rv b166, rv b170, rv b172, rv b175, .unset, .unset, .unset, .unset] [(.int (2 : Int32)), (.ref b162), (.ref b172), (.int (2 : Int32)), (.ref b175)])) rfl rfl (hb hby at_342) t) ?_
            show Go p e below s QQ room_1.cells room_1.slots (T179.setTop (mkF m 343 #[jv p0, .second, jv R1, .second, jv R2, .second, jv p3, .second, iv p4, iv pp, iv (oI fl), iv mb, iv dr, iv (oI rq), iv k0, iv ka, iv kb, iv k1, iv k2, rv b162, rv b166, rv b170, rv b172, rv b175, .unset, .unset, .unset, .unset] [(.long S2), (.ref b172), (.int (2 : Int32)), (.ref b175)]))
            refine gs (fun t => XS.aload X179.here hx rfl (hb hby at_343) rfl rfl) ?_
            refine gs (fun t => XS.iconst X179.here hx rfl (hb hby at_345)) ?_
            refine gs (fun t => ldJf X179 hx hZ e179 V_b166 (j := (2 : Int32)) (v := (.long R2)) (by decide) rfl (g := (mkF m 346 #[jv p0, .second, jv R1, .second, jv R2, .second, jv p3, .second, iv p4, iv pp, iv (oI fl), iv mb, iv dr, iv (oI rq), iv k0, iv ka, iv kb, iv k1, iv k2, rv b162, rv b166, rv b170, rv b172, rv b175, .unset, .unset, .unset, .unset] [(.int (2 : Int32)), (.ref b166), (.long S2), (.ref b172), (.int (2 : Int32)), (.ref b175)])) rfl rfl (hb hby at_346) t) ?_
            refine gs (fun t => XS.aload X179.here hx rfl (hb hby at_347) rfl rfl) ?_
            refine gs (fun t => XS.iconst X179.here hx rfl (hb hby at_349)) ?_
            refine gs (fun t => ldJf X179 hx hZ e179 V_b166 (j := (2 : Int32)) (v := (.long R2)) (by decide) rfl (g := (mkF m 350 #[jv p0, .second, jv R1, .second, jv R2, .second, jv p3, .second, iv p4, iv pp, iv (oI fl), iv mb, iv dr, iv (oI rq), iv k0, iv ka, iv kb, iv k1, iv k2, rv b162, rv b166, rv b170, rv b172, rv b175, .unset, .unset, .unset, .unset] [(.int (2 : Int32)), (.ref b166), (.long R2), (.long S2), (.ref b172), (.int (2 : Int32)), (.ref b175)])) rfl rfl (hb hby at_350) t) ?_
            show Go p e below s QQ room_1.cells room_1.slots (T179.setTop (mkF m 351 #[jv p0, .second, jv R1, .second, jv R2, .second, jv p3, .second, iv p4, iv pp, iv (oI fl), iv mb, iv dr, iv (oI rq), iv k0, iv ka, iv kb, iv k1, iv k2, rv b162, rv b166, rv b170, rv b172, rv b175, .unset, .unset, .unset, .unset] [(.long R2), (.long R2), (.long S2), (.ref b172), (.int (2 : Int32)), (.ref b175)]))
            refine gs (fun t => XS.aload X179.here hx rfl (hb hby at_351) rfl rfl) ?_
            refine gs (fun t => XS.iconst X179.here hx rfl (hb hby at_353)) ?_
            refine gs (fun t => ldJf X179 hx hZ e179 V_b166 (j := (2 : Int32)) (v := (.long R2)) (by decide) rfl (g := (mkF m 354 #[jv p0, .second, jv R1, .second, jv R2, .second, jv p3, .second, iv p4, iv pp, iv (oI fl), iv mb, iv dr, iv (oI rq), iv k0, iv ka, iv kb, iv k1, iv k2, rv b162, rv b166, rv b170, rv b172, rv b175, .unset, .unset, .unset, .unset] [(.int (2 : Int32)), (.ref b166), (.long R2), (.long R2), (.long S2), (.ref b172), (.int (2 : Int32)), (.ref b175)])) rfl rfl (hb hby at_354) t) ?_
            refine gs (fun t => XS.aload X179.here hx rfl (hb hby at_355) rfl rfl) ?_
            refine gs (fun t => XS.iconst X179.here hx rfl (hb hby at_357)) ?_
            refine gs (fun t => ldJf X179 hx hZ e179 V_b166 (j := (2 : Int32)) (v := (.long R2)) (by decide) rfl (g := (mkF m 358 #[jv p0, .second, jv R1, .second, jv R2, .second, jv p3, .second, iv p4, iv pp, iv (oI fl), iv mb, iv dr, iv (oI rq), iv k0, iv ka, iv kb, iv k1, iv k2, rv b162, rv b166, rv b170, rv b172, rv b175, .unset, .unset, .unset, .unset] [(.int (2 : Int32)), (.ref b166), (.long R2), (.long R2), (.long R2), (.long S2), (.ref b172), (.int (2 : Int32)), (.ref b175)])) rfl rfl (hb hby at_358) t) ?_
            show Go p e below s QQ room_1.cells room_1.slots (T179.setTop (mkF m 359 #[jv p0, .second, jv R1, .second, jv R2, .second, jv p3, .second, iv p4, iv pp, iv (oI fl), iv mb, iv dr, iv (oI rq), iv k0, iv ka, iv kb, iv k1, iv k2, rv b162, rv b166, rv b170, rv b172, rv b175, .unset, .unset, .unset, .unset] [(.long R2), (.long R2), (.long R2), (.long R2), (.long S2), (.ref b172), (.int (2 : Int32)), (.ref b175)]))
            obtain ⟨cq180, kq180, q180a, q180b, q180c⟩ := isOf hZ e179 Ex_b172
            obtain ⟨_, _, ⟨T180, L180, k180, n180⟩, -, X180, ⟨Lc180, hQ180, l180, y180, z180⟩, st180⟩ := X179.virtualBack hx (y := (⟨"com/example/interval/interval/service/SlotTable", "add", "(JJJJJ)I"⟩ : MethodName)) (z := (⟨"com/example/interval/interval/service/SlotTable", "add", "(JJJJJ)I"⟩ : MethodName)) hown (mvT hZ (hw _ (List.mem_of_getElem? (i := 16) rfl))) (mvT hZ (hw _ (List.mem_of_getElem? (i := 17) rfl))) (notFace_of_selects (args := #[]) (mvT hZ (hw _ (List.mem_of_getElem? (i := 19) rfl)))) (mvT hZ (hw _ (List.mem_of_getElem? (i := 19) rfl))) (mvT hZ (hw _ (List.mem_of_getElem? (i := 18) rfl))) (by decide) (backOf (W := 2) (rm3 l Z a0 hw [] b172 S2 R2 R2 R2 R2 (0 + 1 + 1) pg pa (updv (fun _ => .null) 0 (.ref pa)) (own_add (own_add (fun _ => .long 0) 0 S0 p0 p0 p0 p0) (0 + 1) S1 R1 R1 R1 R1) h179 n0 ZZ Fp Fs Ex_b172 V_pg rfl V_pa ge_b172 ge_pa ne_b172_pg ne_b172_pa ngp (by decide)) hZ (hw _ (List.mem_of_getElem? (i := 20) rfl)) (hw _ (List.mem_of_getElem? (i := 3) rfl)) (by decide) (by decide)) q180a q180c (g := (mkF m 359 #[jv p0, .second, jv R1, .second, jv R2, .second, jv p3, .second, iv p4, iv pp, iv (oI fl), iv mb, iv dr, iv (oI rq), iv k0, iv ka, iv kb, iv k1, iv k2, rv b162, rv b166, rv b170, rv b172, rv b175, .unset, .unset, .unset, .unset] [(.long R2), (.long R2), (.long R2), (.long R2), (.long S2), (.ref b172), (.int (2 : Int32)), (.ref b175)])) rfl (by rw [hml]; rfl) (Steps.refl _) (argsL := [(.long S2), (.long R2), (.long R2), (.long R2), (.long R2)]) (rest := [(.int (2 : Int32)), (.ref b175)]) (lenOf pd_9 rfl) rfl (by show 2 * 0 + _ ≤ _; exact Nat.le_of_eq rfl) (hb hby at_359) (fun _ _ => ⟨rfl, e179, (by decide : 7 + 0 ≤ _), (by decide : 55 + 0 ≤ _)⟩)
            dsimp only [Pt.U, Pt.locs, Pt.cells, Pt.slots] at X180 l180 y180 z180 st180 hQ180
            subst l180 y180 z180
            obtain ⟨rfl, N180q, K180, Fpn180, Fsn180, Vn180⟩ := hQ180
            replace N171 := Fr.app N171 N180q
            refine gt st180 ?_
            show Go p e below s QQ room_1.cells room_1.slots (T180.setTop (mkF m 362 #[jv p0, .second, jv R1, .second, jv R2, .second, jv p3, .second, iv p4, iv pp, iv (oI fl), iv mb, iv dr, iv (oI rq), iv k0, iv ka, iv kb, iv k1, iv k2, rv b162, rv b166, rv b170, rv b172, rv b175, .unset, .unset, .unset, .unset] [(.int (oI (0 + 1 + 1))), (.int (2 : Int32)), (.ref b175)]))
            replace V_b162 := V_b162.keep K180 (ninS ne_b162_b172 (ninS ne_b162_pa nin0))
            replace V_b166 := V_b166.keep K180 (ninS ne_b166_b172 (ninS ne_b166_pa nin0))
            replace V_b170 := V_b170.keep K180 (ninS ne_b170_b172 (ninS ne_b170_pa nin0))
            replace Ex_b172 := Ex_b172.keep K180
            replace V_pg := V_pg.keep K180 (ninS (Ne.symm ne_b172_pg) (ninS ngp nin0))
            replace V_b175 := V_b175.keep K180 (ninS (Ne.symm ne_b172_b175) (ninS (Ne.symm ne_pa_b175) nin0))
            replace ZZ := Nat.le_trans ZZ K180.1
            have Fp := Fpn180
            have Fs := Fsn180
            have V_pa := Vn180
            obtain ⟨T181, h181, X181, e181, W181, V181, st181⟩ := stIf X180 hx hZ rfl V_b175 (j := (2 : Int32)) (by decide) (g := (mkF m 362 #[jv p0, .second, jv R1, .second, jv R2, .second, jv p3, .second, iv p4, iv pp, iv (oI fl), iv mb, iv dr, iv (oI rq), iv k0, iv ka, iv kb, iv k1, iv k2, rv b162, rv b166, rv b170, rv b172, rv b175, .unset, .unset, .unset, .unset] [(.int (oI (0 + 1 + 1))), (.int (2 : Int32)), (.ref b175)])) rfl rfl (hb hby at_362)
            replace N171 := Fr.snoc X181 N171 ge_b175
            refine gs st181 ?_
            show Go p e below s QQ room_1.cells room_1.slots (T181.setTop (mkF m 363 #[jv p0, .second, jv R1, .second, jv R2, .second, jv p3, .second, iv p4, iv pp, iv (oI fl), iv mb, iv dr, iv (oI rq), iv k0, iv ka, iv kb, iv k1, iv k2, rv b162, rv b166, rv b170, rv b172, rv b175, .unset, .unset, .unset, .unset] []))
            replace V_b162 := V_b162.other W181 ne_b162_b175
            replace V_b166 := V_b166.other W181 ne_b166_b175
            replace V_b170 := V_b170.other W181 ne_b170_b175
            replace Ex_b172 := Ex_b172.wr W181
            replace V_pg := V_pg.other W181 ne_pg_b175
            replace Fp := Fp.other W181 (Or.inl ne_b172_b175)
            replace Fs := Fs.other W181 (Or.inl ne_b172_b175)
            replace V_pa := V_pa.other W181 ne_pa_b175
            replace ZZ : n0 ≤ h181.size := by rw [W181.size]; exact ZZ
            replace V_b175 : Arf Z h181 b175 .int 3 (updv (updv (updv (fun _ => .int 0) 0 (.int (oI 0))) 1 (.int (oI (0 + 1)))) 2 (.int (oI (0 + 1 + 1)))) := V181
            replace V_b175 : Arf Z h181 b175 .int 3 (fun i => .int (oI i)) := V_b175.congr (fun i hi => by rcases own_3c hi with rfl | rfl | rfl <;> rfl)
            replace V_pa : Arf Z h181 pa .long 40 (own_tf S0 S1 S2 p0 R1 R2) := V_pa
            obtain ⟨T182, h182, X182, e182, E182, A182, D182, -, st182⟩ := newO X181 hx hZ hown (hw _ (List.mem_of_getElem? (i := 31) rfl)) (hw _ (List.mem_of_getElem? (i := 32) rfl)) (hw _ (List.mem_of_getElem? (i := 33) rfl)) e181 (g := (mkF m 363 #[jv p0, .second, jv R1, .second, jv R2, .second, jv p3, .second, iv p4, iv pp, iv (oI fl), iv mb, iv dr, iv (oI rq), iv k0, iv ka, iv kb, iv k1, iv k2, rv b162, rv b166, rv b170, rv b172, rv b175, .unset, .unset, .unset, .unset] [])) rfl (hb hby at_363) (by decide) (by decide)
            obtain ⟨b182, g182⟩ : ∃ z, z = h181.size := ⟨_, rfl⟩
            rw [← g182] at A182 D182 st182
            have ge_b182 : n0 ≤ b182 := by rw [g182]; exact ZZ
            have ne_b162_b182 : b162 ≠ b182 := by rw [g182]; exact Nat.ne_of_lt V_b162.lt
            have ne_b166_b182 : b166 ≠ b182 := by rw [g182]; exact Nat.ne_of_lt V_b166.lt
            have ne_b170_b182 : b170 ≠ b182 := by rw [g182]; exact Nat.ne_of_lt V_b170.lt
            have ne_b172_b182 : b172 ≠ b182 := by rw [g182]; exact Nat.ne_of_lt Ex_b172.lt
            have ne_pg_b182 : pg ≠ b182 := by rw [g182]; exact Nat.ne_of_lt V_pg.lt
            have ne_pa_b182 : pa ≠ b182 := by rw [g182]; exact Nat.ne_of_lt V_pa.lt
            have ne_b175_b182 : b175 ≠ b182 := by rw [g182]; exact Nat.ne_of_lt V_b175.lt
            refine gs st182 ?_
            show Go p e below s QQ room_1.cells room_1.slots (T182.setTop (mkF m 366 #[jv p0, .second, jv R1, .second, jv R2, .second, jv p3, .second, iv p4, iv pp, iv (oI fl), iv mb, iv dr, iv (oI rq), iv k0, iv ka, iv kb, iv k1, iv k2, rv b162, rv b166, rv b170, rv b172, rv b175, .unset, .unset, .unset, .unset] [(.ref b182)]))
            replace V_b162 := V_b162.ext E182
            replace V_b166 := V_b166.ext E182
            replace V_b170 := V_b170.ext E182
            replace Ex_b172 := Ex_b172.ext E182
            replace V_pg := V_pg.ext E182
            replace V_b175 := V_b175.ext E182
            replace Fp := Fp.ext E182
            replace Fs := Fs.ext E182
            replace V_pa := V_pa.ext E182
            replace ZZ := Nat.le_trans ZZ E182.1
            have Ex_b182 := A182
            have F_runs_b182 : Fld Z h182 b182 "com/example/interval/interval/service/SlotOrder" "runs" "[[I" .null := D182 (Or.inl (hw _ (List.mem_of_getElem? (i := 41) rfl))) (ty := (.array (.array .int))) (by decide)
            have F_sizes_b182 : Fld Z h182 b182 "com/example/interval/interval/service/SlotOrder" "sizes" "[I" .null := D182 (Or.inl (hw _ (List.mem_of_getElem? (i := 43) rfl))) (ty := (.array .int)) (by decide)
            have F_table_b182 : Fld Z h182 b182 "com/example/interval/interval/service/SlotOrder" "table" "Lcom/example/interval/interval/service/SlotTable;" .null := D182 (Or.inr (hw _ (List.mem_of_getElem? (i := 45) rfl))) (ty := (.object "com/example/interval/interval/service/SlotTable")) (by decide)
            have F_field_b182 : Fld Z h182 b182 "com/example/interval/interval/service/SlotOrder" "field" "I" (.int (0 : Int32)) := D182 (Or.inr (hw _ (List.mem_of_getElem? (i := 47) rfl))) (ty := .int) (by decide)
            have F_size_b182 : Fld Z h182 b182 "com/example/interval/interval/service/SlotOrder" "size" "I" (.int (0 : Int32)) := D182 (Or.inl (hw _ (List.mem_of_getElem? (i := 59) rfl))) (ty := .int) (by decide)
            have F_runCount_b182 : Fld Z h182 b182 "com/example/interval/interval/service/SlotOrder" "runCount" "I" (.int (0 : Int32)) := D182 (Or.inl (hw _ (List.mem_of_getElem? (i := 71) rfl))) (ty := .int) (by decide)
            refine gs (fun t => XS.dup X182.here hx rfl (hb hby at_366) rfl rfl) ?_
            refine gs (fun t => XS.aload X182.here hx rfl (hb hby at_367) rfl rfl) ?_
            refine gs (fun t => XS.iload X182.here hx rfl (hb hby at_369) rfl) ?_
            have ZZm183 := ZZ
            have lt183_b162 := V_b162.lt
            have lt183_b166 := V_b166.lt
            have lt183_b170 := V_b170.lt
            have lt183_b172 := Ex_b172.lt
            have lt183_pg := V_pg.lt
            have lt183_pa := V_pa.lt
            have lt183_b175 := V_b175.lt
            have lt183_b182 := Ex_b182.lt
            obtain ⟨_, _, ⟨T184, L184, k184, n184⟩, -, X184, ⟨Lc184, hQ184, l184, y184, z184⟩, st184⟩ := X182.specialBack hx (y := (⟨"com/example/interval/interval/service/SlotOrder", "<init>", "(Lcom/example/interval/interval/service/SlotTable;I)V"⟩ : MethodName)) rfl hown (mvT hZ (hw _ (List.mem_of_getElem? (i := 34) rfl))) (mvT hZ (hw _ (List.mem_of_getElem? (i := 35) rfl))) (mvT hZ (hw _ (List.mem_of_getElem? (i := 36) rfl))) (by decide) (backOf (W := 1) (rmIni l Z a0 hw [] b182 b172 fl h182 n0 ZZ F_runs_b182 F_sizes_b182 F_table_b182 F_field_b182 F_size_b182 F_runCount_b182 Ex_b182 ge_b182) hZ (hw _ (List.mem_of_getElem? (i := 36) rfl)) (hw _ (List.mem_of_getElem? (i := 33) rfl)) (by decide) (by decide)) (g := (mkF m 371 #[jv p0, .second, jv R1, .second, jv R2, .second, jv p3, .second, iv p4, iv pp, iv (oI fl), iv mb, iv dr, iv (oI rq), iv k0, iv ka, iv kb, iv k1, iv k2, rv b162, rv b166, rv b170, rv b172, rv b175, .unset, .unset, .unset, .unset] [(.int (oI fl)), (.ref b172), (.ref b182), (.ref b182)])) rfl (by rw [hml]; rfl) (Steps.refl _) (a := b182) (argsL := [(.ref b172), (.int (oI fl))]) (rest := [(.ref b182)]) (lenOf pd_10 rfl) rfl (by show 2 * 0 + _ ≤ _; exact Nat.le_of_eq rfl) (hb hby at_371) (fun _ _ => ⟨rfl, e182, (by decide : 8 + 2 ≤ _), (by decide : 61 + 2 ≤ _)⟩)
            dsimp only [Pt.U, Pt.locs, Pt.cells, Pt.slots] at X184 l184 y184 z184 st184 hQ184
            subst l184 y184 z184
            obtain ⟨ra, sz, rfl, N184q, K184, Gruns_184, Gsizes_184, Gtable_184, Gfield_184, Gsize_184, GrunCount_184, V_ra, TK_ra, V_sz, gra, gsz, nrs⟩ := hQ184
            replace N171 := Fr.app N171 N184q
            refine gt st184 ?_
            show Go p e below s QQ room_1.cells room_1.slots (T184.setTop (mkF m 374 #[jv p0, .second, jv R1, .second, jv R2, .second, jv p3, .second, iv p4, iv pp, iv (oI fl), iv mb, iv dr, iv (oI rq), iv k0, iv ka, iv kb, iv k1, iv k2, rv b162, rv b166, rv b170, rv b172, rv b175, .unset, .unset, .unset, .unset] [(.ref b182)]))
            replace V_b162 := V_b162.keep K184 (ninS ne_b162_b182 nin0)
            replace V_b166 := V_b166.keep K184 (ninS ne_b166_b182 nin0)
            replace V_b170 := V_b170.keep K184 (ninS ne_b170_b182 nin0)
            replace Ex_b172 := Ex_b172.keep K184
            replace V_pg := V_pg.keep K184 (ninS ne_pg_b182 nin0)
            replace V_b175 := V_b175.keep K184 (ninS ne_b175_b182 nin0)
            replace Fp := Fp.keep K184 (ninS ne_b172_b182 nin0)
            replace Fs := Fs.keep K184 (ninS ne_b172_b182 nin0)
            replace V_pa := V_pa.keep K184 (ninS ne_pa_b182 nin0)
            replace Ex_b182 := Ex_b182.keep K184
            replace ZZ := Nat.le_trans ZZ K184.1
            have ne_b162_ra : b162 ≠ ra := Nat.ne_of_lt (Nat.lt_of_lt_of_le lt183_b162 gra)
            have ne_b166_ra : b166 ≠ ra := Nat.ne_of_lt (Nat.lt_of_lt_of_le lt183_b166 gra)
            have ne_b170_ra : b170 ≠ ra := Nat.ne_of_lt (Nat.lt_of_lt_of_le lt183_b170 gra)
            have ne_b172_ra : b172 ≠ ra := Nat.ne_of_lt (Nat.lt_of_lt_of_le lt183_b172 gra)
            have ne_pg_ra : pg ≠ ra := Nat.ne_of_lt (Nat.lt_of_lt_of_le lt183_pg gra)
            have ne_pa_ra : pa ≠ ra := Nat.ne_of_lt (Nat.lt_of_lt_of_le lt183_pa gra)
            have ne_b175_ra : b175 ≠ ra := Nat.ne_of_lt (Nat.lt_of_lt_of_le lt183_b175 gra)
            have ne_b182_ra : b182 ≠ ra := Nat.ne_of_lt (Nat.lt_of_lt_of_le lt183_b182 gra)
            have ge_ra : n0 ≤ ra := Nat.le_trans ZZm183 gra
            have ne_b162_sz : b162 ≠ sz := Nat.ne_of_lt (Nat.lt_of_lt_of_le lt183_b162 gsz)
            have ne_b166_sz : b166 ≠ sz := Nat.ne_of_lt (Nat.lt_of_lt_of_le lt183_b166 gsz)
            have ne_b170_sz : b170 ≠ sz := Nat.ne_of_lt (Nat.lt_of_lt_of_le lt183_b170 gsz)
            have ne_b172_sz : b172 ≠ sz := Nat.ne_of_lt (Nat.lt_of_lt_of_le lt183_b172 gsz)
            have ne_pg_sz : pg ≠ sz := Nat.ne_of_lt (Nat.lt_of_lt_of_le lt183_pg gsz)
            have ne_pa_sz : pa ≠ sz := Nat.ne_of_lt (Nat.lt_of_lt_of_le lt183_pa gsz)
            have ne_b175_sz : b175 ≠ sz := Nat.ne_of_lt (Nat.lt_of_lt_of_le lt183_b175 gsz)
            have ne_b182_sz : b182 ≠ sz := Nat.ne_of_lt (Nat.lt_of_lt_of_le lt183_b182 gsz)
            have ge_sz : n0 ≤ sz := Nat.le_trans ZZm183 gsz
            have F_runs_b182 := Gruns_184
            have F_sizes_b182 := Gsizes_184
            have F_table_b182 := Gtable_184
            have F_field_b182 := Gfield_184
            have F_size_b182 := Gsize_184
            have F_runCount_b182 := GrunCount_184
            refine gs (fun t => XS.astore X184.here hx rfl (hb hby at_374) rfl rfl (l' := #[jv p0, .second, jv R1, .second, jv R2, .second, jv p3, .second, iv p4, iv pp, iv (oI fl), iv mb, iv dr, iv (oI rq), iv k0, iv ka, iv kb, iv k1, iv k2, rv b162, rv b166, rv b170, rv b172, rv b175, rv b182, .unset, .unset, .unset]) rfl) ?_
            refine gs (fun t => XS.iconst X184.here hx rfl (hb hby at_376)) ?_
            obtain ⟨T185, h185, k185, X185, e185, E185, A185, st185⟩ := newP X184 hx hZ (hw _ (List.mem_of_getElem? (i := 48) rfl)) rfl (g := (mkF m 377 #[jv p0, .second, jv R1, .second, jv R2, .second, jv p3, .second, iv p4, iv pp, iv (oI fl), iv mb, iv dr, iv (oI rq), iv k0, iv ka, iv kb, iv k1, iv k2, rv b162, rv b166, rv b170, rv b172, rv b175, rv b182, .unset, .unset, .unset] [(.int (3 : Int32))])) rfl (hb hby at_377) rfl (by decide) (cap := 3) (by decide) (by decide) (by decide) (by decide)
            obtain ⟨b185, g185⟩ : ∃ z, z = T184.heap.size := ⟨_, rfl⟩
            rw [← g185] at A185 st185
            have ge_b185 : n0 ≤ b185 := by rw [g185]; exact ZZ
            have ne_b162_b185 : b162 ≠ b185 := by rw [g185]; exact Nat.ne_of_lt V_b162.lt
            have ne_b166_b185 : b166 ≠ b185 := by rw [g185]; exact Nat.ne_of_lt V_b166.lt
            have ne_b170_b185 : b170 ≠ b185 := by rw [g185]; exact Nat.ne_of_lt V_b170.lt
            have ne_b172_b185 : b172 ≠ b185 := by rw [g185]; exact Nat.ne_of_lt Ex_b172.lt
            have ne_pg_b185 : pg ≠ b185 := by rw [g185]; exact Nat.ne_of_lt V_pg.lt
            have ne_pa_b185 : pa ≠ b185 := by rw [g185]; exact Nat.ne_of_lt V_pa.lt
            have ne_b175_b185 : b175 ≠ b185 := by rw [g185]; exact Nat.ne_of_lt V_b175.lt
            have ne_b182_b185 : b182 ≠ b185 := by rw [g185]; exact Nat.ne_of_lt Ex_b182.lt
            have ne_ra_b185 : ra ≠ b185 := by rw [g185]; exact Nat.ne_of_lt V_ra.lt
            have ne_sz_b185 : sz ≠ b185 := by rw [g185]; exact Nat.ne_of_lt V_sz.lt
            refine gs st185 ?_
            show Go p e below s QQ room_1.cells room_1.slots (T185.setTop (mkF m 379 #[jv p0, .second, jv R1, .second, jv R2, .second, jv p3, .second, iv p4, iv pp, iv (oI fl), iv mb, iv dr, iv (oI rq), iv k0, iv ka, iv kb, iv k1, iv k2, rv b162, rv b166, rv b170, rv b172, rv b175, rv b182, .unset, .unset, .unset] [(.ref b185)]))
            replace V_b162 := V_b162.ext E185
            replace V_b166 := V_b166.ext E185
            replace V_b170 := V_b170.ext E185
            replace Ex_b172 := Ex_b172.ext E185
            replace V_pg := V_pg.ext E185
            replace V_b175 := V_b175.ext E185
            replace Fp := Fp.ext E185
            replace Fs := Fs.ext E185
            replace V_pa := V_pa.ext E185
            replace Ex_b182 := Ex_b182.ext E185
            replace F_runs_b182 := F_runs_b182.ext E185
            replace F_sizes_b182 := F_sizes_b182.ext E185
            replace F_table_b182 := F_table_b182.ext E185
            replace F_field_b182 := F_field_b182.ext E185
            replace F_size_b182 := F_size_b182.ext E185
            replace F_runCount_b182 := F_runCount_b182.ext E185
            replace V_ra := V_ra.ext E185
            replace TK_ra := TK_ra.ext E185
            replace V_sz := V_sz.ext E185
            replace ZZ := Nat.le_trans ZZ E185.1
            have V_b185 : Arf Z h185 b185 .boolean 3 (fun _ => .int 0) := Arf.new A185
            refine gs (fun t => XS.dup X185.here hx rfl (hb hby at_379) rfl rfl) ?_
            refine gs (fun t => XS.iconst X185.here hx rfl (hb hby at_380)) ?_
            refine gs (fun t => XS.iload X185.here hx rfl (hb hby at_381) rfl) ?_
            refine gs (fun t => XS.iconst X185.here hx rfl (hb hby at_383)) ?_
            refine gs (fun t => XS.iand X185.here hx rfl (hb hby at_384) rfl) ?_
            have kb0 : ∀ (b0 : Int32) (hb0 : b0 = 0 ∨ b0 = 1), Go p e below s QQ room_1.cells room_1.slots (T185.setTop (mkF m 393 #[jv p0, .second, jv R1, .second, jv R2, .second, jv p3, .second, iv p4, iv pp, iv (oI fl), iv mb, iv dr, iv (oI rq), iv k0, iv ka, iv kb, iv k1, iv k2, rv b162, rv b166, rv b170, rv b172, rv b175, rv b182, .unset, .unset, .unset] [(.int b0), (.int (0 : Int32)), (.ref b185), (.ref b185)])) := by
              intro b0 hb0
              obtain ⟨T187, h187, X187, e187, W187, V187, st187⟩ := stZf X185 hx hZ e185 V_b185 (j := (0 : Int32)) (by decide) (g := (mkF m 393 #[jv p0, .second, jv R1, .second, jv R2, .second, jv p3, .second, iv p4, iv pp, iv (oI fl), iv mb, iv dr, iv (oI rq), iv k0, iv ka, iv kb, iv k1, iv k2, rv b162, rv b166, rv b170, rv b172, rv b175, rv b182, .unset, .unset, .unset] [(.int b0), (.int (0 : Int32)), (.ref b185), (.ref b185)])) rfl rfl (hb hby at_393)
              rw [(own_nb hb0)] at W187 V187
              replace N171 := Fr.snoc X187 N171 ge_b185
              refine gs st187 ?_
              show Go p e below s QQ room_1.cells room_1.slots (T187.setTop (mkF m 394 #[jv p0, .second, jv R1, .second, jv R2, .second, jv p3, .second, iv p4, iv pp, iv (oI fl), iv mb, iv dr, iv (oI rq), iv k0, iv ka, iv kb, iv k1, iv k2, rv b162, rv b166, rv b170, rv b172, rv b175, rv b182, .unset, .unset, .unset] [(.ref b185)]))
              replace V_b162 := V_b162.other W187 ne_b162_b185
              replace V_b166 := V_b166.other W187 ne_b166_b185
              replace V_b170 := V_b170.other W187 ne_b170_b185
              replace Ex_b172 := Ex_b172.wr W187
              replace V_pg := V_pg.other W187 ne_pg_b185
              replace V_b175 := V_b175.other W187 ne_b175_b185
              replace Fp := Fp.other W187 (Or.inl ne_b172_b185)
              replace Fs := Fs.other W187 (Or.inl ne_b172_b185)
              replace V_pa := V_pa.other W187 ne_pa_b185
              replace Ex_b182 := Ex_b182.wr W187
              replace F_runs_b182 := F_runs_b182.other W187 (Or.inl ne_b182_b185)
              replace F_sizes_b182 := F_sizes_b182.other W187 (Or.inl ne_b182_b185)
              replace F_table_b182 := F_table_b182.other W187 (Or.inl ne_b182_b185)
              replace F_field_b182 := F_field_b182.other W187 (Or.inl ne_b182_b185)
              replace F_size_b182 := F_size_b182.other W187 (Or.inl ne_b182_b185)
              replace F_runCount_b182 := F_runCount_b182.other W187 (Or.inl ne_b182_b185)
              replace V_ra := V_ra.other W187 ne_ra_b185
              replace TK_ra := TK_ra.wr W187
              replace V_sz := V_sz.other W187 ne_sz_b185
              replace ZZ : n0 ≤ h187.size := by rw [W187.size]; exact ZZ
              replace V_b185 : Arf Z h187 b185 .boolean 3 (updv (fun _ => .int 0) 0 (.int b0)) := V187
              refine gs (fun t => XS.dup X187.here hx rfl (hb hby at_394) rfl rfl) ?_
              refine gs (fun t => XS.iconst X187.here hx rfl (hb hby at_395)) ?_
              refine gs (fun t => XS.iload X187.here hx rfl (hb hby at_396) rfl) ?_
              refine gs (fun t => XS.iconst X187.here hx rfl (hb hby at_398)) ?_
              refine gs (fun t => XS.iand X187.here hx rfl (hb hby at_399) rfl) ?_
              have kb1 : ∀ (b1 : Int32) (hb1 : b1 = 0 ∨ b1 = 1), Go p e below s QQ room_1.cells room_1.slots (T187.setTop (mkF m 408 #[jv p0, .second, jv R1, .second, jv R2, .second, jv p3, .second, iv p4, iv pp, iv (oI fl), iv mb, iv dr, iv (oI rq), iv k0, iv ka, iv kb, iv k1, iv k2, rv b162, rv b166, rv b170, rv b172, rv b175, rv b182, .unset, .unset, .unset] [(.int b1), (.int (1 : Int32)), (.ref b185), (.ref b185)])) := by
                intro b1 hb1
                obtain ⟨T189, h189, X189, e189, W189, V189, st189⟩ := stZf X187 hx hZ e187 V_b185 (j := (1 : Int32)) (by decide) (g := (mkF m 408 #[jv p0, .second, jv R1, .second, jv R2, .second, jv p3, .second, iv p4, iv pp, iv (oI fl), iv mb, iv dr, iv (oI rq), iv k0, iv ka, iv kb, iv k1, iv k2, rv b162, rv b166, rv b170, rv b172, rv b175, rv b182, .unset, .unset, .unset] [(.int b1), (.int (1 : Int32)), (.ref b185), (.ref b185)])) rfl rfl (hb hby at_408)
                rw [(own_nb hb1)] at W189 V189
                replace N171 := Fr.snoc X189 N171 ge_b185
                refine gs st189 ?_
                show Go p e below s QQ room_1.cells room_1.slots (T189.setTop (mkF m 409 #[jv p0, .second, jv R1, .second, jv R2, .second, jv p3, .second, iv p4, iv pp, iv (oI fl), iv mb, iv dr, iv (oI rq), iv k0, iv ka, iv kb, iv k1, iv k2, rv b162, rv b166, rv b170, rv b172, rv b175, rv b182, .unset, .unset, .unset] [(.ref b185)]))
                replace V_b162 := V_b162.other W189 ne_b162_b185
                replace V_b166 := V_b166.other W189 ne_b166_b185
                replace V_b170 := V_b170.other W189 ne_b170_b185
                replace Ex_b172 := Ex_b172.wr W189
                replace V_pg := V_pg.other W189 ne_pg_b185
                replace V_b175 := V_b175.other W189 ne_b175_b185
                replace Fp := Fp.other W189 (Or.inl ne_b172_b185)
                replace Fs := Fs.other W189 (Or.inl ne_b172_b185)
                replace V_pa := V_pa.other W189 ne_pa_b185
                replace Ex_b182 := Ex_b182.wr W189
                replace F_runs_b182 := F_runs_b182.other W189 (Or.inl ne_b182_b185)
                replace F_sizes_b182 := F_sizes_b182.other W189 (Or.inl ne_b182_b185)
                replace F_table_b182 := F_table_b182.other W189 (Or.inl ne_b182_b185)
                replace F_field_b182 := F_field_b182.other W189 (Or.inl ne_b182_b185)
                replace F_size_b182 := F_size_b182.other W189 (Or.inl ne_b182_b185)
                replace F_runCount_b182 := F_runCount_b182.other W189 (Or.inl ne_b182_b185)
                replace V_ra := V_ra.other W189 ne_ra_b185
                replace TK_ra := TK_ra.wr W189
                replace V_sz := V_sz.other W189 ne_sz_b185
                replace ZZ : n0 ≤ h189.size := by rw [W189.size]; exact ZZ
                replace V_b185 : Arf Z h189 b185 .boolean 3 (updv (updv (fun _ => .int 0) 0 (.int b0)) 1 (.int b1)) := V189
                refine gs (fun t => XS.dup X189.here hx rfl (hb hby at_409) rfl rfl) ?_
                refine gs (fun t => XS.iconst X189.here hx rfl (hb hby at_410)) ?_
                refine gs (fun t => XS.iload X189.here hx rfl (hb hby at_411) rfl) ?_
                refine gs (fun t => XS.iconst X189.here hx rfl (hb hby at_413)) ?_
                refine gs (fun t => XS.iand X189.here hx rfl (hb hby at_414) rfl) ?_
                have kb2 : ∀ (b2 : Int32) (hb2 : b2 = 0 ∨ b2 = 1), Go p e below s QQ room_1.cells room_1.slots (T189.setTop (mkF m 423 #[jv p0, .second, jv R1, .second, jv R2, .second, jv p3, .second, iv p4, iv pp, iv (oI fl), iv mb, iv dr, iv (oI rq), iv k0, iv ka, iv kb, iv k1, iv k2, rv b162, rv b166, rv b170, rv b172, rv b175, rv b182, .unset, .unset, .unset] [(.int b2), (.int (2 : Int32)), (.ref b185), (.ref b185)])) := by
                  intro b2 hb2
                  obtain ⟨T191, h191, X191, e191, W191, V191, st191⟩ := stZf X189 hx hZ e189 V_b185 (j := (2 : Int32)) (by decide) (g := (mkF m 423 #[jv p0, .second, jv R1, .second, jv R2, .second, jv p3, .second, iv p4, iv pp, iv (oI fl), iv mb, iv dr, iv (oI rq), iv k0, iv ka, iv kb, iv k1, iv k2, rv b162, rv b166, rv b170, rv b172, rv b175, rv b182, .unset, .unset, .unset] [(.int b2), (.int (2 : Int32)), (.ref b185), (.ref b185)])) rfl rfl (hb hby at_423)
                  rw [(own_nb hb2)] at W191 V191
                  replace N171 := Fr.snoc X191 N171 ge_b185
                  refine gs st191 ?_
                  show Go p e below s QQ room_1.cells room_1.slots (T191.setTop (mkF m 424 #[jv p0, .second, jv R1, .second, jv R2, .second, jv p3, .second, iv p4, iv pp, iv (oI fl), iv mb, iv dr, iv (oI rq), iv k0, iv ka, iv kb, iv k1, iv k2, rv b162, rv b166, rv b170, rv b172, rv b175, rv b182, .unset, .unset, .unset] [(.ref b185)]))
                  replace V_b162 := V_b162.other W191 ne_b162_b185
                  replace V_b166 := V_b166.other W191 ne_b166_b185
                  replace V_b170 := V_b170.other W191 ne_b170_b185
                  replace Ex_b172 := Ex_b172.wr W191
                  replace V_pg := V_pg.other W191 ne_pg_b185
                  replace V_b175 := V_b175.other W191 ne_b175_b185
                  replace Fp := Fp.other W191 (Or.inl ne_b172_b185)
                  replace Fs := Fs.other W191 (Or.inl ne_b172_b185)
                  replace V_pa := V_pa.other W191 ne_pa_b185
                  replace Ex_b182 := Ex_b182.wr W191
                  replace F_runs_b182 := F_runs_b182.other W191 (Or.inl ne_b182_b185)
                  replace F_sizes_b182 := F_sizes_b182.other W191 (Or.inl ne_b182_b185)
                  replace F_table_b182 := F_table_b182.other W191 (Or.inl ne_b182_b185)
                  replace F_field_b182 := F_field_b182.other W191 (Or.inl ne_b182_b185)
                  replace F_size_b182 := F_size_b182.other W191 (Or.inl ne_b182_b185)
                  replace F_runCount_b182 := F_runCount_b182.other W191 (Or.inl ne_b182_b185)
                  replace V_ra := V_ra.other W191 ne_ra_b185
                  replace TK_ra := TK_ra.wr W191
                  replace V_sz := V_sz.other W191 ne_sz_b185
                  replace ZZ : n0 ≤ h191.size := by rw [W191.size]; exact ZZ
                  replace V_b185 : Arf Z h191 b185 .boolean 3 (updv (updv (updv (fun _ => .int 0) 0 (.int b0)) 1 (.int b1)) 2 (.int b2)) := V191
                  replace V_b185 : Arf Z h191 b185 .boolean 3 (fun i => .int ((own_b3 b0 b1 b2) i)) := V_b185.congr (fun i hi => by rcases own_3c hi with rfl | rfl | rfl <;> rfl)
                  refine gs (fun t => XS.astore X191.here hx rfl (hb hby at_424) rfl rfl (l' := #[jv p0, .second, jv R1, .second, jv R2, .second, jv p3, .second, iv p4, iv pp, iv (oI fl), iv mb, iv dr, iv (oI rq), iv k0, iv ka, iv kb, iv k1, iv k2, rv b162, rv b166, rv b170, rv b172, rv b175, rv b182, rv b185, .unset, .unset]) rfl) ?_
                  have HTB := own_tab hfl S0 S1 S2 p0 R1 R2
                  have kt0 : ∀ (bv : Nat → Int32) (T192 : State) (h192 : Heap) (lc192 : List Loc) (X192 : Stand p l e room_1 s m #[(.long p0), (.long p1), (.long p2), (.long p3), (.int p4)] below meth c T192 lc192 12 74) (N192 : Fr n0 lc192) (e192 : T192.heap = h192) (ZZ : n0 ≤ h192.size) (V_b162 : Arf Z h192 b162 .long 3 (fun i => .long ((own_q3 S0 S1 S2) i))) (V_b170 : Arf Z h192 b170 .long 3 (fun i => .long ((own_vv fl (own_q3 S0 S1 S2) (own_q3 p0 R1 R2)) i))) (V_b175 : Arf Z h192 b175 .int 3 (fun i => .int (oI i))) (Ex_b182 : Exa Z h192 b182 "com/example/interval/interval/service/SlotOrder") (F_size_b182 : Fld Z h192 b182 "com/example/interval/interval/service/SlotOrder" "size" "I" (.int (oI 0))) (V_b185 : Arf Z h192 b185 .boolean 3 (fun i => .int (bv i))) (hz0 : ∀ i, i < 3 → bv i = 0), Go p e below s QQ room_1.cells room_1.slots (T192.setTop (mkF m 503 #[jv p0, .second, jv R1, .second, jv R2, .second, jv p3, .second, iv p4, iv pp, iv (oI fl), iv mb, iv dr, iv (oI rq), iv k0, iv ka, iv kb, iv k1, iv k2, rv b162, rv b166, rv b170, rv b172, rv b175, rv b182, rv b185, .unset, .unset] [])) := by
                    intro bv T192 h192 lc192 X192 N192 e192 ZZ V_b162 V_b170 V_b175 Ex_b182 F_size_b182 V_b185 hz0
                    refine gs (fun t => XS.aload X192.here hx rfl (hb hby at_503) rfl rfl) ?_
                    refine gs (fun t => XS.aload X192.here hx rfl (hb hby at_505) rfl rfl) ?_
                    refine gs (fun t => XS.aload X192.here hx rfl (hb hby at_507) rfl rfl) ?_
                    refine gs (fun t => XS.aload X192.here hx rfl (hb hby at_509) rfl rfl) ?_
                    refine gs (fun t => XS.aload X192.here hx rfl (hb hby at_511) rfl rfl) ?_
                    show Go p e below s QQ room_1.cells room_1.slots (T192.setTop (mkF m 513 #[jv p0, .second, jv R1, .second, jv R2, .second, jv p3, .second, iv p4, iv pp, iv (oI fl), iv mb, iv dr, iv (oI rq), iv k0, iv ka, iv kb, iv k1, iv k2, rv b162, rv b166, rv b170, rv b172, rv b175, rv b182, rv b185, .unset, .unset] [(.ref b162), (.ref b170), (.ref b185), (.ref b162), (.ref b170)]))
                    refine gs (fun t => XS.aload X192.here hx rfl (hb hby at_513) rfl rfl) ?_
                    refine gs (fun t => XS.aload X192.here hx rfl (hb hby at_515) rfl rfl) ?_
                    refine gs (fun t => XS.aload X192.here hx rfl (hb hby at_517) rfl rfl) ?_
                    refine gs (fun t => XS.aload X192.here hx rfl (hb hby at_519) rfl rfl) ?_
                    refine gs (fun t => XS.iconst X192.here hx rfl (hb hby at_521)) ?_
                    refine gs (fun t => XS.iconst X192.here hx rfl (hb hby at_522)) ?_
                    show Go p e below s QQ room_1.cells room_1.slots (T192.setTop (mkF m 523 #[jv p0, .second, jv R1, .second, jv R2, .second, jv p3, .second, iv p4, iv pp, iv (oI fl), iv mb, iv dr, iv (oI rq), iv k0, iv ka, iv kb, iv k1, iv k2, rv b162, rv b166, rv b170, rv b172, rv b175, rv b182, rv b185, .unset, .unset] [(.int (0 : Int32)), (.int (-1 : Int32)), (.ref b185), (.ref b162), (.ref b170), (.ref b185), (.ref b162), (.ref b170), (.ref b185), (.ref b162), (.ref b170)]))
                    show Go p e below s QQ room_1.cells room_1.slots (T192.setTop (mkF m 523 #[jv p0, .second, jv R1, .second, jv R2, .second, jv p3, .second, iv p4, iv pp, iv (oI fl), iv mb, iv dr, iv (oI rq), iv k0, iv ka, iv kb, iv k1, iv k2, rv b162, rv b166, rv b170, rv b172, rv b175, rv b182, rv b185, .unset, .unset] [(.int (oI 0)), (.int (-1 : Int32)), (.ref b185), (.ref b162), (.ref b170), (.ref b185), (.ref b162), (.ref b170), (.ref b185), (.ref b162), (.ref b170)]))
                    obtain ⟨_, _, ⟨T193, L193, k193, n193⟩, -, X193, ⟨Lc193, hQ193, l193, y193, z193⟩, st193⟩ := Jvm.LawKit.callS X192 hx (y := (⟨"com/example/interval/interval/service/SlotOrderFirstPinLaw", "pick", "([J[J[ZII)I"⟩ : MethodName)) hown (mvT hZ (hw _ (List.mem_of_getElem? (i := 49) rfl))) (mvT hZ (hw _ (List.mem_of_getElem? (i := 50) rfl))) (mvT hZ (hw _ (List.mem_of_getElem? (i := 51) rfl))) (mvT hZ (hw _ (List.mem_of_getElem? (i := 52) rfl))) (by decide) (backOf (W := 6) (rmPN0 l Z a0 hw [] b170 b162 b185 0 bv h192 n0 ZZ V_b185 (by decide) (hz0 0 (by decide))) hZ (hw _ (List.mem_of_getElem? (i := 52) rfl)) (hw _ (List.mem_of_getElem? (i := 51) rfl)) (by decide) (by decide)) (g := (mkF m 523 #[jv p0, .second, jv R1, .second, jv R2, .second, jv p3, .second, iv p4, iv pp, iv (oI fl), iv mb, iv dr, iv (oI rq), iv k0, iv ka, iv kb, iv k1, iv k2, rv b162, rv b166, rv b170, rv b172, rv b175, rv b182, rv b185, .unset, .unset] [(.int (oI 0)), (.int (-1 : Int32)), (.ref b185), (.ref b162), (.ref b170), (.ref b185), (.ref b162), (.ref b170), (.ref b185), (.ref b162), (.ref b170)])) rfl (by rw [hml]; rfl) (argsL := [(.ref b170), (.ref b162), (.ref b185), (.int (-1 : Int32)), (.int (oI 0))]) (rest := [(.ref b185), (.ref b162), (.ref b170), (.ref b185), (.ref b162), (.ref b170)]) (lenOf pd_11 rfl) rfl (by show 2 * 0 + _ ≤ _; exact Nat.le_of_eq rfl) (hb hby at_523) (fun _ _ => ⟨rfl, e192, (by decide : 12 + 0 ≤ _), (by decide : 74 + 0 ≤ _)⟩)
                    dsimp only [Pt.U, Pt.locs, Pt.cells, Pt.slots] at X193 l193 y193 z193 st193 hQ193
                    subst l193 y193 z193
                    obtain ⟨rfl, N193q, e193⟩ := hQ193
                    replace N192 := Fr.app N192 N193q
                    refine gs st193 ?_
                    show Go p e below s QQ room_1.cells room_1.slots (T193.setTop (mkF m 526 #[jv p0, .second, jv R1, .second, jv R2, .second, jv p3, .second, iv p4, iv pp, iv (oI fl), iv mb, iv dr, iv (oI rq), iv k0, iv ka, iv kb, iv k1, iv k2, rv b162, rv b166, rv b170, rv b172, rv b175, rv b182, rv b185, .unset, .unset] [(.int (-1 : Int32)), (.ref b185), (.ref b162), (.ref b170), (.ref b185), (.ref b162), (.ref b170)]))
                    refine gs (fun t => XS.iconst X193.here hx rfl (hb hby at_526)) ?_
                    show Go p e below s QQ room_1.cells room_1.slots (T193.setTop (mkF m 527 #[jv p0, .second, jv R1, .second, jv R2, .second, jv p3, .second, iv p4, iv pp, iv (oI fl), iv mb, iv dr, iv (oI rq), iv k0, iv ka, iv kb, iv k1, iv k2, rv b162, rv b166, rv b170, rv b172, rv b175, rv b182, rv b185, .unset, .unset] [(.int (oI 1)), (.int (-1 : Int32)), (.ref b185), (.ref b162), (.ref b170), (.ref b185), (.ref b162), (.ref b170)]))
                    obtain ⟨_, _, ⟨T194, L194, k194, n194⟩, -, X194, ⟨Lc194, hQ194, l194, y194, z194⟩, st194⟩ := Jvm.LawKit.callS X193 hx (y := (⟨"com/example/interval/interval/service/SlotOrderFirstPinLaw", "pick", "([J[J[ZII)I"⟩ : MethodName)) hown (mvT hZ (hw _ (List.mem_of_getElem? (i := 49) rfl))) (mvT hZ (hw _ (List.mem_of_getElem? (i := 50) rfl))) (mvT hZ (hw _ (List.mem_of_getElem? (i := 51) rfl))) (mvT hZ (hw _ (List.mem_of_getElem? (i := 52) rfl))) (by decide) (backOf (W := 3) (rmPN0 l Z a0 hw [] b170 b162 b185 1 bv h192 n0 ZZ V_b185 (by decide) (hz0 1 (by decide))) hZ (hw _ (List.mem_of_getElem? (i := 52) rfl)) (hw _ (List.mem_of_getElem? (i := 51) rfl)) (by decide) (by decide)) (g := (mkF m 527 #[jv p0, .second, jv R1, .second, jv R2, .second, jv p3, .second, iv p4, iv pp, iv (oI fl), iv mb, iv dr, iv (oI rq), iv k0, iv ka, iv kb, iv k1, iv k2, rv b162, rv b166, rv b170, rv b172, rv b175, rv b182, rv b185, .unset, .unset] [(.int (oI 1)), (.int (-1 : Int32)), (.ref b185), (.ref b162), (.ref b170), (.ref b185), (.ref b162), (.ref b170)])) rfl (by rw [hml]; rfl) (argsL := [(.ref b170), (.ref b162), (.ref b185), (.int (-1 : Int32)), (.int (oI 1))]) (rest := [(.ref b185), (.ref b162), (.ref b170)]) (lenOf pd_11 rfl) rfl (by show 2 * 0 + _ ≤ _; exact Nat.le_of_eq rfl) (hb hby at_527) (fun _ _ => ⟨rfl, e193, (by decide : 12 + 0 ≤ _), (by decide : 74 + 0 ≤ _)⟩)
                    dsimp only [Pt.U, Pt.locs, Pt.cells, Pt.slots] at X194 l194 y194 z194 st194 hQ194
                    subst l194 y194 z194
                    obtain ⟨rfl, N194q, e194⟩ := hQ194
                    replace N192 := Fr.app N192 N194q
                    refine gs st194 ?_
                    show Go p e below s QQ room_1.cells room_1.slots (T194.setTop (mkF m 530 #[jv p0, .second, jv R1, .second, jv R2, .second, jv p3, .second, iv p4, iv pp, iv (oI fl), iv mb, iv dr, iv (oI rq), iv k0, iv ka, iv kb, iv k1, iv k2, rv b162, rv b166, rv b170, rv b172, rv b175, rv b182, rv b185, .unset, .unset] [(.int (-1 : Int32)), (.ref b185), (.ref b162), (.ref b170)]))
                    refine gs (fun t => XS.iconst X194.here hx rfl (hb hby at_530)) ?_
                    show Go p e below s QQ room_1.cells room_1.slots (T194.setTop (mkF m 531 #[jv p0, .second, jv R1, .second, jv R2, .second, jv p3, .second, iv p4, iv pp, iv (oI fl), iv mb, iv dr, iv (oI rq), iv k0, iv ka, iv kb, iv k1, iv k2, rv b162, rv b166, rv b170, rv b172, rv b175, rv b182, rv b185, .unset, .unset] [(.int (oI 2)), (.int (-1 : Int32)), (.ref b185), (.ref b162), (.ref b170)]))
                    obtain ⟨_, _, ⟨T195, L195, k195, n195⟩, -, X195, ⟨Lc195, hQ195, l195, y195, z195⟩, st195⟩ := Jvm.LawKit.callS X194 hx (y := (⟨"com/example/interval/interval/service/SlotOrderFirstPinLaw", "pick", "([J[J[ZII)I"⟩ : MethodName)) hown (mvT hZ (hw _ (List.mem_of_getElem? (i := 49) rfl))) (mvT hZ (hw _ (List.mem_of_getElem? (i := 50) rfl))) (mvT hZ (hw _ (List.mem_of_getElem? (i := 51) rfl))) (mvT hZ (hw _ (List.mem_of_getElem? (i := 52) rfl))) (by decide) (backOf (W := 0) (rmPN0 l Z a0 hw [] b170 b162 b185 2 bv h192 n0 ZZ V_b185 (by decide) (hz0 2 (by decide))) hZ (hw _ (List.mem_of_getElem? (i := 52) rfl)) (hw _ (List.mem_of_getElem? (i := 51) rfl)) (by decide) (by decide)) (g := (mkF m 531 #[jv p0, .second, jv R1, .second, jv R2, .second, jv p3, .second, iv p4, iv pp, iv (oI fl), iv mb, iv dr, iv (oI rq), iv k0, iv ka, iv kb, iv k1, iv k2, rv b162, rv b166, rv b170, rv b172, rv b175, rv b182, rv b185, .unset, .unset] [(.int (oI 2)), (.int (-1 : Int32)), (.ref b185), (.ref b162), (.ref b170)])) rfl (by rw [hml]; rfl) (argsL := [(.ref b170), (.ref b162), (.ref b185), (.int (-1 : Int32)), (.int (oI 2))]) (rest := []) (lenOf pd_11 rfl) rfl (by show 2 * 0 + _ ≤ _; exact Nat.le_of_eq rfl) (hb hby at_531) (fun _ _ => ⟨rfl, e194, (by decide : 12 + 0 ≤ _), (by decide : 74 + 0 ≤ _)⟩)
                    dsimp only [Pt.U, Pt.locs, Pt.cells, Pt.slots] at X195 l195 y195 z195 st195 hQ195
                    subst l195 y195 z195
                    obtain ⟨rfl, N195q, e195⟩ := hQ195
                    replace N192 := Fr.app N192 N195q
                    refine gs st195 ?_
                    show Go p e below s QQ room_1.cells room_1.slots (T195.setTop (mkF m 534 #[jv p0, .second, jv R1, .second, jv R2, .second, jv p3, .second, iv p4, iv pp, iv (oI fl), iv mb, iv dr, iv (oI rq), iv k0, iv ka, iv kb, iv k1, iv k2, rv b162, rv b166, rv b170, rv b172, rv b175, rv b182, rv b185, .unset, .unset] [(.int (-1 : Int32))]))
                    refine gs (fun t => XS.istore X195.here hx rfl (hb hby at_534) rfl (l' := #[jv p0, .second, jv R1, .second, jv R2, .second, jv p3, .second, iv p4, iv pp, iv (oI fl), iv mb, iv dr, iv (oI rq), iv k0, iv ka, iv kb, iv k1, iv k2, rv b162, rv b166, rv b170, rv b172, rv b175, rv b182, rv b185, iv (-1), .unset]) rfl) ?_
                    refine gs (fun t => XS.iload X195.here hx rfl (hb hby at_536) rfl) ?_
                    refine gs (fun t => XS.ifNo X195.here hx rfl (hb hby at_538) rfl ((if0 _ _).trans (tlt (by decide : (-1 : Int32) < (0 : Int32))).2.1)) ?_
                    refine gs (fun t => XS.iconst X195.here hx rfl (hb hby at_541)) ?_
                    refine gs (fun t => XS.goto X195.here hx rfl (pc0 := 542) (pc' := 550) rfl (hb hby at_542) (by decide) (by decide)) ?_
                    refine gs (fun t => XS.istore X195.here hx rfl (hb hby at_550) rfl (l' := #[jv p0, .second, jv R1, .second, jv R2, .second, jv p3, .second, iv p4, iv pp, iv (oI fl), iv mb, iv dr, iv (oI rq), iv k0, iv ka, iv kb, iv k1, iv k2, rv b162, rv b166, rv b170, rv b172, rv b175, rv b182, rv b185, iv (-1), iv (-1)]) rfl) ?_
                    show Go p e below s QQ room_1.cells room_1.slots (T195.setTop (mkF m 552 #[jv p0, .second, jv R1, .second, jv R2, .second, jv p3, .second, iv p4, iv pp, iv (oI fl), iv mb, iv dr, iv (oI rq), iv k0, iv ka, iv kb, iv k1, iv k2, rv b162, rv b166, rv b170, rv b172, rv b175, rv b182, rv b185, iv (-1), iv (-1)] []))
                    refine gs (fun t => XS.aload X195.here hx rfl (hb hby at_552) rfl rfl) ?_
                    obtain ⟨cq196, kq196, q196a, q196b, q196c⟩ := isOf hZ e195 Ex_b182
                    obtain ⟨_, _, ⟨T196, L196, k196, n196⟩, -, X196, ⟨Lc196, hQ196, l196, y196, z196⟩, st196⟩ := X195.virtualBack hx (y := (⟨"com/example/interval/interval/service/SlotOrder", "first", "()I"⟩ : MethodName)) (z := (⟨"com/example/interval/interval/service/SlotOrder", "first", "()I"⟩ : MethodName)) hown (mvT hZ (hw _ (List.mem_of_getElem? (i := 53) rfl))) (mvT hZ (hw _ (List.mem_of_getElem? (i := 54) rfl))) (notFace_of_selects (args := #[]) (mvT hZ (hw _ (List.mem_of_getElem? (i := 56) rfl)))) (mvT hZ (hw _ (List.mem_of_getElem? (i := 56) rfl))) (mvT hZ (hw _ (List.mem_of_getElem? (i := 55) rfl))) (by decide) (backOf (W := 0) (rmF0 l Z a0 hw [] b182 h192 n0 ZZ F_size_b182) hZ (hw _ (List.mem_of_getElem? (i := 57) rfl)) (hw _ (List.mem_of_getElem? (i := 33) rfl)) (by decide) (by decide)) q196a q196c (g := (mkF m 554 #[jv p0, .second, jv R1, .second, jv R2, .second, jv p3, .second, iv p4, iv pp, iv (oI fl), iv mb, iv dr, iv (oI rq), iv k0, iv ka, iv kb, iv k1, iv k2, rv b162, rv b166, rv b170, rv b172, rv b175, rv b182, rv b185, iv (-1), iv (-1)] [(.ref b182)])) rfl (by rw [hml]; rfl) (Steps.refl _) (argsL := []) (rest := []) (lenOf pd_12 rfl) rfl (by show 2 * 0 + _ ≤ _; exact Nat.le_of_eq rfl) (hb hby at_554) (fun _ _ => ⟨rfl, e195, (by decide : 12 + 0 ≤ _), (by decide : 74 + 0 ≤ _)⟩)
                    dsimp only [Pt.U, Pt.locs, Pt.cells, Pt.slots] at X196 l196 y196 z196 st196 hQ196
                    subst l196 y196 z196
                    obtain ⟨rfl, N196q, e196⟩ := hQ196
                    replace N192 := Fr.app N192 N196q
                    refine gt st196 ?_
                    show Go p e below s QQ room_1.cells room_1.slots (T196.setTop (mkF m 557 #[jv p0, .second, jv R1, .second, jv R2, .second, jv p3, .second, iv p4, iv pp, iv (oI fl), iv mb, iv dr, iv (oI rq), iv k0, iv ka, iv kb, iv k1, iv k2, rv b162, rv b166, rv b170, rv b172, rv b175, rv b182, rv b185, iv (-1), iv (-1)] [(.int (-1 : Int32))]))
                    refine gs (fun t => XS.iload X196.here hx rfl (hb hby at_557) rfl) ?_
                    refine gs (fun t => XS.icmpNo X196.here hx rfl (hb hby at_559) rfl (teq (by decide : (-1 : Int32) = (-1 : Int32))).2) ?_
                    refine gs (fun t => XS.iconst X196.here hx rfl (hb hby at_562)) ?_
                    refine gs (fun t => XS.goto X196.here hx rfl (pc0 := 563) (pc' := 567) rfl (hb hby at_563) (by decide) (by decide)) ?_
                    exact goB X196 hx Bd.notSynchronized Bd.returns (by simp) (w := (1 : Int32)) (by first | rfl | decide) (hb hby at_567) (by rw [← hQQ, e196]; exact ⟨rfl, N192⟩) (by decide) (by decide)
                  have ktn : ∀ (kn : Nat) (xs : Nat → Nat) (rn : Addr) (bv : Nat → Int32) (T197 : State) (h197 : Heap) (lc197 : List Loc) (X197 : Stand p l e room_1 s m #[(.long p0), (.long p1), (.long p2), (.long p3), (.int p4)] below meth c T197 lc197 12 74) (N197 : Fr n0 lc197) (e197 : T197.heap = h197) (ZZ : n0 ≤ h197.size) (V_b162 : Arf Z h197 b162 .long 3 (fun i => .long ((own_q3 S0 S1 S2) i))) (V_b170 : Arf Z h197 b170 .long 3 (fun i => .long ((own_vv fl (own_q3 S0 S1 S2) (own_q3 p0 R1 R2)) i))) (V_b175 : Arf Z h197 b175 .int 3 (fun i => .int (oI i))) (Ex_b182 : Exa Z h197 b182 "com/example/interval/interval/service/SlotOrder") (F_runs_b182 : Fld Z h197 b182 "com/example/interval/interval/service/SlotOrder" "runs" "[[I" (.ref ra)) (F_size_b182 : Fld Z h197 b182 "com/example/interval/interval/service/SlotOrder" "size" "I" (.int (oI kn))) (V_ra : Arf Z h197 ra (.array .int) 1 (fun _ => .ref rn)) (V_b185 : Arf Z h197 b185 .boolean 3 (fun i => .int (bv i))) (V_rn : Arf Z h197 rn .int 8 (fun i => .int (oI (xs i)))) (hk1 : 1 ≤ kn) (SR : own_S (own_vv fl (own_q3 S0 S1 S2) (own_q3 p0 R1 R2)) (own_q3 S0 S1 S2) kn xs bv) (hbv : ∀ i, i < 3 → bv i = 0 ∨ bv i = 1) (ne_b162_rn : b162 ≠ rn) (ne_b166_rn : b166 ≠ rn) (ne_b170_rn : b170 ≠ rn) (ne_b172_rn : b172 ≠ rn) (ne_pg_rn : pg ≠ rn) (ne_pa_rn : pa ≠ rn) (ne_b175_rn : b175 ≠ rn) (ne_b182_rn : b182 ≠ rn) (ne_ra_rn : ra ≠ rn) (ne_sz_rn : sz ≠ rn) (ne_b185_rn : b185 ≠ rn) (ge_rn : n0 ≤ rn), Go p e below s QQ room_1.cells room_1.slots (T197.setTop (mkF m 503 #[jv p0, .second, jv R1, .second, jv R2, .second, jv p3, .second, iv p4, iv pp, iv (oI fl), iv mb, iv dr, iv (oI rq), iv k0, iv ka, iv kb, iv k1, iv k2, rv b162, rv b166, rv b170, rv b172, rv b175, rv b182, rv b185, .unset, .unset] [])) := by
                    intro kn xs rn bv T197 h197 lc197 X197 N197 e197 ZZ V_b162 V_b170 V_b175 Ex_b182 F_runs_b182 F_size_b182 V_ra V_b185 V_rn hk1 SR hbv ne_b162_rn ne_b166_rn ne_b170_rn ne_b172_rn ne_pg_rn ne_pa_rn ne_b175_rn ne_b182_rn ne_ra_rn ne_sz_rn ne_b185_rn ge_rn
                    refine gs (fun t => XS.aload X197.here hx rfl (hb hby at_503) rfl rfl) ?_
                    refine gs (fun t => XS.aload X197.here hx rfl (hb hby at_505) rfl rfl) ?_
                    refine gs (fun t => XS.aload X197.here hx rfl (hb hby at_507) rfl rfl) ?_
                    refine gs (fun t => XS.aload X197.here hx rfl (hb hby at_509) rfl rfl) ?_
                    refine gs (fun t => XS.aload X197.here hx rfl (hb hby at_511) rfl rfl) ?_
                    show Go p e below s QQ room_1.cells room_1.slots (T197.setTop (mkF m 513 #[jv p0, .second, jv R1, .second, jv R2, .second, jv p3, .second, iv p4, iv pp, iv (oI fl), iv mb, iv dr, iv (oI rq), iv k0, iv ka, iv kb, iv k1, iv k2, rv b162, rv b166, rv b170, rv b172, rv b175, rv b182, rv b185, .unset, .unset] [(.ref b162), (.ref b170), (.ref b185), (.ref b162), (.ref b170)]))
                    refine gs (fun t => XS.aload X197.here hx rfl (hb hby at_513) rfl rfl) ?_
                    refine gs (fun t => XS.aload X197.here hx rfl (hb hby at_515) rfl rfl) ?_
                    refine gs (fun t => XS.aload X197.here hx rfl (hb hby at_517) rfl rfl) ?_
                    refine gs (fun t => XS.aload X197.here hx rfl (hb hby at_519) rfl rfl) ?_
                    refine gs (fun t => XS.iconst X197.here hx rfl (hb hby at_521)) ?_
                    refine gs (fun t => XS.iconst X197.here hx rfl (hb hby at_522)) ?_
                    show Go p e below s QQ room_1.cells room_1.slots (T197.setTop (mkF m 523 #[jv p0, .second, jv R1, .second, jv R2, .second, jv p3, .second, iv p4, iv pp, iv (oI fl), iv mb, iv dr, iv (oI rq), iv k0, iv ka, iv kb, iv k1, iv k2, rv b162, rv b166, rv b170, rv b172, rv b175, rv b182, rv b185, .unset, .unset] [(.int (0 : Int32)), (.int (-1 : Int32)), (.ref b185), (.ref b162), (.ref b170), (.ref b185), (.ref b162), (.ref b170), (.ref b185), (.ref b162), (.ref b170)]))
                    by_cases hv0 : bv 0 = (0 : Int32)
                    · skip
                      show Go p e below s QQ room_1.cells room_1.slots (T197.setTop (mkF m 523 #[jv p0, .second, jv R1, .second, jv R2, .second, jv p3, .second, iv p4, iv pp, iv (oI fl), iv mb, iv dr, iv (oI rq), iv k0, iv ka, iv kb, iv k1, iv k2, rv b162, rv b166, rv b170, rv b172, rv b175, rv b182, rv b185, .unset, .unset] [(.int (oI 0)), (.int (-1 : Int32)), (.ref b185), (.ref b162), (.ref b170), (.ref b185), (.ref b162), (.ref b170), (.ref b185), (.ref b162), (.ref b170)]))
                      obtain ⟨_, _, ⟨T198, L198, k198, n198⟩, -, X198, ⟨Lc198, hQ198, l198, y198, z198⟩, st198⟩ := Jvm.LawKit.callS X197 hx (y := (⟨"com/example/interval/interval/service/SlotOrderFirstPinLaw", "pick", "([J[J[ZII)I"⟩ : MethodName)) hown (mvT hZ (hw _ (List.mem_of_getElem? (i := 49) rfl))) (mvT hZ (hw _ (List.mem_of_getElem? (i := 50) rfl))) (mvT hZ (hw _ (List.mem_of_getElem? (i := 51) rfl))) (mvT hZ (hw _ (List.mem_of_getElem? (i := 52) rfl))) (by decide) (backOf (W := 6) (rmPN0 l Z a0 hw [] b170 b162 b185 0 bv h197 n0 ZZ V_b185 (by decide) hv0) hZ (hw _ (List.mem_of_getElem? (i := 52) rfl)) (hw _ (List.mem_of_getElem? (i := 51) rfl)) (by decide) (by decide)) (g := (mkF m 523 #[jv p0, .second, jv R1, .second, jv R2, .second, jv p3, .second, iv p4, iv pp, iv (oI fl), iv mb, iv dr, iv (oI rq), iv k0, iv ka, iv kb, iv k1, iv k2, rv b162, rv b166, rv b170, rv b172, rv b175, rv b182, rv b185, .unset, .unset] [(.int (oI 0)), (.int (-1 : Int32)), (.ref b185), (.ref b162), (.ref b170), (.ref b185), (.ref b162), (.ref b170), (.ref b185), (.ref b162), (.ref b170)])) rfl (by rw [hml]; rfl) (argsL := [(.ref b170), (.ref b162), (.ref b185), (.int (-1 : Int32)), (.int (oI 0))]) (rest := [(.ref b185), (.ref b162), (.ref b170), (.ref b185), (.ref b162), (.ref b170)]) (lenOf pd_11 rfl) rfl (by show 2 * 0 + _ ≤ _; exact Nat.le_of_eq rfl) (hb hby at_523) (fun _ _ => ⟨rfl, e197, (by decide : 12 + 0 ≤ _), (by decide : 74 + 0 ≤ _)⟩)
                      dsimp only [Pt.U, Pt.locs, Pt.cells, Pt.slots] at X198 l198 y198 z198 st198 hQ198
                      subst l198 y198 z198
                      obtain ⟨rfl, N198q, e198⟩ := hQ198
                      replace N197 := Fr.app N197 N198q
                      refine gs st198 ?_
                      show Go p e below s QQ room_1.cells room_1.slots (T198.setTop (mkF m 526 #[jv p0, .second, jv R1, .second, jv R2, .second, jv p3, .second, iv p4, iv pp, iv (oI fl), iv mb, iv dr, iv (oI rq), iv k0, iv ka, iv kb, iv k1, iv k2, rv b162, rv b166, rv b170, rv b172, rv b175, rv b182, rv b185, .unset, .unset] [(.int (-1 : Int32)), (.ref b185), (.ref b162), (.ref b170), (.ref b185), (.ref b162), (.ref b170)]))
                      refine gs (fun t => XS.iconst X198.here hx rfl (hb hby at_526)) ?_
                      by_cases hv1 : bv 1 = (0 : Int32)
                      · skip
                        show Go p e below s QQ room_1.cells room_1.slots (T198.setTop (mkF m 527 #[jv p0, .second, jv R1, .second, jv R2, .second, jv p3, .second, iv p4, iv pp, iv (oI fl), iv mb, iv dr, iv (oI rq), iv k0, iv ka, iv kb, iv k1, iv k2, rv b162, rv b166, rv b170, rv b172, rv b175, rv b182, rv b185, .unset, .unset] [(.int (oI 1)), (.int (-1 : Int32)), (.ref b185), (.ref b162), (.ref b170), (.ref b185), (.ref b162), (.ref b170)]))
                        obtain ⟨_, _, ⟨T199, L199, k199, n199⟩, -, X199, ⟨Lc199, hQ199, l199, y199, z199⟩, st199⟩ := Jvm.LawKit.callS X198 hx (y := (⟨"com/example/interval/interval/service/SlotOrderFirstPinLaw", "pick", "([J[J[ZII)I"⟩ : MethodName)) hown (mvT hZ (hw _ (List.mem_of_getElem? (i := 49) rfl))) (mvT hZ (hw _ (List.mem_of_getElem? (i := 50) rfl))) (mvT hZ (hw _ (List.mem_of_getElem? (i := 51) rfl))) (mvT hZ (hw _ (List.mem_of_getElem? (i := 52) rfl))) (by decide) (backOf (W := 3) (rmPN0 l Z a0 hw [] b170 b162 b185 1 bv h197 n0 ZZ V_b185 (by decide) hv1) hZ (hw _ (List.mem_of_getElem? (i := 52) rfl)) (hw _ (List.mem_of_getElem? (i := 51) rfl)) (by decide) (by decide)) (g := (mkF m 527 #[jv p0, .second, jv R1, .second, jv R2, .second, jv p3, .second, iv p4, iv pp, iv (oI fl), iv mb, iv dr, iv (oI rq), iv k0, iv ka, iv kb, iv k1, iv k2, rv b162, rv b166, rv b170, rv b172, rv b175, rv b182, rv b185, .unset, .unset] [(.int (oI 1)), (.int (-1 : Int32)), (.ref b185), (.ref b162), (.ref b170), (.ref b185), (.ref b162), (.ref b170)])) rfl (by rw [hml]; rfl) (argsL := [(.ref b170), (.ref b162), (.ref b185), (.int (-1 : Int32)), (.int (oI 1))]) (rest := [(.ref b185), (.ref b162), (.ref b170)]) (lenOf pd_11 rfl) rfl (by show 2 * 0 + _ ≤ _; exact Nat.le_of_eq rfl) (hb hby at_527) (fun _ _ => ⟨rfl, e198, (by decide : 12 + 0 ≤ _), (by decide : 74 + 0 ≤ _)⟩)
                        dsimp only [Pt.U, Pt.locs, Pt.cells, Pt.slots] at X199 l199 y199 z199 st199 hQ199
                        subst l199 y199 z199
                        obtain ⟨rfl, N199q, e199⟩ := hQ199
                        replace N197 := Fr.app N197 N199q
                        refine gs st199 ?_
                        show Go p e below s QQ room_1.cells room_1.slots (T199.setTop (mkF m 530 #[jv p0, .second, jv R1, .second, jv R2, .second, jv p3, .second, iv p4, iv pp, iv (oI fl), iv mb, iv dr, iv (oI rq), iv k0, iv ka, iv kb, iv k1, iv k2, rv b162, rv b166, rv b170, rv b172, rv b175, rv b182, rv b185, .unset, .unset] [(.int (-1 : Int32)), (.ref b185), (.ref b162), (.ref b170)]))
                        refine gs (fun t => XS.iconst X199.here hx rfl (hb hby at_530)) ?_
                        by_cases hv2 : bv 2 = (0 : Int32)
                        · skip
                          show Go p e below s QQ room_1.cells room_1.slots (T199.setTop (mkF m 531 #[jv p0, .second, jv R1, .second, jv R2, .second, jv p3, .second, iv p4, iv pp, iv (oI fl), iv mb, iv dr, iv (oI rq), iv k0, iv ka, iv kb, iv k1, iv k2, rv b162, rv b166, rv b170, rv b172, rv b175, rv b182, rv b185, .unset, .unset] [(.int (oI 2)), (.int (-1 : Int32)), (.ref b185), (.ref b162), (.ref b170)]))
                          obtain ⟨_, _, ⟨T200, L200, k200, n200⟩, -, X200, ⟨Lc200, hQ200, l200, y200, z200⟩, st200⟩ := Jvm.LawKit.callS X199 hx (y := (⟨"com/example/interval/interval/service/SlotOrderFirstPinLaw", "pick", "([J[J[ZII)I"⟩ : MethodName)) hown (mvT hZ (hw _ (List.mem_of_getElem? (i := 49) rfl))) (mvT hZ (hw _ (List.mem_of_getElem? (i := 50) rfl))) (mvT hZ (hw _ (List.mem_of_getElem? (i := 51) rfl))) (mvT hZ (hw _ (List.mem_of_getElem? (i := 52) rfl))) (by decide) (backOf (W := 0) (rmPN0 l Z a0 hw [] b170 b162 b185 2 bv h197 n0 ZZ V_b185 (by decide) hv2) hZ (hw _ (List.mem_of_getElem? (i := 52) rfl)) (hw _ (List.mem_of_getElem? (i := 51) rfl)) (by decide) (by decide)) (g := (mkF m 531 #[jv p0, .second, jv R1, .second, jv R2, .second, jv p3, .second, iv p4, iv pp, iv (oI fl), iv mb, iv dr, iv (oI rq), iv k0, iv ka, iv kb, iv k1, iv k2, rv b162, rv b166, rv b170, rv b172, rv b175, rv b182, rv b185, .unset, .unset] [(.int (oI 2)), (.int (-1 : Int32)), (.ref b185), (.ref b162), (.ref b170)])) rfl (by rw [hml]; rfl) (argsL := [(.ref b170), (.ref b162), (.ref b185), (.int (-1 : Int32)), (.int (oI 2))]) (rest := []) (lenOf pd_11 rfl) rfl (by show 2 * 0 + _ ≤ _; exact Nat.le_of_eq rfl) (hb hby at_531) (fun _ _ => ⟨rfl, e199, (by decide : 12 + 0 ≤ _), (by decide : 74 + 0 ≤ _)⟩)
                          dsimp only [Pt.U, Pt.locs, Pt.cells, Pt.slots] at X200 l200 y200 z200 st200 hQ200
                          subst l200 y200 z200
                          obtain ⟨rfl, N200q, e200⟩ := hQ200
                          replace N197 := Fr.app N197 N200q
                          refine gs st200 ?_
                          show Go p e below s QQ room_1.cells room_1.slots (T200.setTop (mkF m 534 #[jv p0, .second, jv R1, .second, jv R2, .second, jv p3, .second, iv p4, iv pp, iv (oI fl), iv mb, iv dr, iv (oI rq), iv k0, iv ka, iv kb, iv k1, iv k2, rv b162, rv b166, rv b170, rv b172, rv b175, rv b182, rv b185, .unset, .unset] [(.int (-1 : Int32))]))
                          exact (own_none SR hk1 (fun a ha => by rcases own_3c ha with rfl | rfl | rfl <;> assumption)).elim
                        · skip
                          show Go p e below s QQ room_1.cells room_1.slots (T199.setTop (mkF m 531 #[jv p0, .second, jv R1, .second, jv R2, .second, jv p3, .second, iv p4, iv pp, iv (oI fl), iv mb, iv dr, iv (oI rq), iv k0, iv ka, iv kb, iv k1, iv k2, rv b162, rv b166, rv b170, rv b172, rv b175, rv b182, rv b185, .unset, .unset] [(.int (oI 2)), (.int (-1 : Int32)), (.ref b185), (.ref b162), (.ref b170)]))
                          obtain ⟨_, _, ⟨T201, L201, k201, n201⟩, -, X201, ⟨Lc201, hQ201, l201, y201, z201⟩, st201⟩ := Jvm.LawKit.callS X199 hx (y := (⟨"com/example/interval/interval/service/SlotOrderFirstPinLaw", "pick", "([J[J[ZII)I"⟩ : MethodName)) hown (mvT hZ (hw _ (List.mem_of_getElem? (i := 49) rfl))) (mvT hZ (hw _ (List.mem_of_getElem? (i := 50) rfl))) (mvT hZ (hw _ (List.mem_of_getElem? (i := 51) rfl))) (mvT hZ (hw _ (List.mem_of_getElem? (i := 52) rfl))) (by decide) (backOf (W := 0) (rmPN1 l Z a0 hw [] b170 b162 b185 2 bv h197 n0 ZZ V_b185 (by decide) hv2) hZ (hw _ (List.mem_of_getElem? (i := 52) rfl)) (hw _ (List.mem_of_getElem? (i := 51) rfl)) (by decide) (by decide)) (g := (mkF m 531 #[jv p0, .second, jv R1, .second, jv R2, .second, jv p3, .second, iv p4, iv pp, iv (oI fl), iv mb, iv dr, iv (oI rq), iv k0, iv ka, iv kb, iv k1, iv k2, rv b162, rv b166, rv b170, rv b172, rv b175, rv b182, rv b185, .unset, .unset] [(.int (oI 2)), (.int (-1 : Int32)), (.ref b185), (.ref b162), (.ref b170)])) rfl (by rw [hml]; rfl) (argsL := [(.ref b170), (.ref b162), (.ref b185), (.int (-1 : Int32)), (.int (oI 2))]) (rest := []) (lenOf pd_11 rfl) rfl (by show 2 * 0 + _ ≤ _; exact Nat.le_of_eq rfl) (hb hby at_531) (fun _ _ => ⟨rfl, e199, (by decide : 12 + 0 ≤ _), (by decide : 74 + 0 ≤ _)⟩)
                          dsimp only [Pt.U, Pt.locs, Pt.cells, Pt.slots] at X201 l201 y201 z201 st201 hQ201
                          subst l201 y201 z201
                          obtain ⟨rfl, N201q, e201⟩ := hQ201
                          replace N197 := Fr.app N197 N201q
                          refine gs st201 ?_
                          show Go p e below s QQ room_1.cells room_1.slots (T201.setTop (mkF m 534 #[jv p0, .second, jv R1, .second, jv R2, .second, jv p3, .second, iv p4, iv pp, iv (oI fl), iv mb, iv dr, iv (oI rq), iv k0, iv ka, iv kb, iv k1, iv k2, rv b162, rv b166, rv b170, rv b172, rv b175, rv b182, rv b185, .unset, .unset] [(.int (oI 2))]))
                          have M3 : own_M (own_vv fl (own_q3 S0 S1 S2) (own_q3 p0 R1 R2)) (own_q3 S0 S1 S2) bv (2 + 1) 2 := own_M1 (fun a ha => by have q : a = 0 ∨ a = 1 := (by omega); rcases q with rfl | rfl <;> assumption) (own_is1 hbv (by decide) hv2)
                          refine gs (fun t => XS.istore X201.here hx rfl (hb hby at_534) rfl (l' := #[jv p0, .second, jv R1, .second, jv R2, .second, jv p3, .second, iv p4, iv pp, iv (oI fl), iv mb, iv dr, iv (oI rq), iv k0, iv ka, iv kb, iv k1, iv k2, rv b162, rv b166, rv b170, rv b172, rv b175, rv b182, rv b185, iv (oI 2), .unset]) rfl) ?_
                          refine gs (fun t => XS.iload X201.here hx rfl (hb hby at_536) rfl) ?_
                          refine gs (fun t => XS.ifYes X201.here hx rfl (pc0 := 538) (pc' := 545) rfl (hb hby at_538) rfl ((if0 _ _).trans (flt (oI_nn (by have := (M3).1; omega) : ¬ ((oI 2) < (0 : Int32)))).2.1) (by decide) (by decide)) ?_
                          refine gs (fun t => XS.aload X201.here hx rfl (hb hby at_545) rfl rfl) ?_
                          refine gs (fun t => XS.iload X201.here hx rfl (hb hby at_547) rfl) ?_
                          refine gs (fun t => ldIf X201 hx hZ e201 V_b175 (j := (oI 2)) (v := (.int (oI 2))) (own_oin (M3).1 (by decide)) (by rw [oI_c (by have := (M3).1; omega)]) (g := (mkF m 549 #[jv p0, .second, jv R1, .second, jv R2, .second, jv p3, .second, iv p4, iv pp, iv (oI fl), iv mb, iv dr, iv (oI rq), iv k0, iv ka, iv kb, iv k1, iv k2, rv b162, rv b166, rv b170, rv b172, rv b175, rv b182, rv b185, iv (oI 2), .unset] [(.int (oI 2)), (.ref b175)])) rfl rfl (hb hby at_549) t) ?_
                          show Go p e below s QQ room_1.cells room_1.slots (T201.setTop (mkF m 550 #[jv p0, .second, jv R1, .second, jv R2, .second, jv p3, .second, iv p4, iv pp, iv (oI fl), iv mb, iv dr, iv (oI rq), iv k0, iv ka, iv kb, iv k1, iv k2, rv b162, rv b166, rv b170, rv b172, rv b175, rv b182, rv b185, iv (oI 2), .unset] [(.int (oI 2))]))
                          refine gs (fun t => XS.istore X201.here hx rfl (hb hby at_550) rfl (l' := #[jv p0, .second, jv R1, .second, jv R2, .second, jv p3, .second, iv p4, iv pp, iv (oI fl), iv mb, iv dr, iv (oI rq), iv k0, iv ka, iv kb, iv k1, iv k2, rv b162, rv b166, rv b170, rv b172, rv b175, rv b182, rv b185, iv (oI 2), iv (oI 2)]) rfl) ?_
                          refine gs (fun t => XS.aload X201.here hx rfl (hb hby at_552) rfl rfl) ?_
                          obtain ⟨cq202, kq202, q202a, q202b, q202c⟩ := isOf hZ e201 Ex_b182
                          obtain ⟨_, _, ⟨T202, L202, k202, n202⟩, -, X202, ⟨Lc202, hQ202, l202, y202, z202⟩, st202⟩ := X201.virtualBack hx (y := (⟨"com/example/interval/interval/service/SlotOrder", "first", "()I"⟩ : MethodName)) (z := (⟨"com/example/interval/interval/service/SlotOrder", "first", "()I"⟩ : MethodName)) hown (mvT hZ (hw _ (List.mem_of_getElem? (i := 53) rfl))) (mvT hZ (hw _ (List.mem_of_getElem? (i := 54) rfl))) (notFace_of_selects (args := #[]) (mvT hZ (hw _ (List.mem_of_getElem? (i := 56) rfl)))) (mvT hZ (hw _ (List.mem_of_getElem? (i := 56) rfl))) (mvT hZ (hw _ (List.mem_of_getElem? (i := 55) rfl))) (by decide) (backOf (W := 0) (rmFN l Z a0 hw [] b182 ra rn kn xs h197 n0 ZZ F_size_b182 F_runs_b182 V_ra V_rn hk1 SR.1) hZ (hw _ (List.mem_of_getElem? (i := 57) rfl)) (hw _ (List.mem_of_getElem? (i := 33) rfl)) (by decide) (by decide)) q202a q202c (g := (mkF m 554 #[jv p0, .second, jv R1, .second, jv R2, .second, jv p3, .second, iv p4, iv pp, iv (oI fl), iv mb, iv dr, iv (oI rq), iv k0, iv ka, iv kb, iv k1, iv k2, rv b162, rv b166, rv b170, rv b172, rv b175, rv b182, rv b185, iv (oI 2), iv (oI 2)] [(.ref b182)])) rfl (by rw [hml]; rfl) (Steps.refl _) (argsL := []) (rest := []) (lenOf pd_12 rfl) rfl (by show 2 * 0 + _ ≤ _; exact Nat.le_of_eq rfl) (hb hby at_554) (fun _ _ => ⟨rfl, e201, (by decide : 12 + 0 ≤ _), (by decide : 74 + 0 ≤ _)⟩)
                          dsimp only [Pt.U, Pt.locs, Pt.cells, Pt.slots] at X202 l202 y202 z202 st202 hQ202
                          subst l202 y202 z202
                          obtain ⟨rfl, N202q, e202⟩ := hQ202
                          replace N197 := Fr.app N197 N202q
                          refine gt st202 ?_
                          show Go p e below s QQ room_1.cells room_1.slots (T202.setTop (mkF m 557 #[jv p0, .second, jv R1, .second, jv R2, .second, jv p3, .second, iv p4, iv pp, iv (oI fl), iv mb, iv dr, iv (oI rq), iv k0, iv ka, iv kb, iv k1, iv k2, rv b162, rv b166, rv b170, rv b172, rv b175, rv b182, rv b185, iv (oI 2), iv (oI 2)] [(.int (oI (xs 0)))]))
                          refine gs (fun t => XS.iload X202.here hx rfl (hb hby at_557) rfl) ?_
                          refine gs (fun t => XS.icmpNo X202.here hx rfl (hb hby at_559) rfl (teq (congrArg oI (own_fin SR (M3).1 (M3).2.1 (M3).2.2) : (oI (xs 0)) = (oI 2))).2) ?_
                          refine gs (fun t => XS.iconst X202.here hx rfl (hb hby at_562)) ?_
                          refine gs (fun t => XS.goto X202.here hx rfl (pc0 := 563) (pc' := 567) rfl (hb hby at_563) (by decide) (by decide)) ?_
                          exact goB X202 hx Bd.notSynchronized Bd.returns (by simp) (w := (1 : Int32)) (by first | rfl | decide) (hb hby at_567) (by rw [← hQQ, e202]; exact ⟨rfl, N197⟩) (by decide) (by decide)
                      · skip
                        show Go p e below s QQ room_1.cells room_1.slots (T198.setTop (mkF m 527 #[jv p0, .second, jv R1, .second, jv R2, .second, jv p3, .second, iv p4, iv pp, iv (oI fl), iv mb, iv dr, iv (oI rq), iv k0, iv ka, iv kb, iv k1, iv k2, rv b162, rv b166, rv b170, rv b172, rv b175, rv b182, rv b185, .unset, .unset] [(.int (oI 1)), (.int (-1 : Int32)), (.ref b185), (.ref b162), (.ref b170), (.ref b185), (.ref b162), (.ref b170)]))
                        obtain ⟨_, _, ⟨T203, L203, k203, n203⟩, -, X203, ⟨Lc203, hQ203, l203, y203, z203⟩, st203⟩ := Jvm.LawKit.callS X198 hx (y := (⟨"com/example/interval/interval/service/SlotOrderFirstPinLaw", "pick", "([J[J[ZII)I"⟩ : MethodName)) hown (mvT hZ (hw _ (List.mem_of_getElem? (i := 49) rfl))) (mvT hZ (hw _ (List.mem_of_getElem? (i := 50) rfl))) (mvT hZ (hw _ (List.mem_of_getElem? (i := 51) rfl))) (mvT hZ (hw _ (List.mem_of_getElem? (i := 52) rfl))) (by decide) (backOf (W := 3) (rmPN1 l Z a0 hw [] b170 b162 b185 1 bv h197 n0 ZZ V_b185 (by decide) hv1) hZ (hw _ (List.mem_of_getElem? (i := 52) rfl)) (hw _ (List.mem_of_getElem? (i := 51) rfl)) (by decide) (by decide)) (g := (mkF m 527 #[jv p0, .second, jv R1, .second, jv R2, .second, jv p3, .second, iv p4, iv pp, iv (oI fl), iv mb, iv dr, iv (oI rq), iv k0, iv ka, iv kb, iv k1, iv k2, rv b162, rv b166, rv b170, rv b172, rv b175, rv b182, rv b185, .unset, .unset] [(.int (oI 1)), (.int (-1 : Int32)), (.ref b185), (.ref b162), (.ref b170), (.ref b185), (.ref b162), (.ref b170)])) rfl (by rw [hml]; rfl) (argsL := [(.ref b170), (.ref b162), (.ref b185), (.int (-1 : Int32)), (.int (oI 1))]) (rest := [(.ref b185), (.ref b162), (.ref b170)]) (lenOf pd_11 rfl) rfl (by show 2 * 0 + _ ≤ _; exact Nat.le_of_eq rfl) (hb hby at_527) (fun _ _ => ⟨rfl, e198, (by decide : 12 + 0 ≤ _), (by decide : 74 + 0 ≤ _)⟩)
                        dsimp only [Pt.U, Pt.locs, Pt.cells, Pt.slots] at X203 l203 y203 z203 st203 hQ203
                        subst l203 y203 z203
                        obtain ⟨rfl, N203q, e203⟩ := hQ203
                        replace N197 := Fr.app N197 N203q
                        refine gs st203 ?_
                        show Go p e below s QQ room_1.cells room_1.slots (T203.setTop (mkF m 530 #[jv p0, .second, jv R1, .second, jv R2, .second, jv p3, .second, iv p4, iv pp, iv (oI fl), iv mb, iv dr, iv (oI rq), iv k0, iv ka, iv kb, iv k1, iv k2, rv b162, rv b166, rv b170, rv b172, rv b175, rv b182, rv b185, .unset, .unset] [(.int (oI 1)), (.ref b185), (.ref b162), (.ref b170)]))
                        have M2 : own_M (own_vv fl (own_q3 S0 S1 S2) (own_q3 p0 R1 R2)) (own_q3 S0 S1 S2) bv (1 + 1) 1 := own_M1 (fun a ha => by have q : a = 0 := (by omega); rw [q]; exact hv0) (own_is1 hbv (by decide) hv1)
                        refine gs (fun t => XS.iconst X203.here hx rfl (hb hby at_530)) ?_
                        by_cases hv2 : bv 2 = (0 : Int32)
                        · skip
                          show Go p e below s QQ room_1.cells room_1.slots (T203.setTop (mkF m 531 #[jv p0, .second, jv R1, .second, jv R2, .second, jv p3, .second, iv p4, iv pp, iv (oI fl), iv mb, iv dr, iv (oI rq), iv k0, iv ka, iv kb, iv k1, iv k2, rv b162, rv b166, rv b170, rv b172, rv b175, rv b182, rv b185, .unset, .unset] [(.int (oI 2)), (.int (oI 1)), (.ref b185), (.ref b162), (.ref b170)]))
                          obtain ⟨_, _, ⟨T204, L204, k204, n204⟩, -, X204, ⟨Lc204, hQ204, l204, y204, z204⟩, st204⟩ := Jvm.LawKit.callS X203 hx (y := (⟨"com/example/interval/interval/service/SlotOrderFirstPinLaw", "pick", "([J[J[ZII)I"⟩ : MethodName)) hown (mvT hZ (hw _ (List.mem_of_getElem? (i := 49) rfl))) (mvT hZ (hw _ (List.mem_of_getElem? (i := 50) rfl))) (mvT hZ (hw _ (List.mem_of_getElem? (i := 51) rfl))) (mvT hZ (hw _ (List.mem_of_getElem? (i := 52) rfl))) (by decide) (backOf (W := 0) (rmPS0 l Z a0 hw [] b170 b162 b185 2 bv 1 h197 n0 ZZ V_b185 (by decide) hv2) hZ (hw _ (List.mem_of_getElem? (i := 52) rfl)) (hw _ (List.mem_of_getElem? (i := 51) rfl)) (by decide) (by decide)) (g := (mkF m 531 #[jv p0, .second, jv R1, .second, jv R2, .second, jv p3, .second, iv p4, iv pp, iv (oI fl), iv mb, iv dr, iv (oI rq), iv k0, iv ka, iv kb, iv k1, iv k2, rv b162, rv b166, rv b170, rv b172, rv b175, rv b182, rv b185, .unset, .unset] [(.int (oI 2)), (.int (oI 1)), (.ref b185), (.ref b162), (.ref b170)])) rfl (by rw [hml]; rfl) (argsL := [(.ref b170), (.ref b162), (.ref b185), (.int (oI 1)), (.int (oI 2))]) (rest := []) (lenOf pd_11 rfl) rfl (by show 2 * 0 + _ ≤ _; exact Nat.le_of_eq rfl) (hb hby at_531) (fun _ _ => ⟨rfl, e203, (by decide : 12 + 0 ≤ _), (by decide : 74 + 0 ≤ _)⟩)
                          dsimp only [Pt.U, Pt.locs, Pt.cells, Pt.slots] at X204 l204 y204 z204 st204 hQ204
                          subst l204 y204 z204
                          obtain ⟨rfl, N204q, e204⟩ := hQ204
                          replace N197 := Fr.app N197 N204q
                          refine gs st204 ?_
                          show Go p e below s QQ room_1.cells room_1.slots (T204.setTop (mkF m 534 #[jv p0, .second, jv R1, .second, jv R2, .second, jv p3, .second, iv p4, iv pp, iv (oI fl), iv mb, iv dr, iv (oI rq), iv k0, iv ka, iv kb, iv k1, iv k2, rv b162, rv b166, rv b170, rv b172, rv b175, rv b182, rv b185, .unset, .unset] [(.int (oI 1))]))
                          have M3 := own_M2 M2 hv2
                          refine gs (fun t => XS.istore X204.here hx rfl (hb hby at_534) rfl (l' := #[jv p0, .second, jv R1, .second, jv R2, .second, jv p3, .second, iv p4, iv pp, iv (oI fl), iv mb, iv dr, iv (oI rq), iv k0, iv ka, iv kb, iv k1, iv k2, rv b162, rv b166, rv b170, rv b172, rv b175, rv b182, rv b185, iv (oI 1), .unset]) rfl) ?_
                          refine gs (fun t => XS.iload X204.here hx rfl (hb hby at_536) rfl) ?_
                          refine gs (fun t => XS.ifYes X204.here hx rfl (pc0 := 538) (pc' := 545) rfl (hb hby at_538) rfl ((if0 _ _).trans (flt (oI_nn (by have := (M3).1; omega) : ¬ ((oI 1) < (0 : Int32)))).2.1) (by decide) (by decide)) ?_
                          refine gs (fun t => XS.aload X204.here hx rfl (hb hby at_545) rfl rfl) ?_
                          refine gs (fun t => XS.iload X204.here hx rfl (hb hby at_547) rfl) ?_
                          refine gs (fun t => ldIf X204 hx hZ e204 V_b175 (j := (oI 1)) (v := (.int (oI 1))) (own_oin (M3).1 (by decide)) (by rw [oI_c (by have := (M3).1; omega)]) (g := (mkF m 549 #[jv p0, .second, jv R1, .second, jv R2, .second, jv p3, .second, iv p4, iv pp, iv (oI fl), iv mb, iv dr, iv (oI rq), iv k0, iv ka, iv kb, iv k1, iv k2, rv b162, rv b166, rv b170, rv b172, rv b175, rv b182, rv b185, iv (oI 1), .unset] [(.int (oI 1)), (.ref b175)])) rfl rfl (hb hby at_549) t) ?_
                          show Go p e below s QQ room_1.cells room_1.slots (T204.setTop (mkF m 550 #[jv p0, .second, jv R1, .second, jv R2, .second, jv p3, .second, iv p4, iv pp, iv (oI fl), iv mb, iv dr, iv (oI rq), iv k0, iv ka, iv kb, iv k1, iv k2, rv b162, rv b166, rv b170, rv b172, rv b175, rv b182, rv b185, iv (oI 1), .unset] [(.int (oI 1))]))
                          refine gs (fun t => XS.istore X204.here hx rfl (hb hby at_550) rfl (l' := #[jv p0, .second, jv R1, .second, jv R2, .second, jv p3, .second, iv p4, iv pp, iv (oI fl), iv mb, iv dr, iv (oI rq), iv k0, iv ka, iv kb, iv k1, iv k2, rv b162, rv b166, rv b170, rv b172, rv b175, rv b182, rv b185, iv (oI 1), iv (oI 1)]) rfl) ?_
                          refine gs (fun t => XS.aload X204.here hx rfl (hb hby at_552) rfl rfl) ?_
                          obtain ⟨cq205, kq205, q205a, q205b, q205c⟩ := isOf hZ e204 Ex_b182
                          obtain ⟨_, _, ⟨T205, L205, k205, n205⟩, -, X205, ⟨Lc205, hQ205, l205, y205, z205⟩, st205⟩ := X204.virtualBack hx (y := (⟨"com/example/interval/interval/service/SlotOrder", "first", "()I"⟩ : MethodName)) (z := (⟨"com/example/interval/interval/service/SlotOrder", "first", "()I"⟩ : MethodName)) hown (mvT hZ (hw _ (List.mem_of_getElem? (i := 53) rfl))) (mvT hZ (hw _ (List.mem_of_getElem? (i := 54) rfl))) (notFace_of_selects (args := #[]) (mvT hZ (hw _ (List.mem_of_getElem? (i := 56) rfl)))) (mvT hZ (hw _ (List.mem_of_getElem? (i := 56) rfl))) (mvT hZ (hw _ (List.mem_of_getElem? (i := 55) rfl))) (by decide) (backOf (W := 0) (rmFN l Z a0 hw [] b182 ra rn kn xs h197 n0 ZZ F_size_b182 F_runs_b182 V_ra V_rn hk1 SR.1) hZ (hw _ (List.mem_of_getElem? (i := 57) rfl)) (hw _ (List.mem_of_getElem? (i := 33) rfl)) (by decide) (by decide)) q205a q205c (g := (mkF m 554 #[jv p0, .second, jv R1, .second, jv R2, .second, jv p3, .second, iv p4, iv pp, iv (oI fl), iv mb, iv dr, iv (oI rq), iv k0, iv ka, iv kb, iv k1, iv k2, rv b162, rv b166, rv b170, rv b172, rv b175, rv b182, rv b185, iv (oI 1), iv (oI 1)] [(.ref b182)])) rfl (by rw [hml]; rfl) (Steps.refl _) (argsL := []) (rest := []) (lenOf pd_12 rfl) rfl (by show 2 * 0 + _ ≤ _; exact Nat.le_of_eq rfl) (hb hby at_554) (fun _ _ => ⟨rfl, e204, (by decide : 12 + 0 ≤ _), (by decide : 74 + 0 ≤ _)⟩)
                          dsimp only [Pt.U, Pt.locs, Pt.cells, Pt.slots] at X205 l205 y205 z205 st205 hQ205
                          subst l205 y205 z205
                          obtain ⟨rfl, N205q, e205⟩ := hQ205
                          replace N197 := Fr.app N197 N205q
                          refine gt st205 ?_
                          show Go p e below s QQ room_1.cells room_1.slots (T205.setTop (mkF m 557 #[jv p0, .second, jv R1, .second, jv R2, .second, jv p3, .second, iv p4, iv pp, iv (oI fl), iv mb, iv dr, iv (oI rq), iv k0, iv ka, iv kb, iv k1, iv k2, rv b162, rv b166, rv b170, rv b172, rv b175, rv b182, rv b185, iv (oI 1), iv (oI 1)] [(.int (oI (xs 0)))]))
                          refine gs (fun t => XS.iload X205.here hx rfl (hb hby at_557) rfl) ?_
                          refine gs (fun t => XS.icmpNo X205.here hx rfl (hb hby at_559) rfl (teq (congrArg oI (own_fin SR (M3).1 (M3).2.1 (M3).2.2) : (oI (xs 0)) = (oI 1))).2) ?_
                          refine gs (fun t => XS.iconst X205.here hx rfl (hb hby at_562)) ?_
                          refine gs (fun t => XS.goto X205.here hx rfl (pc0 := 563) (pc' := 567) rfl (hb hby at_563) (by decide) (by decide)) ?_
                          exact goB X205 hx Bd.notSynchronized Bd.returns (by simp) (w := (1 : Int32)) (by first | rfl | decide) (hb hby at_567) (by rw [← hQQ, e205]; exact ⟨rfl, N197⟩) (by decide) (by decide)
                        · skip
                          show Go p e below s QQ room_1.cells room_1.slots (T203.setTop (mkF m 531 #[jv p0, .second, jv R1, .second, jv R2, .second, jv p3, .second, iv p4, iv pp, iv (oI fl), iv mb, iv dr, iv (oI rq), iv k0, iv ka, iv kb, iv k1, iv k2, rv b162, rv b166, rv b170, rv b172, rv b175, rv b182, rv b185, .unset, .unset] [(.int (oI 2)), (.int (oI 1)), (.ref b185), (.ref b162), (.ref b170)]))
                          obtain ⟨_, _, ⟨T206, L206, k206, n206⟩, -, X206, ⟨Lc206, hQ206, l206, y206, z206⟩, st206⟩ := Jvm.LawKit.callS X203 hx (y := (⟨"com/example/interval/interval/service/SlotOrderFirstPinLaw", "pick", "([J[J[ZII)I"⟩ : MethodName)) hown (mvT hZ (hw _ (List.mem_of_getElem? (i := 49) rfl))) (mvT hZ (hw _ (List.mem_of_getElem? (i := 50) rfl))) (mvT hZ (hw _ (List.mem_of_getElem? (i := 51) rfl))) (mvT hZ (hw _ (List.mem_of_getElem? (i := 52) rfl))) (by decide) (backOf (W := 0) (rmPS1 l Z a0 hw [] b170 b162 b185 2 bv 1 (own_vv fl (own_q3 S0 S1 S2) (own_q3 p0 R1 R2)) (own_q3 S0 S1 S2) h197 n0 ZZ V_b170 V_b162 V_b185 (by decide) (by have := (M2).1; omega) hv2) hZ (hw _ (List.mem_of_getElem? (i := 52) rfl)) (hw _ (List.mem_of_getElem? (i := 51) rfl)) (by decide) (by decide)) (g := (mkF m 531 #[jv p0, .second, jv R1, .second, jv R2, .second, jv p3, .second, iv p4, iv pp, iv (oI fl), iv mb, iv dr, iv (oI rq), iv k0, iv ka, iv kb, iv k1, iv k2, rv b162, rv b166, rv b170, rv b172, rv b175, rv b182, rv b185, .unset, .unset] [(.int (oI 2)), (.int (oI 1)), (.ref b185), (.ref b162), (.ref b170)])) rfl (by rw [hml]; rfl) (argsL := [(.ref b170), (.ref b162), (.ref b185), (.int (oI 1)), (.int (oI 2))]) (rest := []) (lenOf pd_11 rfl) rfl (by show 2 * 0 + _ ≤ _; exact Nat.le_of_eq rfl) (hb hby at_531) (fun _ _ => ⟨rfl, e203, (by decide : 12 + 0 ≤ _), (by decide : 74 + 0 ≤ _)⟩)
                          dsimp only [Pt.U, Pt.locs, Pt.cells, Pt.slots] at X206 l206 y206 z206 st206 hQ206
                          subst l206 y206 z206
                          obtain ⟨q206, rfl, N206q, e206, hq206⟩ := hQ206
                          replace N197 := Fr.app N197 N206q
                          refine gs st206 ?_
                          show Go p e below s QQ room_1.cells room_1.slots (T206.setTop (mkF m 534 #[jv p0, .second, jv R1, .second, jv R2, .second, jv p3, .second, iv p4, iv pp, iv (oI fl), iv mb, iv dr, iv (oI rq), iv k0, iv ka, iv kb, iv k1, iv k2, rv b162, rv b166, rv b170, rv b172, rv b175, rv b182, rv b185, .unset, .unset] [(.int (oI q206))]))
                          have M3 := own_M3 M2 (own_is1 hbv (by decide) hv2) hq206
                          refine gs (fun t => XS.istore X206.here hx rfl (hb hby at_534) rfl (l' := #[jv p0, .second, jv R1, .second, jv R2, .second, jv p3, .second, iv p4, iv pp, iv (oI fl), iv mb, iv dr, iv (oI rq), iv k0, iv ka, iv kb, iv k1, iv k2, rv b162, rv b166, rv b170, rv b172, rv b175, rv b182, rv b185, iv (oI q206), .unset]) rfl) ?_
                          refine gs (fun t => XS.iload X206.here hx rfl (hb hby at_536) rfl) ?_
                          refine gs (fun t => XS.ifYes X206.here hx rfl (pc0 := 538) (pc' := 545) rfl (hb hby at_538) rfl ((if0 _ _).trans (flt (oI_nn (by have := (M3).1; omega) : ¬ ((oI q206) < (0 : Int32)))).2.1) (by decide) (by decide)) ?_
                          refine gs (fun t => XS.aload X206.here hx rfl (hb hby at_545) rfl rfl) ?_
                          refine gs (fun t => XS.iload X206.here hx rfl (hb hby at_547) rfl) ?_
                          refine gs (fun t => ldIf X206 hx hZ e206 V_b175 (j := (oI q206)) (v := (.int (oI q206))) (own_oin (M3).1 (by decide)) (by rw [oI_c (by have := (M3).1; omega)]) (g := (mkF m 549 #[jv p0, .second, jv R1, .second, jv R2, .second, jv p3, .second, iv p4, iv pp, iv (oI fl), iv mb, iv dr, iv (oI rq), iv k0, iv ka, iv kb, iv k1, iv k2, rv b162, rv b166, rv b170, rv b172, rv b175, rv b182, rv b185, iv (oI q206), .unset] [(.int (oI q206)), (.ref b175)])) rfl rfl (hb hby at_549) t) ?_
                          show Go p e below s QQ room_1.cells room_1.slots (T206.setTop (mkF m 550 #[jv p0, .second, jv R1, .second, jv R2, .second, jv p3, .second, iv p4, iv pp, iv (oI fl), iv mb, iv dr, iv (oI rq), iv k0, iv ka, iv kb, iv k1, iv k2, rv b162, rv b166, rv b170, rv b172, rv b175, rv b182, rv b185, iv (oI q206), .unset] [(.int (oI q206))]))
                          refine gs (fun t => XS.istore X206.here hx rfl (hb hby at_550) rfl (l' := #[jv p0, .second, jv R1, .second, jv R2, .second, jv p3, .second, iv p4, iv pp, iv (oI fl), iv mb, iv dr, iv (oI rq), iv k0, iv ka, iv kb, iv k1, iv k2, rv b162, rv b166, rv b170, rv b172, rv b175, rv b182, rv b185, iv (oI q206), iv (oI q206)]) rfl) ?_
                          refine gs (fun t => XS.aload X206.here hx rfl (hb hby at_552) rfl rfl) ?_
                          obtain ⟨cq207, kq207, q207a, q207b, q207c⟩ := isOf hZ e206 Ex_b182
                          obtain ⟨_, _, ⟨T207, L207, k207, n207⟩, -, X207, ⟨Lc207, hQ207, l207, y207, z207⟩, st207⟩ := X206.virtualBack hx (y := (⟨"com/example/interval/interval/service/SlotOrder", "first", "()I"⟩ : MethodName)) (z := (⟨"com/example/interval/interval/service/SlotOrder", "first", "()I"⟩ : MethodName)) hown (mvT hZ (hw _ (List.mem_of_getElem? (i := 53) rfl))) (mvT hZ (hw _ (List.mem_of_getElem? (i := 54) rfl))) (notFace_of_selects (args := #[]) (mvT hZ (hw _ (List.mem_of_getElem? (i := 56) rfl)))) (mvT hZ (hw _ (List.mem_of_getElem? (i := 56) rfl))) (mvT hZ (hw _ (List.mem_of_getElem? (i := 55) rfl))) (by decide) (backOf (W := 0) (rmFN l Z a0 hw [] b182 ra rn kn xs h197 n0 ZZ F_size_b182 F_runs_b182 V_ra V_rn hk1 SR.1) hZ (hw _ (List.mem_of_getElem? (i := 57) rfl)) (hw _ (List.mem_of_getElem? (i := 33) rfl)) (by decide) (by decide)) q207a q207c (g := (mkF m 554 #[jv p0, .second, jv R1, .second, jv R2, .second, jv p3, .second, iv p4, iv pp, iv (oI fl), iv mb, iv dr, iv (oI rq), iv k0, iv ka, iv kb, iv k1, iv k2, rv b162, rv b166, rv b170, rv b172, rv b175, rv b182, rv b185, iv (oI q206), iv (oI q206)] [(.ref b182)])) rfl (by rw [hml]; rfl) (Steps.refl _) (argsL := []) (rest := []) (lenOf pd_12 rfl) rfl (by show 2 * 0 + _ ≤ _; exact Nat.le_of_eq rfl) (hb hby at_554) (fun _ _ => ⟨rfl, e206, (by decide : 12 + 0 ≤ _), (by decide : 74 + 0 ≤ _)⟩)
                          dsimp only [Pt.U, Pt.locs, Pt.cells, Pt.slots] at X207 l207 y207 z207 st207 hQ207
                          subst l207 y207 z207
                          obtain ⟨rfl, N207q, e207⟩ := hQ207
                          replace N197 := Fr.app N197 N207q
                          refine gt st207 ?_
                          show Go p e below s QQ room_1.cells room_1.slots (T207.setTop (mkF m 557 #[jv p0, .second, jv R1, .second, jv R2, .second, jv p3, .second, iv p4, iv pp, iv (oI fl), iv mb, iv dr, iv (oI rq), iv k0, iv ka, iv kb, iv k1, iv k2, rv b162, rv b166, rv b170, rv b172, rv b175, rv b182, rv b185, iv (oI q206), iv (oI q206)] [(.int (oI (xs 0)))]))
                          refine gs (fun t => XS.iload X207.here hx rfl (hb hby at_557) rfl) ?_
                          refine gs (fun t => XS.icmpNo X207.here hx rfl (hb hby at_559) rfl (teq (congrArg oI (own_fin SR (M3).1 (M3).2.1 (M3).2.2) : (oI (xs 0)) = (oI q206))).2) ?_
                          refine gs (fun t => XS.iconst X207.here hx rfl (hb hby at_562)) ?_
                          refine gs (fun t => XS.goto X207.here hx rfl (pc0 := 563) (pc' := 567) rfl (hb hby at_563) (by decide) (by decide)) ?_
                          exact goB X207 hx Bd.notSynchronized Bd.returns (by simp) (w := (1 : Int32)) (by first | rfl | decide) (hb hby at_567) (by rw [← hQQ, e207]; exact ⟨rfl, N197⟩) (by decide) (by decide)
                    · skip
                      show Go p e below s QQ room_1.cells room_1.slots (T197.setTop (mkF m 523 #[jv p0, .second, jv R1, .second, jv R2, .second, jv p3, .second, iv p4, iv pp, iv (oI fl), iv mb, iv dr, iv (oI rq), iv k0, iv ka, iv kb, iv k1, iv k2, rv b162, rv b166, rv b170, rv b172, rv b175, rv b182, rv b185, .unset, .unset] [(.int (oI 0)), (.int (-1 : Int32)), (.ref b185), (.ref b162), (.ref b170), (.ref b185), (.ref b162), (.ref b170), (.ref b185), (.ref b162), (.ref b170)]))
                      obtain ⟨_, _, ⟨T208, L208, k208, n208⟩, -, X208, ⟨Lc208, hQ208, l208, y208, z208⟩, st208⟩ := Jvm.LawKit.callS X197 hx (y := (⟨"com/example/interval/interval/service/SlotOrderFirstPinLaw", "pick", "([J[J[ZII)I"⟩ : MethodName)) hown (mvT hZ (hw _ (List.mem_of_getElem? (i := 49) rfl))) (mvT hZ (hw _ (List.mem_of_getElem? (i := 50) rfl))) (mvT hZ (hw _ (List.mem_of_getElem? (i := 51) rfl))) (mvT hZ (hw _ (List.mem_of_getElem? (i := 52) rfl))) (by decide) (backOf (W := 6) (rmPN1 l Z a0 hw [] b170 b162 b185 0 bv h197 n0 ZZ V_b185 (by decide) hv0) hZ (hw _ (List.mem_of_getElem? (i := 52) rfl)) (hw _ (List.mem_of_getElem? (i := 51) rfl)) (by decide) (by decide)) (g := (mkF m 523 #[jv p0, .second, jv R1, .second, jv R2, .second, jv p3, .second, iv p4, iv pp, iv (oI fl), iv mb, iv dr, iv (oI rq), iv k0, iv ka, iv kb, iv k1, iv k2, rv b162, rv b166, rv b170, rv b172, rv b175, rv b182, rv b185, .unset, .unset] [(.int (oI 0)), (.int (-1 : Int32)), (.ref b185), (.ref b162), (.ref b170), (.ref b185), (.ref b162), (.ref b170), (.ref b185), (.ref b162), (.ref b170)])) rfl (by rw [hml]; rfl) (argsL := [(.ref b170), (.ref b162), (.ref b185), (.int (-1 : Int32)), (.int (oI 0))]) (rest := [(.ref b185), (.ref b162), (.ref b170), (.ref b185), (.ref b162), (.ref b170)]) (lenOf pd_11 rfl) rfl (by show 2 * 0 + _ ≤ _; exact Nat.le_of_eq rfl) (hb hby at_523) (fun _ _ => ⟨rfl, e197, (by decide : 12 + 0 ≤ _), (by decide : 74 + 0 ≤ _)⟩)
                      dsimp only [Pt.U, Pt.locs, Pt.cells, Pt.slots] at X208 l208 y208 z208 st208 hQ208
                      subst l208 y208 z208
                      obtain ⟨rfl, N208q, e208⟩ := hQ208
                      replace N197 := Fr.app N197 N208q
                      refine gs st208 ?_
                      show Go p e below s QQ room_1.cells room_1.slots (T208.setTop (mkF m 526 #[jv p0, .second, jv R1, .second, jv R2, .second, jv p3, .second, iv p4, iv pp, iv (oI fl), iv mb, iv dr, iv (oI rq), iv k0, iv ka, iv kb, iv k1, iv k2, rv b162, rv b166, rv b170, rv b172, rv b175, rv b182, rv b185, .unset, .unset] [(.int (oI 0)), (.ref b185), (.ref b162), (.ref b170), (.ref b185), (.ref b162), (.ref b170)]))
                      have M1 : own_M (own_vv fl (own_q3 S0 S1 S2) (own_q3 p0 R1 R2)) (own_q3 S0 S1 S2) bv (0 + 1) 0 := own_M1 (fun a ha => by have q : False := (by omega); exact q.elim) (own_is1 hbv (by decide) hv0)
                      refine gs (fun t => XS.iconst X208.here hx rfl (hb hby at_526)) ?_
                      by_cases hv1 : bv 1 = (0 : Int32)
                      · skip
                        show Go p e below s QQ room_1.cells room_1.slots (T208.setTop (mkF m 527 #[jv p0, .second, jv R1, .second, jv R2, .second, jv p3, .second, iv p4, iv pp, iv (oI fl), iv mb, iv dr, iv (oI rq), iv k0, iv ka, iv kb, iv k1, iv k2, rv b162, rv b166, rv b170, rv b172, rv b175, rv b182, rv b185, .unset, .unset] [(.int (oI 1)), (.int (oI 0)), (.ref b185), (.ref b162), (.ref b170), (.ref b185), (.ref b162), (.ref b170)]))
                        obtain ⟨_, _, ⟨T209, L209, k209, n209⟩, -, X209, ⟨Lc209, hQ209, l209, y209, z209⟩, st209⟩ := Jvm.LawKit.callS X208 hx (y := (⟨"com/example/interval/interval/service/SlotOrderFirstPinLaw", "pick", "([J[J[ZII)I"⟩ : MethodName)) hown (mvT hZ (hw _ (List.mem_of_getElem? (i := 49) rfl))) (mvT hZ (hw _ (List.mem_of_getElem? (i := 50) rfl))) (mvT hZ (hw _ (List.mem_of_getElem? (i := 51) rfl))) (mvT hZ (hw _ (List.mem_of_getElem? (i := 52) rfl))) (by decide) (backOf (W := 3) (rmPS0 l Z a0 hw [] b170 b162 b185 1 bv 0 h197 n0 ZZ V_b185 (by decide) hv1) hZ (hw _ (List.mem_of_getElem? (i := 52) rfl)) (hw _ (List.mem_of_getElem? (i := 51) rfl)) (by decide) (by decide)) (g := (mkF m 527 #[jv p0, .second, jv R1, .second, jv R2, .second, jv p3, .second, iv p4, iv pp, iv (oI fl), iv mb, iv dr, iv (oI rq), iv k0, iv ka, iv kb, iv k1, iv k2, rv b162, rv b166, rv b170, rv b172, rv b175, rv b182, rv b185, .unset, .unset] [(.int (oI 1)), (.int (oI 0)), (.ref b185), (.ref b162), (.ref b170), (.ref b185), (.ref b162), (.ref b170)])) rfl (by rw [hml]; rfl) (argsL := [(.ref b170), (.ref b162), (.ref b185), (.int (oI 0)), (.int (oI 1))]) (rest := [(.ref b185), (.ref b162), (.ref b170)]) (lenOf pd_11 rfl) rfl (by show 2 * 0 + _ ≤ _; exact Nat.le_of_eq rfl) (hb hby at_527) (fun _ _ => ⟨rfl, e208, (by decide : 12 + 0 ≤ _), (by decide : 74 + 0 ≤ _)⟩)
                        dsimp only [Pt.U, Pt.locs, Pt.cells, Pt.slots] at X209 l209 y209 z209 st209 hQ209
                        subst l209 y209 z209
                        obtain ⟨rfl, N209q, e209⟩ := hQ209
                        replace N197 := Fr.app N197 N209q
                        refine gs st209 ?_
                        show Go p e below s QQ room_1.cells room_1.slots (T209.setTop (mkF m 530 #[jv p0, .second, jv R1, .second, jv R2, .second, jv p3, .second, iv p4, iv pp, iv (oI fl), iv mb, iv dr, iv (oI rq), iv k0, iv ka, iv kb, iv k1, iv k2, rv b162, rv b166, rv b170, rv b172, rv b175, rv b182, rv b185, .unset, .unset] [(.int (oI 0)), (.ref b185), (.ref b162), (.ref b170)]))
                        have M2 := own_M2 M1 hv1
                        refine gs (fun t => XS.iconst X209.here hx rfl (hb hby at_530)) ?_
                        by_cases hv2 : bv 2 = (0 : Int32)
                        · skip
                          show Go p e below s QQ room_1.cells room_1.slots (T209.setTop (mkF m 531 #[jv p0, .second, jv R1, .second, jv R2, .second, jv p3, .second, iv p4, iv pp, iv (oI fl), iv mb, iv dr, iv (oI rq), iv k0, iv ka, iv kb, iv k1, iv k2, rv b162, rv b166, rv b170, rv b172, rv b175, rv b182, rv b185, .unset, .unset] [(.int (oI 2)), (.int (oI 0)), (.ref b185), (.ref b162), (.ref b170)]))
                          obtain ⟨_, _, ⟨T210, L210, k210, n210⟩, -, X210, ⟨Lc210, hQ210, l210, y210, z210⟩, st210⟩ := Jvm.LawKit.callS X209 hx (y := (⟨"com/example/interval/interval/service/SlotOrderFirstPinLaw", "pick", "([J[J[ZII)I"⟩ : MethodName)) hown (mvT hZ (hw _ (List.mem_of_getElem? (i := 49) rfl))) (mvT hZ (hw _ (List.mem_of_getElem? (i := 50) rfl))) (mvT hZ (hw _ (List.mem_of_getElem? (i := 51) rfl))) (mvT hZ (hw _ (List.mem_of_getElem? (i := 52) rfl))) (by decide) (backOf (W := 0) (rmPS0 l Z a0 hw [] b170 b162 b185 2 bv 0 h197 n0 ZZ V_b185 (by decide) hv2) hZ (hw _ (List.mem_of_getElem? (i := 52) rfl)) (hw _ (List.mem_of_getElem? (i := 51) rfl)) (by decide) (by decide)) (g := (mkF m 531 #[jv p0, .second, jv R1, .second, jv R2, .second, jv p3, .second, iv p4, iv pp, iv (oI fl), iv mb, iv dr, iv (oI rq), iv k0, iv ka, iv kb, iv k1, iv k2, rv b162, rv b166, rv b170, rv b172, rv b175, rv b182, rv b185, .unset, .unset] [(.int (oI 2)), (.int (oI 0)), (.ref b185), (.ref b162), (.ref b170)])) rfl (by rw [hml]; rfl) (argsL := [(.ref b170), (.ref b162), (.ref b185), (.int (oI 0)), (.int (oI 2))]) (rest := []) (lenOf pd_11 rfl) rfl (by show 2 * 0 + _ ≤ _; exact Nat.le_of_eq rfl) (hb hby at_531) (fun _ _ => ⟨rfl, e209, (by decide : 12 + 0 ≤ _), (by decide : 74 + 0 ≤ _)⟩)
                          dsimp only [Pt.U, Pt.locs, Pt.cells, Pt.slots] at X210 l210 y210 z210 st210 hQ210
                          subst l210 y210 z210
                          obtain ⟨rfl, N210q, e210⟩ := hQ210
                          replace N197 := Fr.app N197 N210q
                          refine gs st210 ?_
                          show Go p e below s QQ room_1.cells room_1.slots (T210.setTop (mkF m 534 #[jv p0, .second, jv R1, .second, jv R2, .second, jv p3, .second, iv p4, iv pp, iv (oI fl), iv mb, iv dr, iv (oI rq), iv k0, iv ka, iv kb, iv k1, iv k2, rv b162, rv b166, rv b170, rv b172, rv b175, rv b182, rv b185, .unset, .unset] [(.int (oI 0))]))
                          have M3 := own_M2 M2 hv2
                          refine gs (fun t => XS.istore X210.here hx rfl (hb hby at_534) rfl (l' := #[jv p0, .second, jv R1, .second, jv R2, .second, jv p3, .second, iv p4, iv pp, iv (oI fl), iv mb, iv dr, iv (oI rq), iv k0, iv ka, iv kb, iv k1, iv k2, rv b162, rv b166, rv b170, rv b172, rv b175, rv b182, rv b185, iv (oI 0), .unset]) rfl) ?_
                          refine gs (fun t => XS.iload X210.here hx rfl (hb hby at_536) rfl) ?_
                          refine gs (fun t => XS.ifYes X210.here hx rfl (pc0 := 538) (pc' := 545) rfl (hb hby at_538) rfl ((if0 _ _).trans (flt (oI_nn (by have := (M3).1; omega) : ¬ ((oI 0) < (0 : Int32)))).2.1) (by decide) (by decide)) ?_
                          refine gs (fun t => XS.aload X210.here hx rfl (hb hby at_545) rfl rfl) ?_
                          refine gs (fun t => XS.iload X210.here hx rfl (hb hby at_547) rfl) ?_
                          refine gs (fun t => ldIf X210 hx hZ e210 V_b175 (j := (oI 0)) (v := (.int (oI 0))) (own_oin (M3).1 (by decide)) (by rw [oI_c (by have := (M3).1; omega)]) (g := (mkF m 549 #[jv p0, .second, jv R1, .second, jv R2, .second, jv p3, .second, iv p4, iv pp, iv (oI fl), iv mb, iv dr, iv (oI rq), iv k0, iv ka, iv kb, iv k1, iv k2, rv b162, rv b166, rv b170, rv b172, rv b175, rv b182, rv b185, iv (oI 0), .unset] [(.int (oI 0)), (.ref b175)])) rfl rfl (hb hby at_549) t) ?_
                          show Go p e below s QQ room_1.cells room_1.slots (T210.setTop (mkF m 550 #[jv p0, .second, jv R1, .second, jv R2, .second, jv p3, .second, iv p4, iv pp, iv (oI fl), iv mb, iv dr, iv (oI rq), iv k0, iv ka, iv kb, iv k1, iv k2, rv b162, rv b166, rv b170, rv b172, rv b175, rv b182, rv b185, iv (oI 0), .unset] [(.int (oI 0))]))
                          refine gs (fun t => XS.istore X210.here hx rfl (hb hby at_550) rfl (l' := #[jv p0, .second, jv R1, .second, jv R2, .second, jv p3, .second, iv p4, iv pp, iv (oI fl), iv mb, iv dr, iv (oI rq), iv k0, iv ka, iv kb, iv k1, iv k2, rv b162, rv b166, rv b170, rv b172, rv b175, rv b182, rv b185, iv (oI 0), iv (oI 0)]) rfl) ?_
                          refine gs (fun t => XS.aload X210.here hx rfl (hb hby at_552) rfl rfl) ?_
                          obtain ⟨cq211, kq211, q211a, q211b, q211c⟩ := isOf hZ e210 Ex_b182
                          obtain ⟨_, _, ⟨T211, L211, k211, n211⟩, -, X211, ⟨Lc211, hQ211, l211, y211, z211⟩, st211⟩ := X210.virtualBack hx (y := (⟨"com/example/interval/interval/service/SlotOrder", "first", "()I"⟩ : MethodName)) (z := (⟨"com/example/interval/interval/service/SlotOrder", "first", "()I"⟩ : MethodName)) hown (mvT hZ (hw _ (List.mem_of_getElem? (i := 53) rfl))) (mvT hZ (hw _ (List.mem_of_getElem? (i := 54) rfl))) (notFace_of_selects (args := #[]) (mvT hZ (hw _ (List.mem_of_getElem? (i := 56) rfl)))) (mvT hZ (hw _ (List.mem_of_getElem? (i := 56) rfl))) (mvT hZ (hw _ (List.mem_of_getElem? (i := 55) rfl))) (by decide) (backOf (W := 0) (rmFN l Z a0 hw [] b182 ra rn kn xs h197 n0 ZZ F_size_b182 F_runs_b182 V_ra V_rn hk1 SR.1) hZ (hw _ (List.mem_of_getElem? (i := 57) rfl)) (hw _ (List.mem_of_getElem? (i := 33) rfl)) (by decide) (by decide)) q211a q211c (g := (mkF m 554 #[jv p0, .second, jv R1, .second, jv R2, .second, jv p3, .second, iv p4, iv pp, iv (oI fl), iv mb, iv dr, iv (oI rq), iv k0, iv ka, iv kb, iv k1, iv k2, rv b162, rv b166, rv b170, rv b172, rv b175, rv b182, rv b185, iv (oI 0), iv (oI 0)] [(.ref b182)])) rfl (by rw [hml]; rfl) (Steps.refl _) (argsL := []) (rest := []) (lenOf pd_12 rfl) rfl (by show 2 * 0 + _ ≤ _; exact Nat.le_of_eq rfl) (hb hby at_554) (fun _ _ => ⟨rfl, e210, (by decide : 12 + 0 ≤ _), (by decide : 74 + 0 ≤ _)⟩)
                          dsimp only [Pt.U, Pt.locs, Pt.cells, Pt.slots] at X211 l211 y211 z211 st211 hQ211
                          subst l211 y211 z211
                          obtain ⟨rfl, N211q, e211⟩ := hQ211
                          replace N197 := Fr.app N197 N211q
                          refine gt st211 ?_
                          show Go p e below s QQ room_1.cells room_1.slots (T211.setTop (mkF m 557 #[jv p0, .second, jv R1, .second, jv R2, .second, jv p3, .second, iv p4, iv pp, iv (oI fl), iv mb, iv dr, iv (oI rq), iv k0, iv ka, iv kb, iv k1, iv k2, rv b162, rv b166, rv b170, rv b172, rv b175, rv b182, rv b185, iv (oI 0), iv (oI 0)] [(.int (oI (xs 0)))]))
                          refine gs (fun t => XS.iload X211.here hx rfl (hb hby at_557) rfl) ?_
                          refine gs (fun t => XS.icmpNo X211.here hx rfl (hb hby at_559) rfl (teq (congrArg oI (own_fin SR (M3).1 (M3).2.1 (M3).2.2) : (oI (xs 0)) = (oI 0))).2) ?_
                          refine gs (fun t => XS.iconst X211.here hx rfl (hb hby at_562)) ?_
                          refine gs (fun t => XS.goto X211.here hx rfl (pc0 := 563) (pc' := 567) rfl (hb hby at_563) (by decide) (by decide)) ?_
                          exact goB X211 hx Bd.notSynchronized Bd.returns (by simp) (w := (1 : Int32)) (by first | rfl | decide) (hb hby at_567) (by rw [← hQQ, e211]; exact ⟨rfl, N197⟩) (by decide) (by decide)
                        · skip
                          show Go p e below s QQ room_1.cells room_1.slots (T209.setTop (mkF m 531 #[jv p0, .second, jv R1, .second, jv R2, .second, jv p3, .second, iv p4, iv pp, iv (oI fl), iv mb, iv dr, iv (oI rq), iv k0, iv ka, iv kb, iv k1, iv k2, rv b162, rv b166, rv b170, rv b172, rv b175, rv b182, rv b185, .unset, .unset] [(.int (oI 2)), (.int (oI 0)), (.ref b185), (.ref b162), (.ref b170)]))
                          obtain ⟨_, _, ⟨T212, L212, k212, n212⟩, -, X212, ⟨Lc212, hQ212, l212, y212, z212⟩, st212⟩ := Jvm.LawKit.callS X209 hx (y := (⟨"com/example/interval/interval/service/SlotOrderFirstPinLaw", "pick", "([J[J[ZII)I"⟩ : MethodName)) hown (mvT hZ (hw _ (List.mem_of_getElem? (i := 49) rfl))) (mvT hZ (hw _ (List.mem_of_getElem? (i := 50) rfl))) (mvT hZ (hw _ (List.mem_of_getElem? (i := 51) rfl))) (mvT hZ (hw _ (List.mem_of_getElem? (i := 52) rfl))) (by decide) (backOf (W := 0) (rmPS1 l Z a0 hw [] b170 b162 b185 2 bv 0 (own_vv fl (own_q3 S0 S1 S2) (own_q3 p0 R1 R2)) (own_q3 S0 S1 S2) h197 n0 ZZ V_b170 V_b162 V_b185 (by decide) (by have := (M2).1; omega) hv2) hZ (hw _ (List.mem_of_getElem? (i := 52) rfl)) (hw _ (List.mem_of_getElem? (i := 51) rfl)) (by decide) (by decide)) (g := (mkF m 531 #[jv p0, .second, jv R1, .second, jv R2, .second, jv p3, .second, iv p4, iv pp, iv (oI fl), iv mb, iv dr, iv (oI rq), iv k0, iv ka, iv kb, iv k1, iv k2, rv b162, rv b166, rv b170, rv b172, rv b175, rv b182, rv b185, .unset, .unset] [(.int (oI 2)), (.int (oI 0)), (.ref b185), (.ref b162), (.ref b170)])) rfl (by rw [hml]; rfl) (argsL := [(.ref b170), (.ref b162), (.ref b185), (.int (oI 0)), (.int (oI 2))]) (rest := []) (lenOf pd_11 rfl) rfl (by show 2 * 0 + _ ≤ _; exact Nat.le_of_eq rfl) (hb hby at_531) (fun _ _ => ⟨rfl, e209, (by decide : 12 + 0 ≤ _), (by decide : 74 + 0 ≤ _)⟩)
                          dsimp only [Pt.U, Pt.locs, Pt.cells, Pt.slots] at X212 l212 y212 z212 st212 hQ212
                          subst l212 y212 z212
                          obtain ⟨q212, rfl, N212q, e212, hq212⟩ := hQ212
                          replace N197 := Fr.app N197 N212q
                          refine gs st212 ?_
                          show Go p e below s QQ room_1.cells room_1.slots (T212.setTop (mkF m 534 #[jv p0, .second, jv R1, .second, jv R2, .second, jv p3, .second, iv p4, iv pp, iv (oI fl), iv mb, iv dr, iv (oI rq), iv k0, iv ka, iv kb, iv k1, iv k2, rv b162, rv b166, rv b170, rv b172, rv b175, rv b182, rv b185, .unset, .unset] [(.int (oI q212))]))
                          have M3 := own_M3 M2 (own_is1 hbv (by decide) hv2) hq212
                          refine gs (fun t => XS.istore X212.here hx rfl (hb hby at_534) rfl (l' := #[jv p0, .second, jv R1, .second, jv R2, .second, jv p3, .second, iv p4, iv pp, iv (oI fl), iv mb, iv dr, iv (oI rq), iv k0, iv ka, iv kb, iv k1, iv k2, rv b162, rv b166, rv b170, rv b172, rv b175, rv b182, rv b185, iv (oI q212), .unset]) rfl) ?_
                          refine gs (fun t => XS.iload X212.here hx rfl (hb hby at_536) rfl) ?_
                          refine gs (fun t => XS.ifYes X212.here hx rfl (pc0 := 538) (pc' := 545) rfl (hb hby at_538) rfl ((if0 _ _).trans (flt (oI_nn (by have := (M3).1; omega) : ¬ ((oI q212) < (0 : Int32)))).2.1) (by decide) (by decide)) ?_
                          refine gs (fun t => XS.aload X212.here hx rfl (hb hby at_545) rfl rfl) ?_
                          refine gs (fun t => XS.iload X212.here hx rfl (hb hby at_547) rfl) ?_
                          refine gs (fun t => ldIf X212 hx hZ e212 V_b175 (j := (oI q212)) (v := (.int (oI q212))) (own_oin (M3).1 (by decide)) (by rw [oI_c (by have := (M3).1; omega)]) (g := (mkF m 549 #[jv p0, .second, jv R1, .second, jv R2, .second, jv p3, .second, iv p4, iv pp, iv (oI fl), iv mb, iv dr, iv (oI rq), iv k0, iv ka, iv kb, iv k1, iv k2, rv b162, rv b166, rv b170, rv b172, rv b175, rv b182, rv b185, iv (oI q212), .unset] [(.int (oI q212)), (.ref b175)])) rfl rfl (hb hby at_549) t) ?_
                          show Go p e below s QQ room_1.cells room_1.slots (T212.setTop (mkF m 550 #[jv p0, .second, jv R1, .second, jv R2, .second, jv p3, .second, iv p4, iv pp, iv (oI fl), iv mb, iv dr, iv (oI rq), iv k0, iv ka, iv kb, iv k1, iv k2, rv b162, rv b166, rv b170, rv b172, rv b175, rv b182, rv b185, iv (oI q212), .unset] [(.int (oI q212))]))
                          refine gs (fun t => XS.istore X212.here hx rfl (hb hby at_550) rfl (l' := #[jv p0, .second, jv R1, .second, jv R2, .second, jv p3, .second, iv p4, iv pp, iv (oI fl), iv mb, iv dr, iv (oI rq), iv k0, iv ka, iv kb, iv k1, iv k2, rv b162, rv b166, rv b170, rv b172, rv b175, rv b182, rv b185, iv (oI q212), iv (oI q212)]) rfl) ?_
                          refine gs (fun t => XS.aload X212.here hx rfl (hb hby at_552) rfl rfl) ?_
                          obtain ⟨cq213, kq213, q213a, q213b, q213c⟩ := isOf hZ e212 Ex_b182
                          obtain ⟨_, _, ⟨T213, L213, k213, n213⟩, -, X213, ⟨Lc213, hQ213, l213, y213, z213⟩, st213⟩ := X212.virtualBack hx (y := (⟨"com/example/interval/interval/service/SlotOrder", "first", "()I"⟩ : MethodName)) (z := (⟨"com/example/interval/interval/service/SlotOrder", "first", "()I"⟩ : MethodName)) hown (mvT hZ (hw _ (List.mem_of_getElem? (i := 53) rfl))) (mvT hZ (hw _ (List.mem_of_getElem? (i := 54) rfl))) (notFace_of_selects (args := #[]) (mvT hZ (hw _ (List.mem_of_getElem? (i := 56) rfl)))) (mvT hZ (hw _ (List.mem_of_getElem? (i := 56) rfl))) (mvT hZ (hw _ (List.mem_of_getElem? (i := 55) rfl))) (by decide) (backOf (W := 0) (rmFN l Z a0 hw [] b182 ra rn kn xs h197 n0 ZZ F_size_b182 F_runs_b182 V_ra V_rn hk1 SR.1) hZ (hw _ (List.mem_of_getElem? (i := 57) rfl)) (hw _ (List.mem_of_getElem? (i := 33) rfl)) (by decide) (by decide)) q213a q213c (g := (mkF m 554 #[jv p0, .second, jv R1, .second, jv R2, .second, jv p3, .second, iv p4, iv pp, iv (oI fl), iv mb, iv dr, iv (oI rq), iv k0, iv ka, iv kb, iv k1, iv k2, rv b162, rv b166, rv b170, rv b172, rv b175, rv b182, rv b185, iv (oI q212), iv (oI q212)] [(.ref b182)])) rfl (by rw [hml]; rfl) (Steps.refl _) (argsL := []) (rest := []) (lenOf pd_12 rfl) rfl (by show 2 * 0 + _ ≤ _; exact Nat.le_of_eq rfl) (hb hby at_554) (fun _ _ => ⟨rfl, e212, (by decide : 12 + 0 ≤ _), (by decide : 74 + 0 ≤ _)⟩)
                          dsimp only [Pt.U, Pt.locs, Pt.cells, Pt.slots] at X213 l213 y213 z213 st213 hQ213
                          subst l213 y213 z213
                          obtain ⟨rfl, N213q, e213⟩ := hQ213
                          replace N197 := Fr.app N197 N213q
                          refine gt st213 ?_
                          show Go p e below s QQ room_1.cells room_1.slots (T213.setTop (mkF m 557 #[jv p0, .second, jv R1, .second, jv R2, .second, jv p3, .second, iv p4, iv pp, iv (oI fl), iv mb, iv dr, iv (oI rq), iv k0, iv ka, iv kb, iv k1, iv k2, rv b162, rv b166, rv b170, rv b172, rv b175, rv b182, rv b185, iv (oI q212), iv (oI q212)] [(.int (oI (xs 0)))]))
                          refine gs (fun t => XS.iload X213.here hx rfl (hb hby at_557) rfl) ?_
                          refine gs (fun t => XS.icmpNo X213.here hx rfl (hb hby at_559) rfl (teq (congrArg oI (own_fin SR (M3).1 (M3).2.1 (M3).2.2) : (oI (xs 0)) = (oI q212))).2) ?_
                          refine gs (fun t => XS.iconst X213.here hx rfl (hb hby at_562)) ?_
                          refine gs (fun t => XS.goto X213.here hx rfl (pc0 := 563) (pc' := 567) rfl (hb hby at_563) (by decide) (by decide)) ?_
                          exact goB X213 hx Bd.notSynchronized Bd.returns (by simp) (w := (1 : Int32)) (by first | rfl | decide) (hb hby at_567) (by rw [← hQQ, e213]; exact ⟨rfl, N197⟩) (by decide) (by decide)
                      · skip
                        show Go p e below s QQ room_1.cells room_1.slots (T208.setTop (mkF m 527 #[jv p0, .second, jv R1, .second, jv R2, .second, jv p3, .second, iv p4, iv pp, iv (oI fl), iv mb, iv dr, iv (oI rq), iv k0, iv ka, iv kb, iv k1, iv k2, rv b162, rv b166, rv b170, rv b172, rv b175, rv b182, rv b185, .unset, .unset] [(.int (oI 1)), (.int (oI 0)), (.ref b185), (.ref b162), (.ref b170), (.ref b185), (.ref b162), (.ref b170)]))
                        obtain ⟨_, _, ⟨T214, L214, k214, n214⟩, -, X214, ⟨Lc214, hQ214, l214, y214, z214⟩, st214⟩ := Jvm.LawKit.callS X208 hx (y := (⟨"com/example/interval/interval/service/SlotOrderFirstPinLaw", "pick", "([J[J[ZII)I"⟩ : MethodName)) hown (mvT hZ (hw _ (List.mem_of_getElem? (i := 49) rfl))) (mvT hZ (hw _ (List.mem_of_getElem? (i := 50) rfl))) (mvT hZ (hw _ (List.mem_of_getElem? (i := 51) rfl))) (mvT hZ (hw _ (List.mem_of_getElem? (i := 52) rfl))) (by decide) (backOf (W := 3) (rmPS1 l Z a0 hw [] b170 b162 b185 1 bv 0 (own_vv fl (own_q3 S0 S1 S2) (own_q3 p0 R1 R2)) (own_q3 S0 S1 S2) h197 n0 ZZ V_b170 V_b162 V_b185 (by decide) (by have := (M1).1; omega) hv1) hZ (hw _ (List.mem_of_getElem? (i := 52) rfl)) (hw _ (List.mem_of_getElem? (i := 51) rfl)) (by decide) (by decide)) (g := (mkF m 527 #[jv p0, .second, jv R1, .second, jv R2, .second, jv p3, .second, iv p4, iv pp, iv (oI fl), iv mb, iv dr, iv (oI rq), iv k0, iv ka, iv kb, iv k1, iv k2, rv b162, rv b166, rv b170, rv b172, rv b175, rv b182, rv b185, .unset, .unset] [(.int (oI 1)), (.int (oI 0)), (.ref b185), (.ref b162), (.ref b170), (.ref b185), (.ref b162), (.ref b170)])) rfl (by rw [hml]; rfl) (argsL := [(.ref b170), (.ref b162), (.ref b185), (.int (oI 0)), (.int (oI 1))]) (rest := [(.ref b185), (.ref b162), (.ref b170)]) (lenOf pd_11 rfl) rfl (by show 2 * 0 + _ ≤ _; exact Nat.le_of_eq rfl) (hb hby at_527) (fun _ _ => ⟨rfl, e208, (by decide : 12 + 0 ≤ _), (by decide : 74 + 0 ≤ _)⟩)
                        dsimp only [Pt.U, Pt.locs, Pt.cells, Pt.slots] at X214 l214 y214 z214 st214 hQ214
                        subst l214 y214 z214
                        obtain ⟨q214, rfl, N214q, e214, hq214⟩ := hQ214
                        replace N197 := Fr.app N197 N214q
                        refine gs st214 ?_
                        show Go p e below s QQ room_1.cells room_1.slots (T214.setTop (mkF m 530 #[jv p0, .second, jv R1, .second, jv R2, .second, jv p3, .second, iv p4, iv pp, iv (oI fl), iv mb, iv dr, iv (oI rq), iv k0, iv ka, iv kb, iv k1, iv k2, rv b162, rv b166, rv b170, rv b172, rv b175, rv b182, rv b185, .unset, .unset] [(.int (oI q214)), (.ref b185), (.ref b162), (.ref b170)]))
                        have M2 := own_M3 M1 (own_is1 hbv (by decide) hv1) hq214
                        refine gs (fun t => XS.iconst X214.here hx rfl (hb hby at_530)) ?_
                        by_cases hv2 : bv 2 = (0 : Int32)
                        · skip
                          show Go p e below s QQ room_1.cells room_1.slots (T214.setTop (mkF m 531 #[jv p0, .second, jv R1, .second, jv R2, .second, jv p3, .second, iv p4, iv pp, iv (oI fl), iv mb, iv dr, iv (oI rq), iv k0, iv ka, iv kb, iv k1, iv k2, rv b162, rv b166, rv b170, rv b172, rv b175, rv b182, rv b185, .unset, .unset] [(.int (oI 2)), (.int (oI q214)), (.ref b185), (.ref b162), (.ref b170)]))
                          obtain ⟨_, _, ⟨T215, L215, k215, n215⟩, -, X215, ⟨Lc215, hQ215, l215, y215, z215⟩, st215⟩ := Jvm.LawKit.callS X214 hx (y := (⟨"com/example/interval/interval/service/SlotOrderFirstPinLaw", "pick", "([J[J[ZII)I"⟩ : MethodName)) hown (mvT hZ (hw _ (List.mem_of_getElem? (i := 49) rfl))) (mvT hZ (hw _ (List.mem_of_getElem? (i := 50) rfl))) (mvT hZ (hw _ (List.mem_of_getElem? (i := 51) rfl))) (mvT hZ (hw _ (List.mem_of_getElem? (i := 52) rfl))) (by decide) (backOf (W := 0) (rmPS0 l Z a0 hw [] b170 b162 b185 2 bv q214 h197 n0 ZZ V_b185 (by decide) hv2) hZ (hw _ (List.mem_of_getElem? (i := 52) rfl)) (hw _ (List.mem_of_getElem? (i := 51) rfl)) (by decide) (by decide)) (g := (mkF m 531 #[jv p0, .second, jv R1, .second, jv R2, .second, jv p3, .second, iv p4, iv pp, iv (oI fl), iv mb, iv dr, iv (oI rq), iv k0, iv ka, iv kb, iv k1, iv k2, rv b162, rv b166, rv b170, rv b172, rv b175, rv b182, rv b185, .unset, .unset] [(.int (oI 2)), (.int (oI q214)), (.ref b185), (.ref b162), (.ref b170)])) rfl (by rw [hml]; rfl) (argsL := [(.ref b170), (.ref b162), (.ref b185), (.int (oI q214)), (.int (oI 2))]) (rest := []) (lenOf pd_11 rfl) rfl (by show 2 * 0 + _ ≤ _; exact Nat.le_of_eq rfl) (hb hby at_531) (fun _ _ => ⟨rfl, e214, (by decide : 12 + 0 ≤ _), (by decide : 74 + 0 ≤ _)⟩)
                          dsimp only [Pt.U, Pt.locs, Pt.cells, Pt.slots] at X215 l215 y215 z215 st215 hQ215
                          subst l215 y215 z215
                          obtain ⟨rfl, N215q, e215⟩ := hQ215
                          replace N197 := Fr.app N197 N215q
                          refine gs st215 ?_
                          show Go p e below s QQ room_1.cells room_1.slots (T215.setTop (mkF m 534 #[jv p0, .second, jv R1, .second, jv R2, .second, jv p3, .second, iv p4, iv pp, iv (oI fl), iv mb, iv dr, iv (oI rq), iv k0, iv ka, iv kb, iv k1, iv k2, rv b162, rv b166, rv b170, rv b172, rv b175, rv b182, rv b185, .unset, .unset] [(.int (oI q214))]))
                          have M3 := own_M2 M2 hv2
                          refine gs (fun t => XS.istore X215.here hx rfl (hb hby at_534) rfl (l' := #[jv p0, .second, jv R1, .second, jv R2, .second, jv p3, .second, iv p4, iv pp, iv (oI fl), iv mb, iv dr, iv (oI rq), iv k0, iv ka, iv kb, iv k1, iv k2, rv b162, rv b166, rv b170, rv b172, rv b175, rv b182, rv b185, iv (oI q214), .unset]) rfl) ?_
                          refine gs (fun t => XS.iload X215.here hx rfl (hb hby at_536) rfl) ?_
                          refine gs (fun t => XS.ifYes X215.here hx rfl (pc0 := 538) (pc' := 545) rfl (hb hby at_538) rfl ((if0 _ _).trans (flt (oI_nn (by have := (M3).1; omega) : ¬ ((oI q214) < (0 : Int32)))).2.1) (by decide) (by decide)) ?_
                          refine gs (fun t => XS.aload X215.here hx rfl (hb hby at_545) rfl rfl) ?_
                          refine gs (fun t => XS.iload X215.here hx rfl (hb hby at_547) rfl) ?_
                          refine gs (fun t => ldIf X215 hx hZ e215 V_b175 (j := (oI q214)) (v := (.int (oI q214))) (own_oin (M3).1 (by decide)) (by rw [oI_c (by have := (M3).1; omega)]) (g := (mkF m 549 #[jv p0, .second, jv R1, .second, jv R2, .second, jv p3, .second, iv p4, iv pp, iv (oI fl), iv mb, iv dr, iv (oI rq), iv k0, iv ka, iv kb, iv k1, iv k2, rv b162, rv b166, rv b170, rv b172, rv b175, rv b182, rv b185, iv (oI q214), .unset] [(.int (oI q214)), (.ref b175)])) rfl rfl (hb hby at_549) t) ?_
                          show Go p e below s QQ room_1.cells room_1.slots (T215.setTop (mkF m 550 #[jv p0, .second, jv R1, .second, jv R2, .second, jv p3, .second, iv p4, iv pp, iv (oI fl), iv mb, iv dr, iv (oI rq), iv k0, iv ka, iv kb, iv k1, iv k2, rv b162, rv b166, rv b170, rv b172, rv b175, rv b182, rv b185, iv (oI q214), .unset] [(.int (oI q214))]))
                          refine gs (fun t => XS.istore X215.here hx rfl (hb hby at_550) rfl (l' := #[jv p0, .second, jv R1, .second, jv R2, .second, jv p3, .second, iv p4, iv pp, iv (oI fl), iv mb, iv dr, iv (oI rq), iv k0, iv ka, iv kb, iv k1, iv k2, rv b162, rv b166, rv b170, rv b172, rv b175, rv b182, rv b185, iv (oI q214), iv (oI q214)]) rfl) ?_
                          refine gs (fun t => XS.aload X215.here hx rfl (hb hby at_552) rfl rfl) ?_
                          obtain ⟨cq216, kq216, q216a, q216b, q216c⟩ := isOf hZ e215 Ex_b182
                          obtain ⟨_, _, ⟨T216, L216, k216, n216⟩, -, X216, ⟨Lc216, hQ216, l216, y216, z216⟩, st216⟩ := X215.virtualBack hx (y := (⟨"com/example/interval/interval/service/SlotOrder", "first", "()I"⟩ : MethodName)) (z := (⟨"com/example/interval/interval/service/SlotOrder", "first", "()I"⟩ : MethodName)) hown (mvT hZ (hw _ (List.mem_of_getElem? (i := 53) rfl))) (mvT hZ (hw _ (List.mem_of_getElem? (i := 54) rfl))) (notFace_of_selects (args := #[]) (mvT hZ (hw _ (List.mem_of_getElem? (i := 56) rfl)))) (mvT hZ (hw _ (List.mem_of_getElem? (i := 56) rfl))) (mvT hZ (hw _ (List.mem_of_getElem? (i := 55) rfl))) (by decide) (backOf (W := 0) (rmFN l Z a0 hw [] b182 ra rn kn xs h197 n0 ZZ F_size_b182 F_runs_b182 V_ra V_rn hk1 SR.1) hZ (hw _ (List.mem_of_getElem? (i := 57) rfl)) (hw _ (List.mem_of_getElem? (i := 33) rfl)) (by decide) (by decide)) q216a q216c (g := (mkF m 554 #[jv p0, .second, jv R1, .second, jv R2, .second, jv p3, .second, iv p4, iv pp, iv (oI fl), iv mb, iv dr, iv (oI rq), iv k0, iv ka, iv kb, iv k1, iv k2, rv b162, rv b166, rv b170, rv b172, rv b175, rv b182, rv b185, iv (oI q214), iv (oI q214)] [(.ref b182)])) rfl (by rw [hml]; rfl) (Steps.refl _) (argsL := []) (rest := []) (lenOf pd_12 rfl) rfl (by show 2 * 0 + _ ≤ _; exact Nat.le_of_eq rfl) (hb hby at_554) (fun _ _ => ⟨rfl, e215, (by decide : 12 + 0 ≤ _), (by decide : 74 + 0 ≤ _)⟩)
                          dsimp only [Pt.U, Pt.locs, Pt.cells, Pt.slots] at X216 l216 y216 z216 st216 hQ216
                          subst l216 y216 z216
                          obtain ⟨rfl, N216q, e216⟩ := hQ216
                          replace N197 := Fr.app N197 N216q
                          refine gt st216 ?_
                          show Go p e below s QQ room_1.cells room_1.slots (T216.setTop (mkF m 557 #[jv p0, .second, jv R1, .second, jv R2, .second, jv p3, .second, iv p4, iv pp, iv (oI fl), iv mb, iv dr, iv (oI rq), iv k0, iv ka, iv kb, iv k1, iv k2, rv b162, rv b166, rv b170, rv b172, rv b175, rv b182, rv b185, iv (oI q214), iv (oI q214)] [(.int (oI (xs 0)))]))
                          refine gs (fun t => XS.iload X216.here hx rfl (hb hby at_557) rfl) ?_
                          refine gs (fun t => XS.icmpNo X216.here hx rfl (hb hby at_559) rfl (teq (congrArg oI (own_fin SR (M3).1 (M3).2.1 (M3).2.2) : (oI (xs 0)) = (oI q214))).2) ?_
                          refine gs (fun t => XS.iconst X216.here hx rfl (hb hby at_562)) ?_
                          refine gs (fun t => XS.goto X216.here hx rfl (pc0 := 563) (pc' := 567) rfl (hb hby at_563) (by decide) (by decide)) ?_
                          exact goB X216 hx Bd.notSynchronized Bd.returns (by simp) (w := (1 : Int32)) (by first | rfl | decide) (hb hby at_567) (by rw [← hQQ, e216]; exact ⟨rfl, N197⟩) (by decide) (by decide)
                        · skip
                          show Go p e below s QQ room_1.cells room_1.slots (T214.setTop (mkF m 531 #[jv p0, .second, jv R1, .second, jv R2, .second, jv p3, .second, iv p4, iv pp, iv (oI fl), iv mb, iv dr, iv (oI rq), iv k0, iv ka, iv kb, iv k1, iv k2, rv b162, rv b166, rv b170, rv b172, rv b175, rv b182, rv b185, .unset, .unset] [(.int (oI 2)), (.int (oI q214)), (.ref b185), (.ref b162), (.ref b170)]))
                          obtain ⟨_, _, ⟨T217, L217, k217, n217⟩, -, X217, ⟨Lc217, hQ217, l217, y217, z217⟩, st217⟩ := Jvm.LawKit.callS X214 hx (y := (⟨"com/example/interval/interval/service/SlotOrderFirstPinLaw", "pick", "([J[J[ZII)I"⟩ : MethodName)) hown (mvT hZ (hw _ (List.mem_of_getElem? (i := 49) rfl))) (mvT hZ (hw _ (List.mem_of_getElem? (i := 50) rfl))) (mvT hZ (hw _ (List.mem_of_getElem? (i := 51) rfl))) (mvT hZ (hw _ (List.mem_of_getElem? (i := 52) rfl))) (by decide) (backOf (W := 0) (rmPS1 l Z a0 hw [] b170 b162 b185 2 bv q214 (own_vv fl (own_q3 S0 S1 S2) (own_q3 p0 R1 R2)) (own_q3 S0 S1 S2) h197 n0 ZZ V_b170 V_b162 V_b185 (by decide) (by have := (M2).1; omega) hv2) hZ (hw _ (List.mem_of_getElem? (i := 52) rfl)) (hw _ (List.mem_of_getElem? (i := 51) rfl)) (by decide) (by decide)) (g := (mkF m 531 #[jv p0, .second, jv R1, .second, jv R2, .second, jv p3, .second, iv p4, iv pp, iv (oI fl), iv mb, iv dr, iv (oI rq), iv k0, iv ka, iv kb, iv k1, iv k2, rv b162, rv b166, rv b170, rv b172, rv b175, rv b182, rv b185, .unset, .unset] [(.int (oI 2)), (.int (oI q214)), (.ref b185), (.ref b162), (.ref b170)])) rfl (by rw [hml]; rfl) (argsL := [(.ref b170), (.ref b162), (.ref b185), (.int (oI q214)), (.int (oI 2))]) (rest := []) (lenOf pd_11 rfl) rfl (by show 2 * 0 + _ ≤ _; exact Nat.le_of_eq rfl) (hb hby at_531) (fun _ _ => ⟨rfl, e214, (by decide : 12 + 0 ≤ _), (by decide : 74 + 0 ≤ _)⟩)
                          dsimp only [Pt.U, Pt.locs, Pt.cells, Pt.slots] at X217 l217 y217 z217 st217 hQ217
                          subst l217 y217 z217
                          obtain ⟨q217, rfl, N217q, e217, hq217⟩ := hQ217
                          replace N197 := Fr.app N197 N217q
                          refine gs st217 ?_
                          show Go p e below s QQ room_1.cells room_1.slots (T217.setTop (mkF m 534 #[jv p0, .second, jv R1, .second, jv R2, .second, jv p3, .second, iv p4, iv pp, iv (oI fl), iv mb, iv dr, iv (oI rq), iv k0, iv ka, iv kb, iv k1, iv k2, rv b162, rv b166, rv b170, rv b172, rv b175, rv b182, rv b185, .unset, .unset] [(.int (oI q217))]))
                          have M3 := own_M3 M2 (own_is1 hbv (by decide) hv2) hq217
                          refine gs (fun t => XS.istore X217.here hx rfl (hb hby at_534) rfl (l' := #[jv p0, .second, jv R1, .second, jv R2, .second, jv p3, .second, iv p4, iv pp, iv (oI fl), iv mb, iv dr, iv (oI rq), iv k0, iv ka, iv kb, iv k1, iv k2, rv b162, rv b166, rv b170, rv b172, rv b175, rv b182, rv b185, iv (oI q217), .unset]) rfl) ?_
                          refine gs (fun t => XS.iload X217.here hx rfl (hb hby at_536) rfl) ?_
                          refine gs (fun t => XS.ifYes X217.here hx rfl (pc0 := 538) (pc' := 545) rfl (hb hby at_538) rfl ((if0 _ _).trans (flt (oI_nn (by have := (M3).1; omega) : ¬ ((oI q217) < (0 : Int32)))).2.1) (by decide) (by decide)) ?_
                          refine gs (fun t => XS.aload X217.here hx rfl (hb hby at_545) rfl rfl) ?_
                          refine gs (fun t => XS.iload X217.here hx rfl (hb hby at_547) rfl) ?_
                          refine gs (fun t => ldIf X217 hx hZ e217 V_b175 (j := (oI q217)) (v := (.int (oI q217))) (own_oin (M3).1 (by decide)) (by rw [oI_c (by have := (M3).1; omega)]) (g := (mkF m 549 #[jv p0, .second, jv R1, .second, jv R2, .second, jv p3, .second, iv p4, iv pp, iv (oI fl), iv mb, iv dr, iv (oI rq), iv k0, iv ka, iv kb, iv k1, iv k2, rv b162, rv b166, rv b170, rv b172, rv b175, rv b182, rv b185, iv (oI q217), .unset] [(.int (oI q217)), (.ref b175)])) rfl rfl (hb hby at_549) t) ?_
                          show Go p e below s QQ room_1.cells room_1.slots (T217.setTop (mkF m 550 #[jv p0, .second, jv R1, .second, jv R2, .second, jv p3, .second, iv p4, iv pp, iv (oI fl), iv mb, iv dr, iv (oI rq), iv k0, iv ka, iv kb, iv k1, iv k2, rv b162, rv b166, rv b170, rv b172, rv b175, rv b182, rv b185, iv (oI q217), .unset] [(.int (oI q217))]))
                          refine gs (fun t => XS.istore X217.here hx rfl (hb hby at_550) rfl (l' := #[jv p0, .second, jv R1, .second, jv R2, .second, jv p3, .second, iv p4, iv pp, iv (oI fl), iv mb, iv dr, iv (oI rq), iv k0, iv ka, iv kb, iv k1, iv k2, rv b162, rv b166, rv b170, rv b172, rv b175, rv b182, rv b185, iv (oI q217), iv (oI q217)]) rfl) ?_
                          refine gs (fun t => XS.aload X217.here hx rfl (hb hby at_552) rfl rfl) ?_
                          obtain ⟨cq218, kq218, q218a, q218b, q218c⟩ := isOf hZ e217 Ex_b182
                          obtain ⟨_, _, ⟨T218, L218, k218, n218⟩, -, X218, ⟨Lc218, hQ218, l218, y218, z218⟩, st218⟩ := X217.virtualBack hx (y := (⟨"com/example/interval/interval/service/SlotOrder", "first", "()I"⟩ : MethodName)) (z := (⟨"com/example/interval/interval/service/SlotOrder", "first", "()I"⟩ : MethodName)) hown (mvT hZ (hw _ (List.mem_of_getElem? (i := 53) rfl))) (mvT hZ (hw _ (List.mem_of_getElem? (i := 54) rfl))) (notFace_of_selects (args := #[]) (mvT hZ (hw _ (List.mem_of_getElem? (i := 56) rfl)))) (mvT hZ (hw _ (List.mem_of_getElem? (i := 56) rfl))) (mvT hZ (hw _ (List.mem_of_getElem? (i := 55) rfl))) (by decide) (backOf (W := 0) (rmFN l Z a0 hw [] b182 ra rn kn xs h197 n0 ZZ F_size_b182 F_runs_b182 V_ra V_rn hk1 SR.1) hZ (hw _ (List.mem_of_getElem? (i := 57) rfl)) (hw _ (List.mem_of_getElem? (i := 33) rfl)) (by decide) (by decide)) q218a q218c (g := (mkF m 554 #[jv p0, .second, jv R1, .second, jv R2, .second, jv p3, .second, iv p4, iv pp, iv (oI fl), iv mb, iv dr, iv (oI rq), iv k0, iv ka, iv kb, iv k1, iv k2, rv b162, rv b166, rv b170, rv b172, rv b175, rv b182, rv b185, iv (oI q217), iv (oI q217)] [(.ref b182)])) rfl (by rw [hml]; rfl) (Steps.refl _) (argsL := []) (rest := []) (lenOf pd_12 rfl) rfl (by show 2 * 0 + _ ≤ _; exact Nat.le_of_eq rfl) (hb hby at_554) (fun _ _ => ⟨rfl, e217, (by decide : 12 + 0 ≤ _), (by decide : 74 + 0 ≤ _)⟩)
                          dsimp only [Pt.U, Pt.locs, Pt.cells, Pt.slots] at X218 l218 y218 z218 st218 hQ218
                          subst l218 y218 z218
                          obtain ⟨rfl, N218q, e218⟩ := hQ218
                          replace N197 := Fr.app N197 N218q
                          refine gt st218 ?_
                          show Go p e below s QQ room_1.cells room_1.slots (T218.setTop (mkF m 557 #[jv p0, .second, jv R1, .second, jv R2, .second, jv p3, .second, iv p4, iv pp, iv (oI fl), iv mb, iv dr, iv (oI rq), iv k0, iv ka, iv kb, iv k1, iv k2, rv b162, rv b166, rv b170, rv b172, rv b175, rv b182, rv b185, iv (oI q217), iv (oI q217)] [(.int (oI (xs 0)))]))
                          refine gs (fun t => XS.iload X218.here hx rfl (hb hby at_557) rfl) ?_
                          refine gs (fun t => XS.icmpNo X218.here hx rfl (hb hby at_559) rfl (teq (congrArg oI (own_fin SR (M3).1 (M3).2.1 (M3).2.2) : (oI (xs 0)) = (oI q217))).2) ?_
                          refine gs (fun t => XS.iconst X218.here hx rfl (hb hby at_562)) ?_
                          refine gs (fun t => XS.goto X218.here hx rfl (pc0 := 563) (pc' := 567) rfl (hb hby at_563) (by decide) (by decide)) ?_
                          exact goB X218 hx Bd.notSynchronized Bd.returns (by simp) (w := (1 : Int32)) (by first | rfl | decide) (hb hby at_567) (by rw [← hQQ, e218]; exact ⟨rfl, N197⟩) (by decide) (by decide)
                  have kdn : ∀ (kn : Nat) (xs : Nat → Nat) (rn : Addr) (bv : Nat → Int32) (T219 : State) (h219 : Heap) (lc219 : List Loc) (X219 : Stand p l e room_1 s m #[(.long p0), (.long p1), (.long p2), (.long p3), (.int p4)] below meth c T219 lc219 12 74) (N219 : Fr n0 lc219) (e219 : T219.heap = h219) (ZZ : n0 ≤ h219.size) (V_b162 : Arf Z h219 b162 .long 3 (fun i => .long ((own_q3 S0 S1 S2) i))) (V_b170 : Arf Z h219 b170 .long 3 (fun i => .long ((own_vv fl (own_q3 S0 S1 S2) (own_q3 p0 R1 R2)) i))) (Ex_b172 : Exa Z h219 b172 "com/example/interval/interval/service/SlotTable") (V_pg : Arf Z h219 pg (.array .long) 1 (updv (fun _ => .null) 0 (.ref pa))) (V_b175 : Arf Z h219 b175 .int 3 (fun i => .int (oI i))) (Fp : Fld Z h219 b172 "com/example/interval/interval/service/SlotTable" "pages" "[[J" (.ref pg)) (Fs : Fld Z h219 b172 "com/example/interval/interval/service/SlotTable" "size" "I" (.int (oI ((0 + 1 + 1) + 1)))) (V_pa : Arf Z h219 pa .long 40 (own_tf S0 S1 S2 p0 R1 R2)) (Ex_b182 : Exa Z h219 b182 "com/example/interval/interval/service/SlotOrder") (F_runs_b182 : Fld Z h219 b182 "com/example/interval/interval/service/SlotOrder" "runs" "[[I" (.ref ra)) (F_sizes_b182 : Fld Z h219 b182 "com/example/interval/interval/service/SlotOrder" "sizes" "[I" (.ref sz)) (F_table_b182 : Fld Z h219 b182 "com/example/interval/interval/service/SlotOrder" "table" "Lcom/example/interval/interval/service/SlotTable;" (.ref b172)) (F_field_b182 : Fld Z h219 b182 "com/example/interval/interval/service/SlotOrder" "field" "I" (.int (oI fl))) (F_size_b182 : Fld Z h219 b182 "com/example/interval/interval/service/SlotOrder" "size" "I" (.int (oI kn))) (F_runCount_b182 : Fld Z h219 b182 "com/example/interval/interval/service/SlotOrder" "runCount" "I" (.int (1 : Int32))) (V_ra : Arf Z h219 ra (.array .int) 1 (fun _ => .ref rn)) (V_sz : Arf Z h219 sz .int 1 (fun _ => .int (oI kn))) (V_b185 : Arf Z h219 b185 .boolean 3 (fun i => .int (bv i))) (V_rn : Arf Z h219 rn .int 8 (fun i => .int (oI (xs i)))) (hk1 : 1 ≤ kn) (SR : own_S (own_vv fl (own_q3 S0 S1 S2) (own_q3 p0 R1 R2)) (own_q3 S0 S1 S2) kn xs bv) (hbv : ∀ i, i < 3 → bv i = 0 ∨ bv i = 1) (ne_b162_rn : b162 ≠ rn) (ne_b166_rn : b166 ≠ rn) (ne_b170_rn : b170 ≠ rn) (ne_b172_rn : b172 ≠ rn) (ne_pg_rn : pg ≠ rn) (ne_pa_rn : pa ≠ rn) (ne_b175_rn : b175 ≠ rn) (ne_b182_rn : b182 ≠ rn) (ne_ra_rn : ra ≠ rn) (ne_sz_rn : sz ≠ rn) (ne_b185_rn : b185 ≠ rn) (ge_rn : n0 ≤ rn), Go p e below s QQ room_1.cells room_1.slots (T219.setTop (mkF m 474 #[jv p0, .second, jv R1, .second, jv R2, .second, jv p3, .second, iv p4, iv pp, iv (oI fl), iv mb, iv dr, iv (oI rq), iv k0, iv ka, iv kb, iv k1, iv k2, rv b162, rv b166, rv b170, rv b172, rv b175, rv b182, rv b185, .unset, .unset] [])) := by
                    intro kn xs rn bv T219 h219 lc219 X219 N219 e219 ZZ V_b162 V_b170 Ex_b172 V_pg V_b175 Fp Fs V_pa Ex_b182 F_runs_b182 F_sizes_b182 F_table_b182 F_field_b182 F_size_b182 F_runCount_b182 V_ra V_sz V_b185 V_rn hk1 SR hbv ne_b162_rn ne_b166_rn ne_b170_rn ne_b172_rn ne_pg_rn ne_pa_rn ne_b175_rn ne_b182_rn ne_ra_rn ne_sz_rn ne_b185_rn ge_rn
                    refine gs (fun t => XS.iload X219.here hx rfl (hb hby at_474) rfl) ?_
                    by_cases hdr : dr = (0 : Int32)
                    · skip
                      refine gs (fun t => XS.ifYes X219.here hx rfl (pc0 := 476) (pc' := 503) rfl (hb hby at_476) rfl ((if0 _ _).trans (teq hdr).1) (by decide) (by decide)) ?_
                      exact ktn kn xs rn bv _ _ _ (X219) N219 e219 ZZ V_b162 V_b170 V_b175 Ex_b182 F_runs_b182 F_size_b182 V_ra V_b185 V_rn hk1 SR hbv ne_b162_rn ne_b166_rn ne_b170_rn ne_b172_rn ne_pg_rn ne_pa_rn ne_b175_rn ne_b182_rn ne_ra_rn ne_sz_rn ne_b185_rn ge_rn
                    · skip
                      refine gs (fun t => XS.ifNo X219.here hx rfl (hb hby at_476) rfl ((if0 _ _).trans (feq hdr).1)) ?_
                      refine gs (fun t => XS.aload X219.here hx rfl (hb hby at_479) rfl rfl) ?_
                      refine gs (fun t => XS.iload X219.here hx rfl (hb hby at_481) rfl) ?_
                      refine gs (fun t => ldZf X219 hx hZ e219 V_b185 (j := (oI rq)) (v := (.int (bv rq))) (own_oin hrq (by decide)) (by rw [oI_c (by omega)]) (g := (mkF m 483 #[jv p0, .second, jv R1, .second, jv R2, .second, jv p3, .second, iv p4, iv pp, iv (oI fl), iv mb, iv dr, iv (oI rq), iv k0, iv ka, iv kb, iv k1, iv k2, rv b162, rv b166, rv b170, rv b172, rv b175, rv b182, rv b185, .unset, .unset] [(.int (oI rq)), (.ref b185)])) rfl rfl (hb hby at_483) t) ?_
                      show Go p e below s QQ room_1.cells room_1.slots (T219.setTop (mkF m 484 #[jv p0, .second, jv R1, .second, jv R2, .second, jv p3, .second, iv p4, iv pp, iv (oI fl), iv mb, iv dr, iv (oI rq), iv k0, iv ka, iv kb, iv k1, iv k2, rv b162, rv b166, rv b170, rv b172, rv b175, rv b182, rv b185, .unset, .unset] [(.int (bv rq))]))
                      by_cases hbz : (bv rq) = (0 : Int32)
                      · skip
                        refine gs (fun t => XS.ifYes X219.here hx rfl (pc0 := 484) (pc' := 503) rfl (hb hby at_484) rfl ((if0 _ _).trans (teq hbz).1) (by decide) (by decide)) ?_
                        exact ktn kn xs rn bv _ _ _ (X219) N219 e219 ZZ V_b162 V_b170 V_b175 Ex_b182 F_runs_b182 F_size_b182 V_ra V_b185 V_rn hk1 SR hbv ne_b162_rn ne_b166_rn ne_b170_rn ne_b172_rn ne_pg_rn ne_pa_rn ne_b175_rn ne_b182_rn ne_ra_rn ne_sz_rn ne_b185_rn ge_rn
                      · skip
                        refine gs (fun t => XS.ifNo X219.here hx rfl (hb hby at_484) rfl ((if0 _ _).trans (feq hbz).1)) ?_
                        have hb1 := own_is1 hbv hrq hbz
                        refine gs (fun t => XS.aload X219.here hx rfl (hb hby at_487) rfl rfl) ?_
                        refine gs (fun t => XS.aload X219.here hx rfl (hb hby at_489) rfl rfl) ?_
                        refine gs (fun t => XS.iload X219.here hx rfl (hb hby at_491) rfl) ?_
                        refine gs (fun t => ldIf X219 hx hZ e219 V_b175 (j := (oI rq)) (v := (.int (oI rq))) (own_oin hrq (by decide)) (by rw [oI_c (by omega)]) (g := (mkF m 493 #[jv p0, .second, jv R1, .second, jv R2, .second, jv p3, .second, iv p4, iv pp, iv (oI fl), iv mb, iv dr, iv (oI rq), iv k0, iv ka, iv kb, iv k1, iv k2, rv b162, rv b166, rv b170, rv b172, rv b175, rv b182, rv b185, .unset, .unset] [(.int (oI rq)), (.ref b175), (.ref b182)])) rfl rfl (hb hby at_493) t) ?_
                        by_cases hkq : kn = 1
                        · skip
                          subst hkq
                          obtain ⟨cq220, kq220, q220a, q220b, q220c⟩ := isOf hZ e219 Ex_b182
                          obtain ⟨_, _, ⟨T220, L220, k220, n220⟩, -, X220, ⟨Lc220, hQ220, l220, y220, z220⟩, st220⟩ := X219.virtualBack hx (y := (⟨"com/example/interval/interval/service/SlotOrder", "remove", "(I)V"⟩ : MethodName)) (z := (⟨"com/example/interval/interval/service/SlotOrder", "remove", "(I)V"⟩ : MethodName)) hown (mvT hZ (hw _ (List.mem_of_getElem? (i := 97) rfl))) (mvT hZ (hw _ (List.mem_of_getElem? (i := 98) rfl))) (notFace_of_selects (args := #[]) (mvT hZ (hw _ (List.mem_of_getElem? (i := 100) rfl)))) (mvT hZ (hw _ (List.mem_of_getElem? (i := 100) rfl))) (mvT hZ (hw _ (List.mem_of_getElem? (i := 99) rfl))) (by decide) (backOf (W := 0) (rmV1 l Z a0 hw [] b182 rq ra sz rn xs b172 pg pa (updv (fun _ => .null) 0 (.ref pa)) (own_tf S0 S1 S2 p0 R1 R2) fl (own_vv fl (own_q3 S0 S1 S2) (own_q3 p0 R1 R2)) (own_q3 S0 S1 S2) h219 n0 ZZ F_runs_b182 F_sizes_b182 F_table_b182 F_field_b182 F_size_b182 F_runCount_b182 Ex_b182 V_ra V_sz V_rn Ex_b172 Fp V_pg rfl V_pa HTB hfl ge_b182 ge_ra ge_sz ge_rn ne_b182_ra ne_b182_sz ne_b182_rn nrs ne_ra_rn ne_sz_rn (Ne.symm ne_b172_b182) (Ne.symm ne_pg_b182) (Ne.symm ne_pa_b182) (Ne.symm ne_b172_ra) (Ne.symm ne_pg_ra) (Ne.symm ne_pa_ra) (Ne.symm ne_b172_sz) (Ne.symm ne_pg_sz) (Ne.symm ne_pa_sz) (Ne.symm ne_b172_rn) (Ne.symm ne_pg_rn) (Ne.symm ne_pa_rn) hrq (fun i hi => (SR.2.1 i hi).1) (own_Smono SR) (own_Sfind SR hrq hb1)) hZ (hw _ (List.mem_of_getElem? (i := 101) rfl)) (hw _ (List.mem_of_getElem? (i := 33) rfl)) (by decide) (by decide)) q220a q220c (g := (mkF m 494 #[jv p0, .second, jv R1, .second, jv R2, .second, jv p3, .second, iv p4, iv pp, iv (oI fl), iv mb, iv dr, iv (oI rq), iv k0, iv ka, iv kb, iv k1, iv k2, rv b162, rv b166, rv b170, rv b172, rv b175, rv b182, rv b185, .unset, .unset] [(.int (oI rq)), (.ref b182)])) rfl (by rw [hml]; rfl) (Steps.refl _) (argsL := [(.int (oI rq))]) (rest := []) (lenOf pd_6 rfl) rfl (by show 2 * 0 + _ ≤ _; exact Nat.le_of_eq rfl) (hb hby at_494) (fun _ _ => ⟨rfl, e219, (by decide : 12 + 0 ≤ _), (by decide : 74 + 0 ≤ _)⟩)
                          dsimp only [Pt.U, Pt.locs, Pt.cells, Pt.slots] at X220 l220 y220 z220 st220 hQ220
                          subst l220 y220 z220
                          obtain ⟨rfl, N220q, K220, Gruns_220, Gsizes_220, Gtable_220, Gfield_220, Gsize_220, GrunCount_220⟩ := hQ220
                          replace N219 := Fr.app N219 N220q
                          refine gt st220 ?_
                          show Go p e below s QQ room_1.cells room_1.slots (T220.setTop (mkF m 497 #[jv p0, .second, jv R1, .second, jv R2, .second, jv p3, .second, iv p4, iv pp, iv (oI fl), iv mb, iv dr, iv (oI rq), iv k0, iv ka, iv kb, iv k1, iv k2, rv b162, rv b166, rv b170, rv b172, rv b175, rv b182, rv b185, .unset, .unset] []))
                          replace V_b162 := V_b162.keep K220 (ninS ne_b162_b182 (ninS ne_b162_ra (ninS ne_b162_sz (ninS ne_b162_rn nin0))))
                          replace V_b170 := V_b170.keep K220 (ninS ne_b170_b182 (ninS ne_b170_ra (ninS ne_b170_sz (ninS ne_b170_rn nin0))))
                          replace Ex_b172 := Ex_b172.keep K220
                          replace V_pg := V_pg.keep K220 (ninS ne_pg_b182 (ninS ne_pg_ra (ninS ne_pg_sz (ninS ne_pg_rn nin0))))
                          replace V_b175 := V_b175.keep K220 (ninS ne_b175_b182 (ninS ne_b175_ra (ninS ne_b175_sz (ninS ne_b175_rn nin0))))
                          replace Fp := Fp.keep K220 (ninS ne_b172_b182 (ninS ne_b172_ra (ninS ne_b172_sz (ninS ne_b172_rn nin0))))
                          replace Fs := Fs.keep K220 (ninS ne_b172_b182 (ninS ne_b172_ra (ninS ne_b172_sz (ninS ne_b172_rn nin0))))
                          replace V_pa := V_pa.keep K220 (ninS ne_pa_b182 (ninS ne_pa_ra (ninS ne_pa_sz (ninS ne_pa_rn nin0))))
                          replace Ex_b182 := Ex_b182.keep K220
                          replace V_b185 := V_b185.keep K220 (ninS (Ne.symm ne_b182_b185) (ninS (Ne.symm ne_ra_b185) (ninS (Ne.symm ne_sz_b185) (ninS ne_b185_rn nin0))))
                          replace ZZ := Nat.le_trans ZZ K220.1
                          have F_runs_b182 := Gruns_220
                          have F_sizes_b182 := Gsizes_220
                          have F_table_b182 := Gtable_220
                          have F_field_b182 := Gfield_220
                          have F_size_b182 := Gsize_220
                          have F_runCount_b182 := GrunCount_220
                          refine gs (fun t => XS.aload X220.here hx rfl (hb hby at_497) rfl rfl) ?_
                          refine gs (fun t => XS.iload X220.here hx rfl (hb hby at_499) rfl) ?_
                          refine gs (fun t => XS.iconst X220.here hx rfl (hb hby at_501)) ?_
                          obtain ⟨T221, h221, X221, e221, W221, V221, st221⟩ := stZf X220 hx hZ rfl V_b185 (j := (oI rq)) (own_oin hrq (by decide)) (g := (mkF m 502 #[jv p0, .second, jv R1, .second, jv R2, .second, jv p3, .second, iv p4, iv pp, iv (oI fl), iv mb, iv dr, iv (oI rq), iv k0, iv ka, iv kb, iv k1, iv k2, rv b162, rv b166, rv b170, rv b172, rv b175, rv b182, rv b185, .unset, .unset] [(.int (0 : Int32)), (.int (oI rq)), (.ref b185)])) rfl rfl (hb hby at_502)
                          rw [(show nar .boolean (0 : Int32) = 0 by decide)] at W221 V221
                          replace N219 := Fr.snoc X221 N219 ge_b185
                          refine gs st221 ?_
                          show Go p e below s QQ room_1.cells room_1.slots (T221.setTop (mkF m 503 #[jv p0, .second, jv R1, .second, jv R2, .second, jv p3, .second, iv p4, iv pp, iv (oI fl), iv mb, iv dr, iv (oI rq), iv k0, iv ka, iv kb, iv k1, iv k2, rv b162, rv b166, rv b170, rv b172, rv b175, rv b182, rv b185, .unset, .unset] []))
                          replace V_b162 := V_b162.other W221 ne_b162_b185
                          replace V_b170 := V_b170.other W221 ne_b170_b185
                          replace Ex_b172 := Ex_b172.wr W221
                          replace V_pg := V_pg.other W221 ne_pg_b185
                          replace V_b175 := V_b175.other W221 ne_b175_b185
                          replace Fp := Fp.other W221 (Or.inl ne_b172_b185)
                          replace Fs := Fs.other W221 (Or.inl ne_b172_b185)
                          replace V_pa := V_pa.other W221 ne_pa_b185
                          replace Ex_b182 := Ex_b182.wr W221
                          replace F_runs_b182 := F_runs_b182.other W221 (Or.inl ne_b182_b185)
                          replace F_sizes_b182 := F_sizes_b182.other W221 (Or.inl ne_b182_b185)
                          replace F_table_b182 := F_table_b182.other W221 (Or.inl ne_b182_b185)
                          replace F_field_b182 := F_field_b182.other W221 (Or.inl ne_b182_b185)
                          replace F_size_b182 := F_size_b182.other W221 (Or.inl ne_b182_b185)
                          replace F_runCount_b182 := F_runCount_b182.other W221 (Or.inl ne_b182_b185)
                          replace ZZ : n0 ≤ h221.size := by rw [W221.size]; exact ZZ
                          replace V_b185 : Arf Z h221 b185 .boolean 3 (updv (fun i => .int (bv i)) (oI rq).toNatClampNeg (.int (0 : Int32))) := V221
                          replace V_b185 : Arf Z h221 b185 .boolean 3 (fun i => .int (own_up bv rq 0 i)) := V_b185.congr (fun i hi => by rw [oI_c (by omega)]; show (if i = rq then _ else _) = Value.int (own_up bv rq 0 i); unfold own_up; split <;> rfl)
                          exact kt0 (own_up bv rq 0) _ _ _ (X221) N219 e221 ZZ V_b162 V_b170 V_b175 Ex_b182 F_size_b182 V_b185 (own_S1 SR hbv hrq hb1)
                        · skip
                          obtain ⟨cq222, kq222, q222a, q222b, q222c⟩ := isOf hZ e219 Ex_b182
                          obtain ⟨_, _, ⟨T222, L222, k222, n222⟩, -, X222, ⟨Lc222, hQ222, l222, y222, z222⟩, st222⟩ := X219.virtualBack hx (y := (⟨"com/example/interval/interval/service/SlotOrder", "remove", "(I)V"⟩ : MethodName)) (z := (⟨"com/example/interval/interval/service/SlotOrder", "remove", "(I)V"⟩ : MethodName)) hown (mvT hZ (hw _ (List.mem_of_getElem? (i := 97) rfl))) (mvT hZ (hw _ (List.mem_of_getElem? (i := 98) rfl))) (notFace_of_selects (args := #[]) (mvT hZ (hw _ (List.mem_of_getElem? (i := 100) rfl)))) (mvT hZ (hw _ (List.mem_of_getElem? (i := 100) rfl))) (mvT hZ (hw _ (List.mem_of_getElem? (i := 99) rfl))) (by decide) (backOf (W := 0) (rmVN l Z a0 hw [] b182 rq ra sz rn kn xs b172 pg pa (updv (fun _ => .null) 0 (.ref pa)) (own_tf S0 S1 S2 p0 R1 R2) fl (own_vv fl (own_q3 S0 S1 S2) (own_q3 p0 R1 R2)) (own_q3 S0 S1 S2) h219 n0 ZZ F_runs_b182 F_sizes_b182 F_table_b182 F_field_b182 F_size_b182 F_runCount_b182 Ex_b182 V_ra V_sz V_rn Ex_b172 Fp V_pg rfl V_pa HTB hfl ge_b182 ge_sz ge_rn ne_b182_ra ne_b182_sz ne_b182_rn nrs ne_ra_rn ne_sz_rn (Ne.symm ne_b172_b182) (Ne.symm ne_pg_b182) (Ne.symm ne_pa_b182) (Ne.symm ne_b172_ra) (Ne.symm ne_pg_ra) (Ne.symm ne_pa_ra) (Ne.symm ne_b172_sz) (Ne.symm ne_pg_sz) (Ne.symm ne_pa_sz) (Ne.symm ne_b172_rn) (Ne.symm ne_pg_rn) (Ne.symm ne_pa_rn) hrq (fun i hi => (SR.2.1 i hi).1) (own_Smono SR) (own_Sfind SR hrq hb1) (by omega) SR.1) hZ (hw _ (List.mem_of_getElem? (i := 101) rfl)) (hw _ (List.mem_of_getElem? (i := 33) rfl)) (by decide) (by decide)) q222a q222c (g := (mkF m 494 #[jv p0, .second, jv R1, .second, jv R2, .second, jv p3, .second, iv p4, iv pp, iv (oI fl), iv mb, iv dr, iv (oI rq), iv k0, iv ka, iv kb, iv k1, iv k2, rv b162, rv b166, rv b170, rv b172, rv b175, rv b182, rv b185, .unset, .unset] [(.int (oI rq)), (.ref b182)])) rfl (by rw [hml]; rfl) (Steps.refl _) (argsL := [(.int (oI rq))]) (rest := []) (lenOf pd_6 rfl) rfl (by show 2 * 0 + _ ≤ _; exact Nat.le_of_eq rfl) (hb hby at_494) (fun _ _ => ⟨rfl, e219, (by decide : 12 + 0 ≤ _), (by decide : 74 + 0 ≤ _)⟩)
                          dsimp only [Pt.U, Pt.locs, Pt.cells, Pt.slots] at X222 l222 y222 z222 st222 hQ222
                          subst l222 y222 z222
                          obtain ⟨j222, rfl, N222q, K222, Gruns_222, Gsizes_222, Gtable_222, Gfield_222, Gsize_222, GrunCount_222, V_ra222, V_sz222, V_rn222, hj222, ej222⟩ := hQ222
                          replace N219 := Fr.app N219 N222q
                          refine gt st222 ?_
                          show Go p e below s QQ room_1.cells room_1.slots (T222.setTop (mkF m 497 #[jv p0, .second, jv R1, .second, jv R2, .second, jv p3, .second, iv p4, iv pp, iv (oI fl), iv mb, iv dr, iv (oI rq), iv k0, iv ka, iv kb, iv k1, iv k2, rv b162, rv b166, rv b170, rv b172, rv b175, rv b182, rv b185, .unset, .unset] []))
                          replace V_b162 := V_b162.keep K222 (ninS ne_b162_b182 (ninS ne_b162_sz (ninS ne_b162_rn nin0)))
                          replace V_b170 := V_b170.keep K222 (ninS ne_b170_b182 (ninS ne_b170_sz (ninS ne_b170_rn nin0)))
                          replace Ex_b172 := Ex_b172.keep K222
                          replace V_pg := V_pg.keep K222 (ninS ne_pg_b182 (ninS ne_pg_sz (ninS ne_pg_rn nin0)))
                          replace V_b175 := V_b175.keep K222 (ninS ne_b175_b182 (ninS ne_b175_sz (ninS ne_b175_rn nin0)))
                          replace Fp := Fp.keep K222 (ninS ne_b172_b182 (ninS ne_b172_sz (ninS ne_b172_rn nin0)))
                          replace Fs := Fs.keep K222 (ninS ne_b172_b182 (ninS ne_b172_sz (ninS ne_b172_rn nin0)))
                          replace V_pa := V_pa.keep K222 (ninS ne_pa_b182 (ninS ne_pa_sz (ninS ne_pa_rn nin0)))
                          replace Ex_b182 := Ex_b182.keep K222
                          replace V_ra := V_ra.keep K222 (ninS (Ne.symm ne_b182_ra) (ninS nrs (ninS ne_ra_rn nin0)))
                          replace V_b185 := V_b185.keep K222 (ninS (Ne.symm ne_b182_b185) (ninS (Ne.symm ne_sz_b185) (ninS ne_b185_rn nin0)))
                          replace ZZ := Nat.le_trans ZZ K222.1
                          have F_runs_b182 := Gruns_222
                          have F_sizes_b182 := Gsizes_222
                          have F_table_b182 := Gtable_222
                          have F_field_b182 := Gfield_222
                          have F_size_b182 := Gsize_222
                          have F_runCount_b182 := GrunCount_222
                          have V_ra := V_ra222
                          have V_sz := V_sz222
                          have V_rn := V_rn222
                          refine gs (fun t => XS.aload X222.here hx rfl (hb hby at_497) rfl rfl) ?_
                          refine gs (fun t => XS.iload X222.here hx rfl (hb hby at_499) rfl) ?_
                          refine gs (fun t => XS.iconst X222.here hx rfl (hb hby at_501)) ?_
                          obtain ⟨T223, h223, X223, e223, W223, V223, st223⟩ := stZf X222 hx hZ rfl V_b185 (j := (oI rq)) (own_oin hrq (by decide)) (g := (mkF m 502 #[jv p0, .second, jv R1, .second, jv R2, .second, jv p3, .second, iv p4, iv pp, iv (oI fl), iv mb, iv dr, iv (oI rq), iv k0, iv ka, iv kb, iv k1, iv k2, rv b162, rv b166, rv b170, rv b172, rv b175, rv b182, rv b185, .unset, .unset] [(.int (0 : Int32)), (.int (oI rq)), (.ref b185)])) rfl rfl (hb hby at_502)
                          rw [(show nar .boolean (0 : Int32) = 0 by decide)] at W223 V223
                          replace N219 := Fr.snoc X223 N219 ge_b185
                          refine gs st223 ?_
                          show Go p e below s QQ room_1.cells room_1.slots (T223.setTop (mkF m 503 #[jv p0, .second, jv R1, .second, jv R2, .second, jv p3, .second, iv p4, iv pp, iv (oI fl), iv mb, iv dr, iv (oI rq), iv k0, iv ka, iv kb, iv k1, iv k2, rv b162, rv b166, rv b170, rv b172, rv b175, rv b182, rv b185, .unset, .unset] []))
                          replace V_b162 := V_b162.other W223 ne_b162_b185
                          replace V_b170 := V_b170.other W223 ne_b170_b185
                          replace Ex_b172 := Ex_b172.wr W223
                          replace V_pg := V_pg.other W223 ne_pg_b185
                          replace V_b175 := V_b175.other W223 ne_b175_b185
                          replace Fp := Fp.other W223 (Or.inl ne_b172_b185)
                          replace Fs := Fs.other W223 (Or.inl ne_b172_b185)
                          replace V_pa := V_pa.other W223 ne_pa_b185
                          replace Ex_b182 := Ex_b182.wr W223
                          replace V_ra := V_ra.other W223 ne_ra_b185
                          replace F_runs_b182 := F_runs_b182.other W223 (Or.inl ne_b182_b185)
                          replace F_sizes_b182 := F_sizes_b182.other W223 (Or.inl ne_b182_b185)
                          replace F_table_b182 := F_table_b182.other W223 (Or.inl ne_b182_b185)
                          replace F_field_b182 := F_field_b182.other W223 (Or.inl ne_b182_b185)
                          replace F_size_b182 := F_size_b182.other W223 (Or.inl ne_b182_b185)
                          replace F_runCount_b182 := F_runCount_b182.other W223 (Or.inl ne_b182_b185)
                          replace V_sz := V_sz.other W223 ne_sz_b185
                          replace V_rn := V_rn.other W223 (Ne.symm ne_b185_rn)
                          replace ZZ : n0 ≤ h223.size := by rw [W223.size]; exact ZZ
                          replace V_b185 : Arf Z h223 b185 .boolean 3 (updv (fun i => .int (bv i)) (oI rq).toNatClampNeg (.int (0 : Int32))) := V223
                          replace V_b185 : Arf Z h223 b185 .boolean 3 (fun i => .int (own_up bv rq 0 i)) := V_b185.congr (fun i hi => by rw [oI_c (by omega)]; show (if i = rq then _ else _) = Value.int (own_up bv rq 0 i); unfold own_up; split <;> rfl)
                          exact ktn (kn - 1) (own_mv xs (j222 + 1) j222 (kn - j222 - 1)) rn (own_up bv rq 0) _ _ _ (X223) N219 e223 ZZ V_b162 V_b170 V_b175 Ex_b182 F_runs_b182 F_size_b182 V_ra V_b185 V_rn (by omega) (own_Srem SR hj222 ej222) (own_up01 hbv rq) ne_b162_rn ne_b166_rn ne_b170_rn ne_b172_rn ne_pg_rn ne_pa_rn ne_b175_rn ne_b182_rn ne_ra_rn ne_sz_rn ne_b185_rn ge_rn
                  rcases hb0 with rfl | rfl
                  · skip
                    show Go p e below s QQ room_1.cells room_1.slots (T191.setTop (mkF m 426 #[jv p0, .second, jv R1, .second, jv R2, .second, jv p3, .second, iv p4, iv pp, iv (oI fl), iv mb, iv dr, iv (oI rq), iv k0, iv ka, iv kb, iv k1, iv k2, rv b162, rv b166, rv b170, rv b172, rv b175, rv b182, rv b185, .unset, .unset] []))
                    refine gs (fun t => XS.aload X191.here hx rfl (hb hby at_426) rfl rfl) ?_
                    refine gs (fun t => XS.iconst X191.here hx rfl (hb hby at_428)) ?_
                    refine gs (fun t => ldZf X191 hx hZ e191 V_b185 (j := (0 : Int32)) (v := (.int (0 : Int32))) (by decide) rfl (g := (mkF m 429 #[jv p0, .second, jv R1, .second, jv R2, .second, jv p3, .second, iv p4, iv pp, iv (oI fl), iv mb, iv dr, iv (oI rq), iv k0, iv ka, iv kb, iv k1, iv k2, rv b162, rv b166, rv b170, rv b172, rv b175, rv b182, rv b185, .unset, .unset] [(.int (0 : Int32)), (.ref b185)])) rfl rfl (hb hby at_429) t) ?_
                    refine gs (fun t => XS.ifYes X191.here hx rfl (pc0 := 430) (pc' := 442) rfl (hb hby at_430) rfl ((if0 _ _).trans (teq (by decide : (0 : Int32) = (0 : Int32))).1) (by decide) (by decide)) ?_
                    rcases hb1 with rfl | rfl
                    · skip
                      show Go p e below s QQ room_1.cells room_1.slots (T191.setTop (mkF m 442 #[jv p0, .second, jv R1, .second, jv R2, .second, jv p3, .second, iv p4, iv pp, iv (oI fl), iv mb, iv dr, iv (oI rq), iv k0, iv ka, iv kb, iv k1, iv k2, rv b162, rv b166, rv b170, rv b172, rv b175, rv b182, rv b185, .unset, .unset] []))
                      refine gs (fun t => XS.aload X191.here hx rfl (hb hby at_442) rfl rfl) ?_
                      refine gs (fun t => XS.iconst X191.here hx rfl (hb hby at_444)) ?_
                      refine gs (fun t => ldZf X191 hx hZ e191 V_b185 (j := (1 : Int32)) (v := (.int (0 : Int32))) (by decide) rfl (g := (mkF m 445 #[jv p0, .second, jv R1, .second, jv R2, .second, jv p3, .second, iv p4, iv pp, iv (oI fl), iv mb, iv dr, iv (oI rq), iv k0, iv ka, iv kb, iv k1, iv k2, rv b162, rv b166, rv b170, rv b172, rv b175, rv b182, rv b185, .unset, .unset] [(.int (1 : Int32)), (.ref b185)])) rfl rfl (hb hby at_445) t) ?_
                      refine gs (fun t => XS.ifYes X191.here hx rfl (pc0 := 446) (pc' := 458) rfl (hb hby at_446) rfl ((if0 _ _).trans (teq (by decide : (0 : Int32) = (0 : Int32))).1) (by decide) (by decide)) ?_
                      rcases hb2 with rfl | rfl
                      · skip
                        show Go p e below s QQ room_1.cells room_1.slots (T191.setTop (mkF m 458 #[jv p0, .second, jv R1, .second, jv R2, .second, jv p3, .second, iv p4, iv pp, iv (oI fl), iv mb, iv dr, iv (oI rq), iv k0, iv ka, iv kb, iv k1, iv k2, rv b162, rv b166, rv b170, rv b172, rv b175, rv b182, rv b185, .unset, .unset] []))
                        refine gs (fun t => XS.aload X191.here hx rfl (hb hby at_458) rfl rfl) ?_
                        refine gs (fun t => XS.iconst X191.here hx rfl (hb hby at_460)) ?_
                        refine gs (fun t => ldZf X191 hx hZ e191 V_b185 (j := (2 : Int32)) (v := (.int (0 : Int32))) (by decide) rfl (g := (mkF m 461 #[jv p0, .second, jv R1, .second, jv R2, .second, jv p3, .second, iv p4, iv pp, iv (oI fl), iv mb, iv dr, iv (oI rq), iv k0, iv ka, iv kb, iv k1, iv k2, rv b162, rv b166, rv b170, rv b172, rv b175, rv b182, rv b185, .unset, .unset] [(.int (2 : Int32)), (.ref b185)])) rfl rfl (hb hby at_461) t) ?_
                        refine gs (fun t => XS.ifYes X191.here hx rfl (pc0 := 462) (pc' := 474) rfl (hb hby at_462) rfl ((if0 _ _).trans (teq (by decide : (0 : Int32) = (0 : Int32))).1) (by decide) (by decide)) ?_
                        refine gs (fun t => XS.iload X191.here hx rfl (hb hby at_474) rfl) ?_
                        by_cases hdr : dr = (0 : Int32)
                        · skip
                          refine gs (fun t => XS.ifYes X191.here hx rfl (pc0 := 476) (pc' := 503) rfl (hb hby at_476) rfl ((if0 _ _).trans (teq hdr).1) (by decide) (by decide)) ?_
                          show Go p e below s QQ room_1.cells room_1.slots (T191.setTop (mkF m 503 #[jv p0, .second, jv R1, .second, jv R2, .second, jv p3, .second, iv p4, iv pp, iv (oI fl), iv mb, iv dr, iv (oI rq), iv k0, iv ka, iv kb, iv k1, iv k2, rv b162, rv b166, rv b170, rv b172, rv b175, rv b182, rv b185, .unset, .unset] []))
                          exact kt0 (own_b3 (0 : Int32) (0 : Int32) (0 : Int32)) _ _ _ (X191.mono (by decide) (by decide)) N171 e191 ZZ V_b162 V_b170 V_b175 Ex_b182 F_size_b182 V_b185 (fun i hi => by rcases own_3c hi with rfl | rfl | rfl <;> rfl)
                        · skip
                          refine gs (fun t => XS.ifNo X191.here hx rfl (hb hby at_476) rfl ((if0 _ _).trans (feq hdr).1)) ?_
                          show Go p e below s QQ room_1.cells room_1.slots (T191.setTop (mkF m 479 #[jv p0, .second, jv R1, .second, jv R2, .second, jv p3, .second, iv p4, iv pp, iv (oI fl), iv mb, iv dr, iv (oI rq), iv k0, iv ka, iv kb, iv k1, iv k2, rv b162, rv b166, rv b170, rv b172, rv b175, rv b182, rv b185, .unset, .unset] []))
                          refine gs (fun t => XS.aload X191.here hx rfl (hb hby at_479) rfl rfl) ?_
                          refine gs (fun t => XS.iload X191.here hx rfl (hb hby at_481) rfl) ?_
                          refine gs (fun t => ldZf X191 hx hZ e191 V_b185 (j := (oI rq)) (v := (.int (0 : Int32))) (own_oin hrq (by decide)) (by rw [oI_c (by omega)]; rcases own_3c hrq with rfl | rfl | rfl <;> rfl) (g := (mkF m 483 #[jv p0, .second, jv R1, .second, jv R2, .second, jv p3, .second, iv p4, iv pp, iv (oI fl), iv mb, iv dr, iv (oI rq), iv k0, iv ka, iv kb, iv k1, iv k2, rv b162, rv b166, rv b170, rv b172, rv b175, rv b182, rv b185, .unset, .unset] [(.int (oI rq)), (.ref b185)])) rfl rfl (hb hby at_483) t) ?_
                          refine gs (fun t => XS.ifYes X191.here hx rfl (pc0 := 484) (pc' := 503) rfl (hb hby at_484) rfl ((if0 _ _).trans (teq (by decide : (0 : Int32) = (0 : Int32))).1) (by decide) (by decide)) ?_
                          exact kt0 (own_b3 (0 : Int32) (0 : Int32) (0 : Int32)) _ _ _ (X191.mono (by decide) (by decide)) N171 e191 ZZ V_b162 V_b170 V_b175 Ex_b182 F_size_b182 V_b185 (fun i hi => by rcases own_3c hi with rfl | rfl | rfl <;> rfl)
                      · skip
                        show Go p e below s QQ room_1.cells room_1.slots (T191.setTop (mkF m 458 #[jv p0, .second, jv R1, .second, jv R2, .second, jv p3, .second, iv p4, iv pp, iv (oI fl), iv mb, iv dr, iv (oI rq), iv k0, iv ka, iv kb, iv k1, iv k2, rv b162, rv b166, rv b170, rv b172, rv b175, rv b182, rv b185, .unset, .unset] []))
                        refine gs (fun t => XS.aload X191.here hx rfl (hb hby at_458) rfl rfl) ?_
                        refine gs (fun t => XS.iconst X191.here hx rfl (hb hby at_460)) ?_
                        refine gs (fun t => ldZf X191 hx hZ e191 V_b185 (j := (2 : Int32)) (v := (.int (1 : Int32))) (by decide) rfl (g := (mkF m 461 #[jv p0, .second, jv R1, .second, jv R2, .second, jv p3, .second, iv p4, iv pp, iv (oI fl), iv mb, iv dr, iv (oI rq), iv k0, iv ka, iv kb, iv k1, iv k2, rv b162, rv b166, rv b170, rv b172, rv b175, rv b182, rv b185, .unset, .unset] [(.int (2 : Int32)), (.ref b185)])) rfl rfl (hb hby at_461) t) ?_
                        refine gs (fun t => XS.ifNo X191.here hx rfl (hb hby at_462) rfl ((if0 _ _).trans (feq (by decide : ¬ ((1 : Int32) = (0 : Int32)))).1)) ?_
                        refine gs (fun t => XS.aload X191.here hx rfl (hb hby at_465) rfl rfl) ?_
                        refine gs (fun t => XS.aload X191.here hx rfl (hb hby at_467) rfl rfl) ?_
                        show Go p e below s QQ room_1.cells room_1.slots (T191.setTop (mkF m 469 #[jv p0, .second, jv R1, .second, jv R2, .second, jv p3, .second, iv p4, iv pp, iv (oI fl), iv mb, iv dr, iv (oI rq), iv k0, iv ka, iv kb, iv k1, iv k2, rv b162, rv b166, rv b170, rv b172, rv b175, rv b182, rv b185, .unset, .unset] [(.ref b175), (.ref b182)]))
                        refine gs (fun t => XS.iconst X191.here hx rfl (hb hby at_469)) ?_
                        refine gs (fun t => ldIf X191 hx hZ e191 V_b175 (j := (2 : Int32)) (v := (.int (oI 2))) (by decide) rfl (g := (mkF m 470 #[jv p0, .second, jv R1, .second, jv R2, .second, jv p3, .second, iv p4, iv pp, iv (oI fl), iv mb, iv dr, iv (oI rq), iv k0, iv ka, iv kb, iv k1, iv k2, rv b162, rv b166, rv b170, rv b172, rv b175, rv b182, rv b185, .unset, .unset] [(.int (2 : Int32)), (.ref b175), (.ref b182)])) rfl rfl (hb hby at_470) t) ?_
                        have ZZm224 := ZZ
                        have lt224_b162 := V_b162.lt
                        have lt224_b166 := V_b166.lt
                        have lt224_b170 := V_b170.lt
                        have lt224_b172 := Ex_b172.lt
                        have lt224_pg := V_pg.lt
                        have lt224_pa := V_pa.lt
                        have lt224_b175 := V_b175.lt
                        have lt224_b182 := Ex_b182.lt
                        have lt224_ra := V_ra.lt
                        have lt224_sz := V_sz.lt
                        have lt224_b185 := V_b185.lt
                        obtain ⟨cq225, kq225, q225a, q225b, q225c⟩ := isOf hZ e191 Ex_b182
                        obtain ⟨_, _, ⟨T225, L225, k225, n225⟩, -, X225, ⟨Lc225, hQ225, l225, y225, z225⟩, st225⟩ := X191.virtualBack hx (y := (⟨"com/example/interval/interval/service/SlotOrder", "add", "(I)V"⟩ : MethodName)) (z := (⟨"com/example/interval/interval/service/SlotOrder", "add", "(I)V"⟩ : MethodName)) hown (mvT hZ (hw _ (List.mem_of_getElem? (i := 60) rfl))) (mvT hZ (hw _ (List.mem_of_getElem? (i := 61) rfl))) (notFace_of_selects (args := #[]) (mvT hZ (hw _ (List.mem_of_getElem? (i := 63) rfl)))) (mvT hZ (hw _ (List.mem_of_getElem? (i := 63) rfl))) (mvT hZ (hw _ (List.mem_of_getElem? (i := 62) rfl))) (by decide) (backOf (W := 0) (rmA0 l Z a0 hw [] b182 2 ra sz b172 pg pa (updv (fun _ => .null) 0 (.ref pa)) (own_tf S0 S1 S2 p0 R1 R2) fl (own_vv fl (own_q3 S0 S1 S2) (own_q3 p0 R1 R2)) (own_q3 S0 S1 S2) h191 n0 ZZ F_runs_b182 F_sizes_b182 F_table_b182 F_field_b182 F_size_b182 F_runCount_b182 Ex_b182 V_ra TK_ra V_sz Ex_b172 Fp V_pg rfl V_pa HTB hfl ge_b182 ge_ra ge_sz ne_b182_ra ne_b182_sz nrs (Ne.symm ne_b172_b182) (Ne.symm ne_pg_b182) (Ne.symm ne_pa_b182) (Ne.symm ne_b172_ra) (Ne.symm ne_pg_ra) (Ne.symm ne_pa_ra) (Ne.symm ne_b172_sz) (Ne.symm ne_pg_sz) (Ne.symm ne_pa_sz) (by decide)) hZ (hw _ (List.mem_of_getElem? (i := 64) rfl)) (hw _ (List.mem_of_getElem? (i := 33) rfl)) (by decide) (by decide)) q225a q225c (g := (mkF m 471 #[jv p0, .second, jv R1, .second, jv R2, .second, jv p3, .second, iv p4, iv pp, iv (oI fl), iv mb, iv dr, iv (oI rq), iv k0, iv ka, iv kb, iv k1, iv k2, rv b162, rv b166, rv b170, rv b172, rv b175, rv b182, rv b185, .unset, .unset] [(.int (oI 2)), (.ref b182)])) rfl (by rw [hml]; rfl) (Steps.refl _) (argsL := [(.int (oI 2))]) (rest := []) (lenOf pd_6 rfl) rfl (by show 2 * 0 + _ ≤ _; exact Nat.le_of_eq rfl) (hb hby at_471) (fun _ _ => ⟨rfl, e191, (by decide : 11 + 1 ≤ _), (by decide : 66 + 8 ≤ _)⟩)
                        dsimp only [Pt.U, Pt.locs, Pt.cells, Pt.slots] at X225 l225 y225 z225 st225 hQ225
                        subst l225 y225 z225
                        obtain ⟨rn225, j225, rfl, N225q, grn225, K225, Gruns_225, Gsizes_225, Gtable_225, Gfield_225, Gsize_225, GrunCount_225, V_ra225, V_sz225, V_rn225, hj225⟩ := hQ225
                        replace N171 := Fr.app N171 N225q
                        refine gt st225 ?_
                        show Go p e below s QQ room_1.cells room_1.slots (T225.setTop (mkF m 474 #[jv p0, .second, jv R1, .second, jv R2, .second, jv p3, .second, iv p4, iv pp, iv (oI fl), iv mb, iv dr, iv (oI rq), iv k0, iv ka, iv kb, iv k1, iv k2, rv b162, rv b166, rv b170, rv b172, rv b175, rv b182, rv b185, .unset, .unset] []))
                        replace V_b162 := V_b162.keep K225 (ninS ne_b162_b182 (ninS ne_b162_ra (ninS ne_b162_sz nin0)))
                        replace V_b166 := V_b166.keep K225 (ninS ne_b166_b182 (ninS ne_b166_ra (ninS ne_b166_sz nin0)))
                        replace V_b170 := V_b170.keep K225 (ninS ne_b170_b182 (ninS ne_b170_ra (ninS ne_b170_sz nin0)))
                        replace Ex_b172 := Ex_b172.keep K225
                        replace V_pg := V_pg.keep K225 (ninS ne_pg_b182 (ninS ne_pg_ra (ninS ne_pg_sz nin0)))
                        replace V_b175 := V_b175.keep K225 (ninS ne_b175_b182 (ninS ne_b175_ra (ninS ne_b175_sz nin0)))
                        replace Fp := Fp.keep K225 (ninS ne_b172_b182 (ninS ne_b172_ra (ninS ne_b172_sz nin0)))
                        replace Fs := Fs.keep K225 (ninS ne_b172_b182 (ninS ne_b172_ra (ninS ne_b172_sz nin0)))
                        replace V_pa := V_pa.keep K225 (ninS ne_pa_b182 (ninS ne_pa_ra (ninS ne_pa_sz nin0)))
                        replace Ex_b182 := Ex_b182.keep K225
                        replace TK_ra := TK_ra.keep K225
                        replace V_b185 := V_b185.keep K225 (ninS (Ne.symm ne_b182_b185) (ninS (Ne.symm ne_ra_b185) (ninS (Ne.symm ne_sz_b185) nin0)))
                        replace ZZ := Nat.le_trans ZZ K225.1
                        have ne_b162_rn225 : b162 ≠ rn225 := Nat.ne_of_lt (Nat.lt_of_lt_of_le lt224_b162 grn225)
                        have ne_b166_rn225 : b166 ≠ rn225 := Nat.ne_of_lt (Nat.lt_of_lt_of_le lt224_b166 grn225)
                        have ne_b170_rn225 : b170 ≠ rn225 := Nat.ne_of_lt (Nat.lt_of_lt_of_le lt224_b170 grn225)
                        have ne_b172_rn225 : b172 ≠ rn225 := Nat.ne_of_lt (Nat.lt_of_lt_of_le lt224_b172 grn225)
                        have ne_pg_rn225 : pg ≠ rn225 := Nat.ne_of_lt (Nat.lt_of_lt_of_le lt224_pg grn225)
                        have ne_pa_rn225 : pa ≠ rn225 := Nat.ne_of_lt (Nat.lt_of_lt_of_le lt224_pa grn225)
                        have ne_b175_rn225 : b175 ≠ rn225 := Nat.ne_of_lt (Nat.lt_of_lt_of_le lt224_b175 grn225)
                        have ne_b182_rn225 : b182 ≠ rn225 := Nat.ne_of_lt (Nat.lt_of_lt_of_le lt224_b182 grn225)
                        have ne_ra_rn225 : ra ≠ rn225 := Nat.ne_of_lt (Nat.lt_of_lt_of_le lt224_ra grn225)
                        have ne_sz_rn225 : sz ≠ rn225 := Nat.ne_of_lt (Nat.lt_of_lt_of_le lt224_sz grn225)
                        have ne_b185_rn225 : b185 ≠ rn225 := Nat.ne_of_lt (Nat.lt_of_lt_of_le lt224_b185 grn225)
                        have ge_rn225 : n0 ≤ rn225 := Nat.le_trans ZZm224 grn225
                        have F_runs_b182 := Gruns_225
                        have F_sizes_b182 := Gsizes_225
                        have F_table_b182 := Gtable_225
                        have F_field_b182 := Gfield_225
                        have F_size_b182 := Gsize_225
                        have F_runCount_b182 := GrunCount_225
                        have V_ra := V_ra225
                        have V_sz := V_sz225
                        have V_rn := V_rn225
                        have SR : own_S (own_vv fl (own_q3 S0 S1 S2) (own_q3 p0 R1 R2)) (own_q3 S0 S1 S2) (0 + 1) (own_ins (fun _ => 0) j225 2 0) (own_up (own_b3 (0 : Int32) (0 : Int32) (0 : Int32)) 2 1) := own_Sadd TT (own_S0 _ _ _ (fun r hr => by rcases own_3c hr with rfl | rfl | rfl <;> rfl)) (by decide) rfl (by decide) hj225
                        replace SR : own_S (own_vv fl (own_q3 S0 S1 S2) (own_q3 p0 R1 R2)) (own_q3 S0 S1 S2) (0 + 1) (own_ins (fun _ => 0) j225 2 0) (own_b3 (0 : Int32) (0 : Int32) (1 : Int32)) := own_Scg SR (fun i hi => by rcases own_3c hi with rfl | rfl | rfl <;> rfl)
                        exact kdn (0 + 1) (own_ins (fun _ => 0) j225 2 0) rn225 (own_b3 (0 : Int32) (0 : Int32) (1 : Int32)) _ _ _ (X225) N171 rfl ZZ V_b162 V_b170 Ex_b172 V_pg V_b175 Fp Fs V_pa Ex_b182 F_runs_b182 F_sizes_b182 F_table_b182 F_field_b182 F_size_b182 F_runCount_b182 V_ra V_sz V_b185 V_rn (by omega) (own_Scg SR (fun i hi => by rcases own_3c hi with rfl | rfl | rfl <;> rfl)) (own_b01 (by decide) (by decide) (by decide)) ne_b162_rn225 ne_b166_rn225 ne_b170_rn225 ne_b172_rn225 ne_pg_rn225 ne_pa_rn225 ne_b175_rn225 ne_b182_rn225 ne_ra_rn225 ne_sz_rn225 ne_b185_rn225 ge_rn225
                    · skip
                      show Go p e below s QQ room_1.cells room_1.slots (T191.setTop (mkF m 442 #[jv p0, .second, jv R1, .second, jv R2, .second, jv p3, .second, iv p4, iv pp, iv (oI fl), iv mb, iv dr, iv (oI rq), iv k0, iv ka, iv kb, iv k1, iv k2, rv b162, rv b166, rv b170, rv b172, rv b175, rv b182, rv b185, .unset, .unset] []))
                      refine gs (fun t => XS.aload X191.here hx rfl (hb hby at_442) rfl rfl) ?_
                      refine gs (fun t => XS.iconst X191.here hx rfl (hb hby at_444)) ?_
                      refine gs (fun t => ldZf X191 hx hZ e191 V_b185 (j := (1 : Int32)) (v := (.int (1 : Int32))) (by decide) rfl (g := (mkF m 445 #[jv p0, .second, jv R1, .second, jv R2, .second, jv p3, .second, iv p4, iv pp, iv (oI fl), iv mb, iv dr, iv (oI rq), iv k0, iv ka, iv kb, iv k1, iv k2, rv b162, rv b166, rv b170, rv b172, rv b175, rv b182, rv b185, .unset, .unset] [(.int (1 : Int32)), (.ref b185)])) rfl rfl (hb hby at_445) t) ?_
                      refine gs (fun t => XS.ifNo X191.here hx rfl (hb hby at_446) rfl ((if0 _ _).trans (feq (by decide : ¬ ((1 : Int32) = (0 : Int32)))).1)) ?_
                      refine gs (fun t => XS.aload X191.here hx rfl (hb hby at_449) rfl rfl) ?_
                      refine gs (fun t => XS.aload X191.here hx rfl (hb hby at_451) rfl rfl) ?_
                      show Go p e below s QQ room_1.cells room_1.slots (T191.setTop (mkF m 453 #[jv p0, .second, jv R1, .second, jv R2, .second, jv p3, .second, iv p4, iv pp, iv (oI fl), iv mb, iv dr, iv (oI rq), iv k0, iv ka, iv kb, iv k1, iv k2, rv b162, rv b166, rv b170, rv b172, rv b175, rv b182, rv b185, .unset, .unset] [(.ref b175), (.ref b182)]))
                      refine gs (fun t => XS.iconst X191.here hx rfl (hb hby at_453)) ?_
                      refine gs (fun t => ldIf X191 hx hZ e191 V_b175 (j := (1 : Int32)) (v := (.int (oI 1))) (by decide) rfl (g := (mkF m 454 #[jv p0, .second, jv R1, .second, jv R2, .second, jv p3, .second, iv p4, iv pp, iv (oI fl), iv mb, iv dr, iv (oI rq), iv k0, iv ka, iv kb, iv k1, iv k2, rv b162, rv b166, rv b170, rv b172, rv b175, rv b182, rv b185, .unset, .unset] [(.int (1 : Int32)), (.ref b175), (.ref b182)])) rfl rfl (hb hby at_454) t) ?_
                      have ZZm226 := ZZ
                      have lt226_b162 := V_b162.lt
                      have lt226_b166 := V_b166.lt
                      have lt226_b170 := V_b170.lt
                      have lt226_b172 := Ex_b172.lt
                      have lt226_pg := V_pg.lt
                      have lt226_pa := V_pa.lt
                      have lt226_b175 := V_b175.lt
                      have lt226_b182 := Ex_b182.lt
                      have lt226_ra := V_ra.lt
                      have lt226_sz := V_sz.lt
                      have lt226_b185 := V_b185.lt
                      obtain ⟨cq227, kq227, q227a, q227b, q227c⟩ := isOf hZ e191 Ex_b182
                      obtain ⟨_, _, ⟨T227, L227, k227, n227⟩, -, X227, ⟨Lc227, hQ227, l227, y227, z227⟩, st227⟩ := X191.virtualBack hx (y := (⟨"com/example/interval/interval/service/SlotOrder", "add", "(I)V"⟩ : MethodName)) (z := (⟨"com/example/interval/interval/service/SlotOrder", "add", "(I)V"⟩ : MethodName)) hown (mvT hZ (hw _ (List.mem_of_getElem? (i := 60) rfl))) (mvT hZ (hw _ (List.mem_of_getElem? (i := 61) rfl))) (notFace_of_selects (args := #[]) (mvT hZ (hw _ (List.mem_of_getElem? (i := 63) rfl)))) (mvT hZ (hw _ (List.mem_of_getElem? (i := 63) rfl))) (mvT hZ (hw _ (List.mem_of_getElem? (i := 62) rfl))) (by decide) (backOf (W := 0) (rmA0 l Z a0 hw [] b182 1 ra sz b172 pg pa (updv (fun _ => .null) 0 (.ref pa)) (own_tf S0 S1 S2 p0 R1 R2) fl (own_vv fl (own_q3 S0 S1 S2) (own_q3 p0 R1 R2)) (own_q3 S0 S1 S2) h191 n0 ZZ F_runs_b182 F_sizes_b182 F_table_b182 F_field_b182 F_size_b182 F_runCount_b182 Ex_b182 V_ra TK_ra V_sz Ex_b172 Fp V_pg rfl V_pa HTB hfl ge_b182 ge_ra ge_sz ne_b182_ra ne_b182_sz nrs (Ne.symm ne_b172_b182) (Ne.symm ne_pg_b182) (Ne.symm ne_pa_b182) (Ne.symm ne_b172_ra) (Ne.symm ne_pg_ra) (Ne.symm ne_pa_ra) (Ne.symm ne_b172_sz) (Ne.symm ne_pg_sz) (Ne.symm ne_pa_sz) (by decide)) hZ (hw _ (List.mem_of_getElem? (i := 64) rfl)) (hw _ (List.mem_of_getElem? (i := 33) rfl)) (by decide) (by decide)) q227a q227c (g := (mkF m 455 #[jv p0, .second, jv R1, .second, jv R2, .second, jv p3, .second, iv p4, iv pp, iv (oI fl), iv mb, iv dr, iv (oI rq), iv k0, iv ka, iv kb, iv k1, iv k2, rv b162, rv b166, rv b170, rv b172, rv b175, rv b182, rv b185, .unset, .unset] [(.int (oI 1)), (.ref b182)])) rfl (by rw [hml]; rfl) (Steps.refl _) (argsL := [(.int (oI 1))]) (rest := []) (lenOf pd_6 rfl) rfl (by show 2 * 0 + _ ≤ _; exact Nat.le_of_eq rfl) (hb hby at_455) (fun _ _ => ⟨rfl, e191, (by decide : 11 + 1 ≤ _), (by decide : 66 + 8 ≤ _)⟩)
                      dsimp only [Pt.U, Pt.locs, Pt.cells, Pt.slots] at X227 l227 y227 z227 st227 hQ227
                      subst l227 y227 z227
                      obtain ⟨rn227, j227, rfl, N227q, grn227, K227, Gruns_227, Gsizes_227, Gtable_227, Gfield_227, Gsize_227, GrunCount_227, V_ra227, V_sz227, V_rn227, hj227⟩ := hQ227
                      replace N171 := Fr.app N171 N227q
                      refine gt st227 ?_
                      show Go p e below s QQ room_1.cells room_1.slots (T227.setTop (mkF m 458 #[jv p0, .second, jv R1, .second, jv R2, .second, jv p3, .second, iv p4, iv pp, iv (oI fl), iv mb, iv dr, iv (oI rq), iv k0, iv ka, iv kb, iv k1, iv k2, rv b162, rv b166, rv b170, rv b172, rv b175, rv b182, rv b185, .unset, .unset] []))
                      replace V_b162 := V_b162.keep K227 (ninS ne_b162_b182 (ninS ne_b162_ra (ninS ne_b162_sz nin0)))
                      replace V_b166 := V_b166.keep K227 (ninS ne_b166_b182 (ninS ne_b166_ra (ninS ne_b166_sz nin0)))
                      replace V_b170 := V_b170.keep K227 (ninS ne_b170_b182 (ninS ne_b170_ra (ninS ne_b170_sz nin0)))
                      replace Ex_b172 := Ex_b172.keep K227
                      replace V_pg := V_pg.keep K227 (ninS ne_pg_b182 (ninS ne_pg_ra (ninS ne_pg_sz nin0)))
                      replace V_b175 := V_b175.keep K227 (ninS ne_b175_b182 (ninS ne_b175_ra (ninS ne_b175_sz nin0)))
                      replace Fp := Fp.keep K227 (ninS ne_b172_b182 (ninS ne_b172_ra (ninS ne_b172_sz nin0)))
                      replace Fs := Fs.keep K227 (ninS ne_b172_b182 (ninS ne_b172_ra (ninS ne_b172_sz nin0)))
                      replace V_pa := V_pa.keep K227 (ninS ne_pa_b182 (ninS ne_pa_ra (ninS ne_pa_sz nin0)))
                      replace Ex_b182 := Ex_b182.keep K227
                      replace TK_ra := TK_ra.keep K227
                      replace V_b185 := V_b185.keep K227 (ninS (Ne.symm ne_b182_b185) (ninS (Ne.symm ne_ra_b185) (ninS (Ne.symm ne_sz_b185) nin0)))
                      replace ZZ := Nat.le_trans ZZ K227.1
                      have ne_b162_rn227 : b162 ≠ rn227 := Nat.ne_of_lt (Nat.lt_of_lt_of_le lt226_b162 grn227)
                      have ne_b166_rn227 : b166 ≠ rn227 := Nat.ne_of_lt (Nat.lt_of_lt_of_le lt226_b166 grn227)
                      have ne_b170_rn227 : b170 ≠ rn227 := Nat.ne_of_lt (Nat.lt_of_lt_of_le lt226_b170 grn227)
                      have ne_b172_rn227 : b172 ≠ rn227 := Nat.ne_of_lt (Nat.lt_of_lt_of_le lt226_b172 grn227)
                      have ne_pg_rn227 : pg ≠ rn227 := Nat.ne_of_lt (Nat.lt_of_lt_of_le lt226_pg grn227)
                      have ne_pa_rn227 : pa ≠ rn227 := Nat.ne_of_lt (Nat.lt_of_lt_of_le lt226_pa grn227)
                      have ne_b175_rn227 : b175 ≠ rn227 := Nat.ne_of_lt (Nat.lt_of_lt_of_le lt226_b175 grn227)
                      have ne_b182_rn227 : b182 ≠ rn227 := Nat.ne_of_lt (Nat.lt_of_lt_of_le lt226_b182 grn227)
                      have ne_ra_rn227 : ra ≠ rn227 := Nat.ne_of_lt (Nat.lt_of_lt_of_le lt226_ra grn227)
                      have ne_sz_rn227 : sz ≠ rn227 := Nat.ne_of_lt (Nat.lt_of_lt_of_le lt226_sz grn227)
                      have ne_b185_rn227 : b185 ≠ rn227 := Nat.ne_of_lt (Nat.lt_of_lt_of_le lt226_b185 grn227)
                      have ge_rn227 : n0 ≤ rn227 := Nat.le_trans ZZm226 grn227
                      have F_runs_b182 := Gruns_227
                      have F_sizes_b182 := Gsizes_227
                      have F_table_b182 := Gtable_227
                      have F_field_b182 := Gfield_227
                      have F_size_b182 := Gsize_227
                      have F_runCount_b182 := GrunCount_227
                      have V_ra := V_ra227
                      have V_sz := V_sz227
                      have V_rn := V_rn227
                      have SR : own_S (own_vv fl (own_q3 S0 S1 S2) (own_q3 p0 R1 R2)) (own_q3 S0 S1 S2) (0 + 1) (own_ins (fun _ => 0) j227 1 0) (own_up (own_b3 (0 : Int32) (0 : Int32) (0 : Int32)) 1 1) := own_Sadd TT (own_S0 _ _ _ (fun r hr => by rcases own_3c hr with rfl | rfl | rfl <;> rfl)) (by decide) rfl (by decide) hj227
                      replace SR : own_S (own_vv fl (own_q3 S0 S1 S2) (own_q3 p0 R1 R2)) (own_q3 S0 S1 S2) (0 + 1) (own_ins (fun _ => 0) j227 1 0) (own_b3 (0 : Int32) (1 : Int32) (0 : Int32)) := own_Scg SR (fun i hi => by rcases own_3c hi with rfl | rfl | rfl <;> rfl)
                      rcases hb2 with rfl | rfl
                      · skip
                        show Go p e below s QQ room_1.cells room_1.slots (T227.setTop (mkF m 458 #[jv p0, .second, jv R1, .second, jv R2, .second, jv p3, .second, iv p4, iv pp, iv (oI fl), iv mb, iv dr, iv (oI rq), iv k0, iv ka, iv kb, iv k1, iv k2, rv b162, rv b166, rv b170, rv b172, rv b175, rv b182, rv b185, .unset, .unset] []))
                        refine gs (fun t => XS.aload X227.here hx rfl (hb hby at_458) rfl rfl) ?_
                        refine gs (fun t => XS.iconst X227.here hx rfl (hb hby at_460)) ?_
                        refine gs (fun t => ldZf X227 hx hZ rfl V_b185 (j := (2 : Int32)) (v := (.int (0 : Int32))) (by decide) rfl (g := (mkF m 461 #[jv p0, .second, jv R1, .second, jv R2, .second, jv p3, .second, iv p4, iv pp, iv (oI fl), iv mb, iv dr, iv (oI rq), iv k0, iv ka, iv kb, iv k1, iv k2, rv b162, rv b166, rv b170, rv b172, rv b175, rv b182, rv b185, .unset, .unset] [(.int (2 : Int32)), (.ref b185)])) rfl rfl (hb hby at_461) t) ?_
                        refine gs (fun t => XS.ifYes X227.here hx rfl (pc0 := 462) (pc' := 474) rfl (hb hby at_462) rfl ((if0 _ _).trans (teq (by decide : (0 : Int32) = (0 : Int32))).1) (by decide) (by decide)) ?_
                        exact kdn (0 + 1) (own_ins (fun _ => 0) j227 1 0) rn227 (own_b3 (0 : Int32) (1 : Int32) (0 : Int32)) _ _ _ (X227) N171 rfl ZZ V_b162 V_b170 Ex_b172 V_pg V_b175 Fp Fs V_pa Ex_b182 F_runs_b182 F_sizes_b182 F_table_b182 F_field_b182 F_size_b182 F_runCount_b182 V_ra V_sz V_b185 V_rn (by omega) (own_Scg SR (fun i hi => by rcases own_3c hi with rfl | rfl | rfl <;> rfl)) (own_b01 (by decide) (by decide) (by decide)) ne_b162_rn227 ne_b166_rn227 ne_b170_rn227 ne_b172_rn227 ne_pg_rn227 ne_pa_rn227 ne_b175_rn227 ne_b182_rn227 ne_ra_rn227 ne_sz_rn227 ne_b185_rn227 ge_rn227
                      · skip
                        show Go p e below s QQ room_1.cells room_1.slots (T227.setTop (mkF m 458 #[jv p0, .second, jv R1, .second, jv R2, .second, jv p3, .second, iv p4, iv pp, iv (oI fl), iv mb, iv dr, iv (oI rq), iv k0, iv ka, iv kb, iv k1, iv k2, rv b162, rv b166, rv b170, rv b172, rv b175, rv b182, rv b185, .unset, .unset] []))
                        refine gs (fun t => XS.aload X227.here hx rfl (hb hby at_458) rfl rfl) ?_
                        refine gs (fun t => XS.iconst X227.here hx rfl (hb hby at_460)) ?_
                        refine gs (fun t => ldZf X227 hx hZ rfl V_b185 (j := (2 : Int32)) (v := (.int (1 : Int32))) (by decide) rfl (g := (mkF m 461 #[jv p0, .second, jv R1, .second, jv R2, .second, jv p3, .second, iv p4, iv pp, iv (oI fl), iv mb, iv dr, iv (oI rq), iv k0, iv ka, iv kb, iv k1, iv k2, rv b162, rv b166, rv b170, rv b172, rv b175, rv b182, rv b185, .unset, .unset] [(.int (2 : Int32)), (.ref b185)])) rfl rfl (hb hby at_461) t) ?_
                        refine gs (fun t => XS.ifNo X227.here hx rfl (hb hby at_462) rfl ((if0 _ _).trans (feq (by decide : ¬ ((1 : Int32) = (0 : Int32)))).1)) ?_
                        refine gs (fun t => XS.aload X227.here hx rfl (hb hby at_465) rfl rfl) ?_
                        refine gs (fun t => XS.aload X227.here hx rfl (hb hby at_467) rfl rfl) ?_
                        show Go p e below s QQ room_1.cells room_1.slots (T227.setTop (mkF m 469 #[jv p0, .second, jv R1, .second, jv R2, .second, jv p3, .second, iv p4, iv pp, iv (oI fl), iv mb, iv dr, iv (oI rq), iv k0, iv ka, iv kb, iv k1, iv k2, rv b162, rv b166, rv b170, rv b172, rv b175, rv b182, rv b185, .unset, .unset] [(.ref b175), (.ref b182)]))
                        refine gs (fun t => XS.iconst X227.here hx rfl (hb hby at_469)) ?_
                        refine gs (fun t => ldIf X227 hx hZ rfl V_b175 (j := (2 : Int32)) (v := (.int (oI 2))) (by decide) rfl (g := (mkF m 470 #[jv p0, .second, jv R1, .second, jv R2, .second, jv p3, .second, iv p4, iv pp, iv (oI fl), iv mb, iv dr, iv (oI rq), iv k0, iv ka, iv kb, iv k1, iv k2, rv b162, rv b166, rv b170, rv b172, rv b175, rv b182, rv b185, .unset, .unset] [(.int (2 : Int32)), (.ref b175), (.ref b182)])) rfl rfl (hb hby at_470) t) ?_
                        obtain ⟨cq228, kq228, q228a, q228b, q228c⟩ := isOf hZ rfl Ex_b182
                        obtain ⟨_, _, ⟨T228, L228, k228, n228⟩, -, X228, ⟨Lc228, hQ228, l228, y228, z228⟩, st228⟩ := X227.virtualBack hx (y := (⟨"com/example/interval/interval/service/SlotOrder", "add", "(I)V"⟩ : MethodName)) (z := (⟨"com/example/interval/interval/service/SlotOrder", "add", "(I)V"⟩ : MethodName)) hown (mvT hZ (hw _ (List.mem_of_getElem? (i := 60) rfl))) (mvT hZ (hw _ (List.mem_of_getElem? (i := 61) rfl))) (notFace_of_selects (args := #[]) (mvT hZ (hw _ (List.mem_of_getElem? (i := 63) rfl)))) (mvT hZ (hw _ (List.mem_of_getElem? (i := 63) rfl))) (mvT hZ (hw _ (List.mem_of_getElem? (i := 62) rfl))) (by decide) (backOf (W := 0) (rmAN l Z a0 hw [] b182 2 ra sz rn227 (0 + 1) (own_ins (fun _ => 0) j227 1 0) b172 pg pa (updv (fun _ => .null) 0 (.ref pa)) (own_tf S0 S1 S2 p0 R1 R2) fl (own_vv fl (own_q3 S0 S1 S2) (own_q3 p0 R1 R2)) (own_q3 S0 S1 S2) T227.heap n0 ZZ F_runs_b182 F_sizes_b182 F_table_b182 F_field_b182 F_size_b182 F_runCount_b182 Ex_b182 V_ra V_sz V_rn Ex_b172 Fp V_pg rfl V_pa HTB hfl ge_b182 ge_sz ge_rn227 ne_b182_ra ne_b182_sz ne_b182_rn227 nrs ne_ra_rn227 ne_sz_rn227 (Ne.symm ne_b172_b182) (Ne.symm ne_pg_b182) (Ne.symm ne_pa_b182) (Ne.symm ne_b172_ra) (Ne.symm ne_pg_ra) (Ne.symm ne_pa_ra) (Ne.symm ne_b172_sz) (Ne.symm ne_pg_sz) (Ne.symm ne_pa_sz) (Ne.symm ne_b172_rn227) (Ne.symm ne_pg_rn227) (Ne.symm ne_pa_rn227) (by decide) (fun i hi => (SR.2.1 i hi).1) (own_Smono SR) (by decide)) hZ (hw _ (List.mem_of_getElem? (i := 64) rfl)) (hw _ (List.mem_of_getElem? (i := 33) rfl)) (by decide) (by decide)) q228a q228c (g := (mkF m 471 #[jv p0, .second, jv R1, .second, jv R2, .second, jv p3, .second, iv p4, iv pp, iv (oI fl), iv mb, iv dr, iv (oI rq), iv k0, iv ka, iv kb, iv k1, iv k2, rv b162, rv b166, rv b170, rv b172, rv b175, rv b182, rv b185, .unset, .unset] [(.int (oI 2)), (.ref b182)])) rfl (by rw [hml]; rfl) (Steps.refl _) (argsL := [(.int (oI 2))]) (rest := []) (lenOf pd_6 rfl) rfl (by show 2 * 0 + _ ≤ _; exact Nat.le_of_eq rfl) (hb hby at_471) (fun _ _ => ⟨rfl, rfl, (by decide : 12 + 0 ≤ _), (by decide : 74 + 0 ≤ _)⟩)
                        dsimp only [Pt.U, Pt.locs, Pt.cells, Pt.slots] at X228 l228 y228 z228 st228 hQ228
                        subst l228 y228 z228
                        obtain ⟨j228, rfl, N228q, K228, Gruns_228, Gsizes_228, Gtable_228, Gfield_228, Gsize_228, GrunCount_228, V_ra228, V_sz228, V_rn228, hj228⟩ := hQ228
                        replace N171 := Fr.app N171 N228q
                        refine gt st228 ?_
                        show Go p e below s QQ room_1.cells room_1.slots (T228.setTop (mkF m 474 #[jv p0, .second, jv R1, .second, jv R2, .second, jv p3, .second, iv p4, iv pp, iv (oI fl), iv mb, iv dr, iv (oI rq), iv k0, iv ka, iv kb, iv k1, iv k2, rv b162, rv b166, rv b170, rv b172, rv b175, rv b182, rv b185, .unset, .unset] []))
                        replace V_b162 := V_b162.keep K228 (ninS ne_b162_b182 (ninS ne_b162_sz (ninS ne_b162_rn227 nin0)))
                        replace V_b166 := V_b166.keep K228 (ninS ne_b166_b182 (ninS ne_b166_sz (ninS ne_b166_rn227 nin0)))
                        replace V_b170 := V_b170.keep K228 (ninS ne_b170_b182 (ninS ne_b170_sz (ninS ne_b170_rn227 nin0)))
                        replace Ex_b172 := Ex_b172.keep K228
                        replace V_pg := V_pg.keep K228 (ninS ne_pg_b182 (ninS ne_pg_sz (ninS ne_pg_rn227 nin0)))
                        replace V_b175 := V_b175.keep K228 (ninS ne_b175_b182 (ninS ne_b175_sz (ninS ne_b175_rn227 nin0)))
                        replace Fp := Fp.keep K228 (ninS ne_b172_b182 (ninS ne_b172_sz (ninS ne_b172_rn227 nin0)))
                        replace Fs := Fs.keep K228 (ninS ne_b172_b182 (ninS ne_b172_sz (ninS ne_b172_rn227 nin0)))
                        replace V_pa := V_pa.keep K228 (ninS ne_pa_b182 (ninS ne_pa_sz (ninS ne_pa_rn227 nin0)))
                        replace Ex_b182 := Ex_b182.keep K228
                        replace TK_ra := TK_ra.keep K228
                        replace V_b185 := V_b185.keep K228 (ninS (Ne.symm ne_b182_b185) (ninS (Ne.symm ne_sz_b185) (ninS ne_b185_rn227 nin0)))
                        replace V_ra := V_ra.keep K228 (ninS (Ne.symm ne_b182_ra) (ninS nrs (ninS ne_ra_rn227 nin0)))
                        replace ZZ := Nat.le_trans ZZ K228.1
                        have F_runs_b182 := Gruns_228
                        have F_sizes_b182 := Gsizes_228
                        have F_table_b182 := Gtable_228
                        have F_field_b182 := Gfield_228
                        have F_size_b182 := Gsize_228
                        have F_runCount_b182 := GrunCount_228
                        have V_ra := V_ra228
                        have V_sz := V_sz228
                        have V_rn := V_rn228
                        have SR : own_S (own_vv fl (own_q3 S0 S1 S2) (own_q3 p0 R1 R2)) (own_q3 S0 S1 S2) ((0 + 1) + 1) (own_ins (own_ins (fun _ => 0) j227 1 0) j228 2 (0 + 1)) (own_up (own_b3 (0 : Int32) (1 : Int32) (0 : Int32)) 2 1) := own_Sadd TT SR (by decide) rfl (by decide) hj228
                        replace SR : own_S (own_vv fl (own_q3 S0 S1 S2) (own_q3 p0 R1 R2)) (own_q3 S0 S1 S2) ((0 + 1) + 1) (own_ins (own_ins (fun _ => 0) j227 1 0) j228 2 (0 + 1)) (own_b3 (0 : Int32) (1 : Int32) (1 : Int32)) := own_Scg SR (fun i hi => by rcases own_3c hi with rfl | rfl | rfl <;> rfl)
                        exact kdn ((0 + 1) + 1) (own_ins (own_ins (fun _ => 0) j227 1 0) j228 2 (0 + 1)) rn227 (own_b3 (0 : Int32) (1 : Int32) (1 : Int32)) _ _ _ (X228) N171 rfl ZZ V_b162 V_b170 Ex_b172 V_pg V_b175 Fp Fs V_pa Ex_b182 F_runs_b182 F_sizes_b182 F_table_b182 F_field_b182 F_size_b182 F_runCount_b182 V_ra V_sz V_b185 V_rn (by omega) (own_Scg SR (fun i hi => by rcases own_3c hi with rfl | rfl | rfl <;> rfl)) (own_b01 (by decide) (by decide) (by decide)) ne_b162_rn227 ne_b166_rn227 ne_b170_rn227 ne_b172_rn227 ne_pg_rn227 ne_pa_rn227 ne_b175_rn227 ne_b182_rn227 ne_ra_rn227 ne_sz_rn227 ne_b185_rn227 ge_rn227
                  · skip
                    show Go p e below s QQ room_1.cells room_1.slots (T191.setTop (mkF m 426 #[jv p0, .second, jv R1, .second, jv R2, .second, jv p3, .second, iv p4, iv pp, iv (oI fl), iv mb, iv dr, iv (oI rq), iv k0, iv ka, iv kb, iv k1, iv k2, rv b162, rv b166, rv b170, rv b172, rv b175, rv b182, rv b185, .unset, .unset] []))
                    refine gs (fun t => XS.aload X191.here hx rfl (hb hby at_426) rfl rfl) ?_
                    refine gs (fun t => XS.iconst X191.here hx rfl (hb hby at_428)) ?_
                    refine gs (fun t => ldZf X191 hx hZ e191 V_b185 (j := (0 : Int32)) (v := (.int (1 : Int32))) (by decide) rfl (g := (mkF m 429 #[jv p0, .second, jv R1, .second, jv R2, .second, jv p3, .second, iv p4, iv pp, iv (oI fl), iv mb, iv dr, iv (oI rq), iv k0, iv ka, iv kb, iv k1, iv k2, rv b162, rv b166, rv b170, rv b172, rv b175, rv b182, rv b185, .unset, .unset] [(.int (0 : Int32)), (.ref b185)])) rfl rfl (hb hby at_429) t) ?_
                    refine gs (fun t => XS.ifNo X191.here hx rfl (hb hby at_430) rfl ((if0 _ _).trans (feq (by decide : ¬ ((1 : Int32) = (0 : Int32)))).1)) ?_
                    refine gs (fun t => XS.aload X191.here hx rfl (hb hby at_433) rfl rfl) ?_
                    refine gs (fun t => XS.aload X191.here hx rfl (hb hby at_435) rfl rfl) ?_
                    show Go p e below s QQ room_1.cells room_1.slots (T191.setTop (mkF m 437 #[jv p0, .second, jv R1, .second, jv R2, .second, jv p3, .second, iv p4, iv pp, iv (oI fl), iv mb, iv dr, iv (oI rq), iv k0, iv ka, iv kb, iv k1, iv k2, rv b162, rv b166, rv b170, rv b172, rv b175, rv b182, rv b185, .unset, .unset] [(.ref b175), (.ref b182)]))
                    refine gs (fun t => XS.iconst X191.here hx rfl (hb hby at_437)) ?_
                    refine gs (fun t => ldIf X191 hx hZ e191 V_b175 (j := (0 : Int32)) (v := (.int (oI 0))) (by decide) rfl (g := (mkF m 438 #[jv p0, .second, jv R1, .second, jv R2, .second, jv p3, .second, iv p4, iv pp, iv (oI fl), iv mb, iv dr, iv (oI rq), iv k0, iv ka, iv kb, iv k1, iv k2, rv b162, rv b166, rv b170, rv b172, rv b175, rv b182, rv b185, .unset, .unset] [(.int (0 : Int32)), (.ref b175), (.ref b182)])) rfl rfl (hb hby at_438) t) ?_
                    have ZZm229 := ZZ
                    have lt229_b162 := V_b162.lt
                    have lt229_b166 := V_b166.lt
                    have lt229_b170 := V_b170.lt
                    have lt229_b172 := Ex_b172.lt
                    have lt229_pg := V_pg.lt
                    have lt229_pa := V_pa.lt
                    have lt229_b175 := V_b175.lt
                    have lt229_b182 := Ex_b182.lt
                    have lt229_ra := V_ra.lt
                    have lt229_sz := V_sz.lt
                    have lt229_b185 := V_b185.lt
                    obtain ⟨cq230, kq230, q230a, q230b, q230c⟩ := isOf hZ e191 Ex_b182
                    obtain ⟨_, _, ⟨T230, L230, k230, n230⟩, -, X230, ⟨Lc230, hQ230, l230, y230, z230⟩, st230⟩ := X191.virtualBack hx (y := (⟨"com/example/interval/interval/service/SlotOrder", "add", "(I)V"⟩ : MethodName)) (z := (⟨"com/example/interval/interval/service/SlotOrder", "add", "(I)V"⟩ : MethodName)) hown (mvT hZ (hw _ (List.mem_of_getElem? (i := 60) rfl))) (mvT hZ (hw _ (List.mem_of_getElem? (i := 61) rfl))) (notFace_of_selects (args := #[]) (mvT hZ (hw _ (List.mem_of_getElem? (i := 63) rfl)))) (mvT hZ (hw _ (List.mem_of_getElem? (i := 63) rfl))) (mvT hZ (hw _ (List.mem_of_getElem? (i := 62) rfl))) (by decide) (backOf (W := 0) (rmA0 l Z a0 hw [] b182 0 ra sz b172 pg pa (updv (fun _ => .null) 0 (.ref pa)) (own_tf S0 S1 S2 p0 R1 R2) fl (own_vv fl (own_q3 S0 S1 S2) (own_q3 p0 R1 R2)) (own_q3 S0 S1 S2) h191 n0 ZZ F_runs_b182 F_sizes_b182 F_table_b182 F_field_b182 F_size_b182 F_runCount_b182 Ex_b182 V_ra TK_ra V_sz Ex_b172 Fp V_pg rfl V_pa HTB hfl ge_b182 ge_ra ge_sz ne_b182_ra ne_b182_sz nrs (Ne.symm ne_b172_b182) (Ne.symm ne_pg_b182) (Ne.symm ne_pa_b182) (Ne.symm ne_b172_ra) (Ne.symm ne_pg_ra) (Ne.symm ne_pa_ra) (Ne.symm ne_b172_sz) (Ne.symm ne_pg_sz) (Ne.symm ne_pa_sz) (by decide)) hZ (hw _ (List.mem_of_getElem? (i := 64) rfl)) (hw _ (List.mem_of_getElem? (i := 33) rfl)) (by decide) (by decide)) q230a q230c (g := (mkF m 439 #[jv p0, .second, jv R1, .second, jv R2, .second, jv p3, .second, iv p4, iv pp, iv (oI fl), iv mb, iv dr, iv (oI rq), iv k0, iv ka, iv kb, iv k1, iv k2, rv b162, rv b166, rv b170, rv b172, rv b175, rv b182, rv b185, .unset, .unset] [(.int (oI 0)), (.ref b182)])) rfl (by rw [hml]; rfl) (Steps.refl _) (argsL := [(.int (oI 0))]) (rest := []) (lenOf pd_6 rfl) rfl (by show 2 * 0 + _ ≤ _; exact Nat.le_of_eq rfl) (hb hby at_439) (fun _ _ => ⟨rfl, e191, (by decide : 11 + 1 ≤ _), (by decide : 66 + 8 ≤ _)⟩)
                    dsimp only [Pt.U, Pt.locs, Pt.cells, Pt.slots] at X230 l230 y230 z230 st230 hQ230
                    subst l230 y230 z230
                    obtain ⟨rn230, j230, rfl, N230q, grn230, K230, Gruns_230, Gsizes_230, Gtable_230, Gfield_230, Gsize_230, GrunCount_230, V_ra230, V_sz230, V_rn230, hj230⟩ := hQ230
                    replace N171 := Fr.app N171 N230q
                    refine gt st230 ?_
                    show Go p e below s QQ room_1.cells room_1.slots (T230.setTop (mkF m 442 #[jv p0, .second, jv R1, .second, jv R2, .second, jv p3, .second, iv p4, iv pp, iv (oI fl), iv mb, iv dr, iv (oI rq), iv k0, iv ka, iv kb, iv k1, iv k2, rv b162, rv b166, rv b170, rv b172, rv b175, rv b182, rv b185, .unset, .unset] []))
                    replace V_b162 := V_b162.keep K230 (ninS ne_b162_b182 (ninS ne_b162_ra (ninS ne_b162_sz nin0)))
                    replace V_b166 := V_b166.keep K230 (ninS ne_b166_b182 (ninS ne_b166_ra (ninS ne_b166_sz nin0)))
                    replace V_b170 := V_b170.keep K230 (ninS ne_b170_b182 (ninS ne_b170_ra (ninS ne_b170_sz nin0)))
                    replace Ex_b172 := Ex_b172.keep K230
                    replace V_pg := V_pg.keep K230 (ninS ne_pg_b182 (ninS ne_pg_ra (ninS ne_pg_sz nin0)))
                    replace V_b175 := V_b175.keep K230 (ninS ne_b175_b182 (ninS ne_b175_ra (ninS ne_b175_sz nin0)))
                    replace Fp := Fp.keep K230 (ninS ne_b172_b182 (ninS ne_b172_ra (ninS ne_b172_sz nin0)))
                    replace Fs := Fs.keep K230 (ninS ne_b172_b182 (ninS ne_b172_ra (ninS ne_b172_sz nin0)))
                    replace V_pa := V_pa.keep K230 (ninS ne_pa_b182 (ninS ne_pa_ra (ninS ne_pa_sz nin0)))
                    replace Ex_b182 := Ex_b182.keep K230
                    replace TK_ra := TK_ra.keep K230
                    replace V_b185 := V_b185.keep K230 (ninS (Ne.symm ne_b182_b185) (ninS (Ne.symm ne_ra_b185) (ninS (Ne.symm ne_sz_b185) nin0)))
                    replace ZZ := Nat.le_trans ZZ K230.1
                    have ne_b162_rn230 : b162 ≠ rn230 := Nat.ne_of_lt (Nat.lt_of_lt_of_le lt229_b162 grn230)
                    have ne_b166_rn230 : b166 ≠ rn230 := Nat.ne_of_lt (Nat.lt_of_lt_of_le lt229_b166 grn230)
                    have ne_b170_rn230 : b170 ≠ rn230 := Nat.ne_of_lt (Nat.lt_of_lt_of_le lt229_b170 grn230)
                    have ne_b172_rn230 : b172 ≠ rn230 := Nat.ne_of_lt (Nat.lt_of_lt_of_le lt229_b172 grn230)
                    have ne_pg_rn230 : pg ≠ rn230 := Nat.ne_of_lt (Nat.lt_of_lt_of_le lt229_pg grn230)
                    have ne_pa_rn230 : pa ≠ rn230 := Nat.ne_of_lt (Nat.lt_of_lt_of_le lt229_pa grn230)
                    have ne_b175_rn230 : b175 ≠ rn230 := Nat.ne_of_lt (Nat.lt_of_lt_of_le lt229_b175 grn230)
                    have ne_b182_rn230 : b182 ≠ rn230 := Nat.ne_of_lt (Nat.lt_of_lt_of_le lt229_b182 grn230)
                    have ne_ra_rn230 : ra ≠ rn230 := Nat.ne_of_lt (Nat.lt_of_lt_of_le lt229_ra grn230)
                    have ne_sz_rn230 : sz ≠ rn230 := Nat.ne_of_lt (Nat.lt_of_lt_of_le lt229_sz grn230)
                    have ne_b185_rn230 : b185 ≠ rn230 := Nat.ne_of_lt (Nat.lt_of_lt_of_le lt229_b185 grn230)
                    have ge_rn230 : n0 ≤ rn230 := Nat.le_trans ZZm229 grn230
                    have F_runs_b182 := Gruns_230
                    have F_sizes_b182 := Gsizes_230
                    have F_table_b182 := Gtable_230
                    have F_field_b182 := Gfield_230
                    have F_size_b182 := Gsize_230
                    have F_runCount_b182 := GrunCount_230
                    have V_ra := V_ra230
                    have V_sz := V_sz230
                    have V_rn := V_rn230
                    have SR : own_S (own_vv fl (own_q3 S0 S1 S2) (own_q3 p0 R1 R2)) (own_q3 S0 S1 S2) (0 + 1) (own_ins (fun _ => 0) j230 0 0) (own_up (own_b3 (0 : Int32) (0 : Int32) (0 : Int32)) 0 1) := own_Sadd TT (own_S0 _ _ _ (fun r hr => by rcases own_3c hr with rfl | rfl | rfl <;> rfl)) (by decide) rfl (by decide) hj230
                    replace SR : own_S (own_vv fl (own_q3 S0 S1 S2) (own_q3 p0 R1 R2)) (own_q3 S0 S1 S2) (0 + 1) (own_ins (fun _ => 0) j230 0 0) (own_b3 (1 : Int32) (0 : Int32) (0 : Int32)) := own_Scg SR (fun i hi => by rcases own_3c hi with rfl | rfl | rfl <;> rfl)
                    rcases hb1 with rfl | rfl
                    · skip
                      show Go p e below s QQ room_1.cells room_1.slots (T230.setTop (mkF m 442 #[jv p0, .second, jv R1, .second, jv R2, .second, jv p3, .second, iv p4, iv pp, iv (oI fl), iv mb, iv dr, iv (oI rq), iv k0, iv ka, iv kb, iv k1, iv k2, rv b162, rv b166, rv b170, rv b172, rv b175, rv b182, rv b185, .unset, .unset] []))
                      refine gs (fun t => XS.aload X230.here hx rfl (hb hby at_442) rfl rfl) ?_
                      refine gs (fun t => XS.iconst X230.here hx rfl (hb hby at_444)) ?_
                      refine gs (fun t => ldZf X230 hx hZ rfl V_b185 (j := (1 : Int32)) (v := (.int (0 : Int32))) (by decide) rfl (g := (mkF m 445 #[jv p0, .second, jv R1, .second, jv R2, .second, jv p3, .second, iv p4, iv pp, iv (oI fl), iv mb, iv dr, iv (oI rq), iv k0, iv ka, iv kb, iv k1, iv k2, rv b162, rv b166, rv b170, rv b172, rv b175, rv b182, rv b185, .unset, .unset] [(.int (1 : Int32)), (.ref b185)])) rfl rfl (hb hby at_445) t) ?_
                      refine gs (fun t => XS.ifYes X230.here hx rfl (pc0 := 446) (pc' := 458) rfl (hb hby at_446) rfl ((if0 _ _).trans (teq (by decide : (0 : Int32) = (0 : Int32))).1) (by decide) (by decide)) ?_
                      rcases hb2 with rfl | rfl
                      · skip
                        show Go p e below s QQ room_1.cells room_1.slots (T230.setTop (mkF m 458 #[jv p0, .second, jv R1, .second, jv R2, .second, jv p3, .second, iv p4, iv pp, iv (oI fl), iv mb, iv dr, iv (oI rq), iv k0, iv ka, iv kb, iv k1, iv k2, rv b162, rv b166, rv b170, rv b172, rv b175, rv b182, rv b185, .unset, .unset] []))
                        refine gs (fun t => XS.aload X230.here hx rfl (hb hby at_458) rfl rfl) ?_
                        refine gs (fun t => XS.iconst X230.here hx rfl (hb hby at_460)) ?_
                        refine gs (fun t => ldZf X230 hx hZ rfl V_b185 (j := (2 : Int32)) (v := (.int (0 : Int32))) (by decide) rfl (g := (mkF m 461 #[jv p0, .second, jv R1, .second, jv R2, .second, jv p3, .second, iv p4, iv pp, iv (oI fl), iv mb, iv dr, iv (oI rq), iv k0, iv ka, iv kb, iv k1, iv k2, rv b162, rv b166, rv b170, rv b172, rv b175, rv b182, rv b185, .unset, .unset] [(.int (2 : Int32)), (.ref b185)])) rfl rfl (hb hby at_461) t) ?_
                        refine gs (fun t => XS.ifYes X230.here hx rfl (pc0 := 462) (pc' := 474) rfl (hb hby at_462) rfl ((if0 _ _).trans (teq (by decide : (0 : Int32) = (0 : Int32))).1) (by decide) (by decide)) ?_
                        exact kdn (0 + 1) (own_ins (fun _ => 0) j230 0 0) rn230 (own_b3 (1 : Int32) (0 : Int32) (0 : Int32)) _ _ _ (X230) N171 rfl ZZ V_b162 V_b170 Ex_b172 V_pg V_b175 Fp Fs V_pa Ex_b182 F_runs_b182 F_sizes_b182 F_table_b182 F_field_b182 F_size_b182 F_runCount_b182 V_ra V_sz V_b185 V_rn (by omega) (own_Scg SR (fun i hi => by rcases own_3c hi with rfl | rfl | rfl <;> rfl)) (own_b01 (by decide) (by decide) (by decide)) ne_b162_rn230 ne_b166_rn230 ne_b170_rn230 ne_b172_rn230 ne_pg_rn230 ne_pa_rn230 ne_b175_rn230 ne_b182_rn230 ne_ra_rn230 ne_sz_rn230 ne_b185_rn230 ge_rn230
                      · skip
                        show Go p e below s QQ room_1.cells room_1.slots (T230.setTop (mkF m 458 #[jv p0, .second, jv R1, .second, jv R2, .second, jv p3, .second, iv p4, iv pp, iv (oI fl), iv mb, iv dr, iv (oI rq), iv k0, iv ka, iv kb, iv k1, iv k2, rv b162, rv b166, rv b170, rv b172, rv b175, rv b182, rv b185, .unset, .unset] []))
                        refine gs (fun t => XS.aload X230.here hx rfl (hb hby at_458) rfl rfl) ?_
                        refine gs (fun t => XS.iconst X230.here hx rfl (hb hby at_460)) ?_
                        refine gs (fun t => ldZf X230 hx hZ rfl V_b185 (j := (2 : Int32)) (v := (.int (1 : Int32))) (by decide) rfl (g := (mkF m 461 #[jv p0, .second, jv R1, .second, jv R2, .second, jv p3, .second, iv p4, iv pp, iv (oI fl), iv mb, iv dr, iv (oI rq), iv k0, iv ka, iv kb, iv k1, iv k2, rv b162, rv b166, rv b170, rv b172, rv b175, rv b182, rv b185, .unset, .unset] [(.int (2 : Int32)), (.ref b185)])) rfl rfl (hb hby at_461) t) ?_
                        refine gs (fun t => XS.ifNo X230.here hx rfl (hb hby at_462) rfl ((if0 _ _).trans (feq (by decide : ¬ ((1 : Int32) = (0 : Int32)))).1)) ?_
                        refine gs (fun t => XS.aload X230.here hx rfl (hb hby at_465) rfl rfl) ?_
                        refine gs (fun t => XS.aload X230.here hx rfl (hb hby at_467) rfl rfl) ?_
                        show Go p e below s QQ room_1.cells room_1.slots (T230.setTop (mkF m 469 #[jv p0, .second, jv R1, .second, jv R2, .second, jv p3, .second, iv p4, iv pp, iv (oI fl), iv mb, iv dr, iv (oI rq), iv k0, iv ka, iv kb, iv k1, iv k2, rv b162, rv b166, rv b170, rv b172, rv b175, rv b182, rv b185, .unset, .unset] [(.ref b175), (.ref b182)]))
                        refine gs (fun t => XS.iconst X230.here hx rfl (hb hby at_469)) ?_
                        refine gs (fun t => ldIf X230 hx hZ rfl V_b175 (j := (2 : Int32)) (v := (.int (oI 2))) (by decide) rfl (g := (mkF m 470 #[jv p0, .second, jv R1, .second, jv R2, .second, jv p3, .second, iv p4, iv pp, iv (oI fl), iv mb, iv dr, iv (oI rq), iv k0, iv ka, iv kb, iv k1, iv k2, rv b162, rv b166, rv b170, rv b172, rv b175, rv b182, rv b185, .unset, .unset] [(.int (2 : Int32)), (.ref b175), (.ref b182)])) rfl rfl (hb hby at_470) t) ?_
                        obtain ⟨cq231, kq231, q231a, q231b, q231c⟩ := isOf hZ rfl Ex_b182
                        obtain ⟨_, _, ⟨T231, L231, k231, n231⟩, -, X231, ⟨Lc231, hQ231, l231, y231, z231⟩, st231⟩ := X230.virtualBack hx (y := (⟨"com/example/interval/interval/service/SlotOrder", "add", "(I)V"⟩ : MethodName)) (z := (⟨"com/example/interval/interval/service/SlotOrder", "add", "(I)V"⟩ : MethodName)) hown (mvT hZ (hw _ (List.mem_of_getElem? (i := 60) rfl))) (mvT hZ (hw _ (List.mem_of_getElem? (i := 61) rfl))) (notFace_of_selects (args := #[]) (mvT hZ (hw _ (List.mem_of_getElem? (i := 63) rfl)))) (mvT hZ (hw _ (List.mem_of_getElem? (i := 63) rfl))) (mvT hZ (hw _ (List.mem_of_getElem? (i := 62) rfl))) (by decide) (backOf (W := 0) (rmAN l Z a0 hw [] b182 2 ra sz rn230 (0 + 1) (own_ins (fun _ => 0) j230 0 0) b172 pg pa (updv (fun _ => .null) 0 (.ref pa)) (own_tf S0 S1 S2 p0 R1 R2) fl (own_vv fl (own_q3 S0 S1 S2) (own_q3 p0 R1 R2)) (own_q3 S0 S1 S2) T230.heap n0 ZZ F_runs_b182 F_sizes_b182 F_table_b182 F_field_b182 F_size_b182 F_runCount_b182 Ex_b182 V_ra V_sz V_rn Ex_b172 Fp V_pg rfl V_pa HTB hfl ge_b182 ge_sz ge_rn230 ne_b182_ra ne_b182_sz ne_b182_rn230 nrs ne_ra_rn230 ne_sz_rn230 (Ne.symm ne_b172_b182) (Ne.symm ne_pg_b182) (Ne.symm ne_pa_b182) (Ne.symm ne_b172_ra) (Ne.symm ne_pg_ra) (Ne.symm ne_pa_ra) (Ne.symm ne_b172_sz) (Ne.symm ne_pg_sz) (Ne.symm ne_pa_sz) (Ne.symm ne_b172_rn230) (Ne.symm ne_pg_rn230) (Ne.symm ne_pa_rn230) (by decide) (fun i hi => (SR.2.1 i hi).1) (own_Smono SR) (by decide)) hZ (hw _ (List.mem_of_getElem? (i := 64) rfl)) (hw _ (List.mem_of_getElem? (i := 33) rfl)) (by decide) (by decide)) q231a q231c (g := (mkF m 471 #[jv p0, .second, jv R1, .second, jv R2, .second, jv p3, .second, iv p4, iv pp, iv (oI fl), iv mb, iv dr, iv (oI rq), iv k0, iv ka, iv kb, iv k1, iv k2, rv b162, rv b166, rv b170, rv b172, rv b175, rv b182, rv b185, .unset, .unset] [(.int (oI 2)), (.ref b182)])) rfl (by rw [hml]; rfl) (Steps.refl _) (argsL := [(.int (oI 2))]) (rest := []) (lenOf pd_6 rfl) rfl (by show 2 * 0 + _ ≤ _; exact Nat.le_of_eq rfl) (hb hby at_471) (fun _ _ => ⟨rfl, rfl, (by decide : 12 + 0 ≤ _), (by decide : 74 + 0 ≤ _)⟩)
                        dsimp only [Pt.U, Pt.locs, Pt.cells, Pt.slots] at X231 l231 y231 z231 st231 hQ231
                        subst l231 y231 z231
                        obtain ⟨j231, rfl, N231q, K231, Gruns_231, Gsizes_231, Gtable_231, Gfield_231, Gsize_231, GrunCount_231, V_ra231, V_sz231, V_rn231, hj231⟩ := hQ231
                        replace N171 := Fr.app N171 N231q
                        refine gt st231 ?_
                        show Go p e below s QQ room_1.cells room_1.slots (T231.setTop (mkF m 474 #[jv p0, .second, jv R1, .second, jv R2, .second, jv p3, .second, iv p4, iv pp, iv (oI fl), iv mb, iv dr, iv (oI rq), iv k0, iv ka, iv kb, iv k1, iv k2, rv b162, rv b166, rv b170, rv b172, rv b175, rv b182, rv b185, .unset, .unset] []))
                        replace V_b162 := V_b162.keep K231 (ninS ne_b162_b182 (ninS ne_b162_sz (ninS ne_b162_rn230 nin0)))
                        replace V_b166 := V_b166.keep K231 (ninS ne_b166_b182 (ninS ne_b166_sz (ninS ne_b166_rn230 nin0)))
                        replace V_b170 := V_b170.keep K231 (ninS ne_b170_b182 (ninS ne_b170_sz (ninS ne_b170_rn230 nin0)))
                        replace Ex_b172 := Ex_b172.keep K231
                        replace V_pg := V_pg.keep K231 (ninS ne_pg_b182 (ninS ne_pg_sz (ninS ne_pg_rn230 nin0)))
                        replace V_b175 := V_b175.keep K231 (ninS ne_b175_b182 (ninS ne_b175_sz (ninS ne_b175_rn230 nin0)))
                        replace Fp := Fp.keep K231 (ninS ne_b172_b182 (ninS ne_b172_sz (ninS ne_b172_rn230 nin0)))
                        replace Fs := Fs.keep K231 (ninS ne_b172_b182 (ninS ne_b172_sz (ninS ne_b172_rn230 nin0)))
                        replace V_pa := V_pa.keep K231 (ninS ne_pa_b182 (ninS ne_pa_sz (ninS ne_pa_rn230 nin0)))
                        replace Ex_b182 := Ex_b182.keep K231
                        replace TK_ra := TK_ra.keep K231
                        replace V_b185 := V_b185.keep K231 (ninS (Ne.symm ne_b182_b185) (ninS (Ne.symm ne_sz_b185) (ninS ne_b185_rn230 nin0)))
                        replace V_ra := V_ra.keep K231 (ninS (Ne.symm ne_b182_ra) (ninS nrs (ninS ne_ra_rn230 nin0)))
                        replace ZZ := Nat.le_trans ZZ K231.1
                        have F_runs_b182 := Gruns_231
                        have F_sizes_b182 := Gsizes_231
                        have F_table_b182 := Gtable_231
                        have F_field_b182 := Gfield_231
                        have F_size_b182 := Gsize_231
                        have F_runCount_b182 := GrunCount_231
                        have V_ra := V_ra231
                        have V_sz := V_sz231
                        have V_rn := V_rn231
                        have SR : own_S (own_vv fl (own_q3 S0 S1 S2) (own_q3 p0 R1 R2)) (own_q3 S0 S1 S2) ((0 + 1) + 1) (own_ins (own_ins (fun _ => 0) j230 0 0) j231 2 (0 + 1)) (own_up (own_b3 (1 : Int32) (0 : Int32) (0 : Int32)) 2 1) := own_Sadd TT SR (by decide) rfl (by decide) hj231
                        replace SR : own_S (own_vv fl (own_q3 S0 S1 S2) (own_q3 p0 R1 R2)) (own_q3 S0 S1 S2) ((0 + 1) + 1) (own_ins (own_ins (fun _ => 0) j230 0 0) j231 2 (0 + 1)) (own_b3 (1 : Int32) (0 : Int32) (1 : Int32)) := own_Scg SR (fun i hi => by rcases own_3c hi with rfl | rfl | rfl <;> rfl)
                        exact kdn ((0 + 1) + 1) (own_ins (own_ins (fun _ => 0) j230 0 0) j231 2 (0 + 1)) rn230 (own_b3 (1 : Int32) (0 : Int32) (1 : Int32)) _ _ _ (X231) N171 rfl ZZ V_b162 V_b170 Ex_b172 V_pg V_b175 Fp Fs V_pa Ex_b182 F_runs_b182 F_sizes_b182 F_table_b182 F_field_b182 F_size_b182 F_runCount_b182 V_ra V_sz V_b185 V_rn (by omega) (own_Scg SR (fun i hi => by rcases own_3c hi with rfl | rfl | rfl <;> rfl)) (own_b01 (by decide) (by decide) (by decide)) ne_b162_rn230 ne_b166_rn230 ne_b170_rn230 ne_b172_rn230 ne_pg_rn230 ne_pa_rn230 ne_b175_rn230 ne_b182_rn230 ne_ra_rn230 ne_sz_rn230 ne_b185_rn230 ge_rn230
                    · skip
                      show Go p e below s QQ room_1.cells room_1.slots (T230.setTop (mkF m 442 #[jv p0, .second, jv R1, .second, jv R2, .second, jv p3, .second, iv p4, iv pp, iv (oI fl), iv mb, iv dr, iv (oI rq), iv k0, iv ka, iv kb, iv k1, iv k2, rv b162, rv b166, rv b170, rv b172, rv b175, rv b182, rv b185, .unset, .unset] []))
                      refine gs (fun t => XS.aload X230.here hx rfl (hb hby at_442) rfl rfl) ?_
                      refine gs (fun t => XS.iconst X230.here hx rfl (hb hby at_444)) ?_
                      refine gs (fun t => ldZf X230 hx hZ rfl V_b185 (j := (1 : Int32)) (v := (.int (1 : Int32))) (by decide) rfl (g := (mkF m 445 #[jv p0, .second, jv R1, .second, jv R2, .second, jv p3, .second, iv p4, iv pp, iv (oI fl), iv mb, iv dr, iv (oI rq), iv k0, iv ka, iv kb, iv k1, iv k2, rv b162, rv b166, rv b170, rv b172, rv b175, rv b182, rv b185, .unset, .unset] [(.int (1 : Int32)), (.ref b185)])) rfl rfl (hb hby at_445) t) ?_
                      refine gs (fun t => XS.ifNo X230.here hx rfl (hb hby at_446) rfl ((if0 _ _).trans (feq (by decide : ¬ ((1 : Int32) = (0 : Int32)))).1)) ?_
                      refine gs (fun t => XS.aload X230.here hx rfl (hb hby at_449) rfl rfl) ?_
                      refine gs (fun t => XS.aload X230.here hx rfl (hb hby at_451) rfl rfl) ?_
                      show Go p e below s QQ room_1.cells room_1.slots (T230.setTop (mkF m 453 #[jv p0, .second, jv R1, .second, jv R2, .second, jv p3, .second, iv p4, iv pp, iv (oI fl), iv mb, iv dr, iv (oI rq), iv k0, iv ka, iv kb, iv k1, iv k2, rv b162, rv b166, rv b170, rv b172, rv b175, rv b182, rv b185, .unset, .unset] [(.ref b175), (.ref b182)]))
                      refine gs (fun t => XS.iconst X230.here hx rfl (hb hby at_453)) ?_
                      refine gs (fun t => ldIf X230 hx hZ rfl V_b175 (j := (1 : Int32)) (v := (.int (oI 1))) (by decide) rfl (g := (mkF m 454 #[jv p0, .second, jv R1, .second, jv R2, .second, jv p3, .second, iv p4, iv pp, iv (oI fl), iv mb, iv dr, iv (oI rq), iv k0, iv ka, iv kb, iv k1, iv k2, rv b162, rv b166, rv b170, rv b172, rv b175, rv b182, rv b185, .unset, .unset] [(.int (1 : Int32)), (.ref b175), (.ref b182)])) rfl rfl (hb hby at_454) t) ?_
                      obtain ⟨cq232, kq232, q232a, q232b, q232c⟩ := isOf hZ rfl Ex_b182
                      obtain ⟨_, _, ⟨T232, L232, k232, n232⟩, -, X232, ⟨Lc232, hQ232, l232, y232, z232⟩, st232⟩ := X230.virtualBack hx (y := (⟨"com/example/interval/interval/service/SlotOrder", "add", "(I)V"⟩ : MethodName)) (z := (⟨"com/example/interval/interval/service/SlotOrder", "add", "(I)V"⟩ : MethodName)) hown (mvT hZ (hw _ (List.mem_of_getElem? (i := 60) rfl))) (mvT hZ (hw _ (List.mem_of_getElem? (i := 61) rfl))) (notFace_of_selects (args := #[]) (mvT hZ (hw _ (List.mem_of_getElem? (i := 63) rfl)))) (mvT hZ (hw _ (List.mem_of_getElem? (i := 63) rfl))) (mvT hZ (hw _ (List.mem_of_getElem? (i := 62) rfl))) (by decide) (backOf (W := 0) (rmAN l Z a0 hw [] b182 1 ra sz rn230 (0 + 1) (own_ins (fun _ => 0) j230 0 0) b172 pg pa (updv (fun _ => .null) 0 (.ref pa)) (own_tf S0 S1 S2 p0 R1 R2) fl (own_vv fl (own_q3 S0 S1 S2) (own_q3 p0 R1 R2)) (own_q3 S0 S1 S2) T230.heap n0 ZZ F_runs_b182 F_sizes_b182 F_table_b182 F_field_b182 F_size_b182 F_runCount_b182 Ex_b182 V_ra V_sz V_rn Ex_b172 Fp V_pg rfl V_pa HTB hfl ge_b182 ge_sz ge_rn230 ne_b182_ra ne_b182_sz ne_b182_rn230 nrs ne_ra_rn230 ne_sz_rn230 (Ne.symm ne_b172_b182) (Ne.symm ne_pg_b182) (Ne.symm ne_pa_b182) (Ne.symm ne_b172_ra) (Ne.symm ne_pg_ra) (Ne.symm ne_pa_ra) (Ne.symm ne_b172_sz) (Ne.symm ne_pg_sz) (Ne.symm ne_pa_sz) (Ne.symm ne_b172_rn230) (Ne.symm ne_pg_rn230) (Ne.symm ne_pa_rn230) (by decide) (fun i hi => (SR.2.1 i hi).1) (own_Smono SR) (by decide)) hZ (hw _ (List.mem_of_getElem? (i := 64) rfl)) (hw _ (List.mem_of_getElem? (i := 33) rfl)) (by decide) (by decide)) q232a q232c (g := (mkF m 455 #[jv p0, .second, jv R1, .second, jv R2, .second, jv p3, .second, iv p4, iv pp, iv (oI fl), iv mb, iv dr, iv (oI rq), iv k0, iv ka, iv kb, iv k1, iv k2, rv b162, rv b166, rv b170, rv b172, rv b175, rv b182, rv b185, .unset, .unset] [(.int (oI 1)), (.ref b182)])) rfl (by rw [hml]; rfl) (Steps.refl _) (argsL := [(.int (oI 1))]) (rest := []) (lenOf pd_6 rfl) rfl (by show 2 * 0 + _ ≤ _; exact Nat.le_of_eq rfl) (hb hby at_455) (fun _ _ => ⟨rfl, rfl, (by decide : 12 + 0 ≤ _), (by decide : 74 + 0 ≤ _)⟩)
                      dsimp only [Pt.U, Pt.locs, Pt.cells, Pt.slots] at X232 l232 y232 z232 st232 hQ232
                      subst l232 y232 z232
                      obtain ⟨j232, rfl, N232q, K232, Gruns_232, Gsizes_232, Gtable_232, Gfield_232, Gsize_232, GrunCount_232, V_ra232, V_sz232, V_rn232, hj232⟩ := hQ232
                      replace N171 := Fr.app N171 N232q
                      refine gt st232 ?_
                      show Go p e below s QQ room_1.cells room_1.slots (T232.setTop (mkF m 458 #[jv p0, .second, jv R1, .second, jv R2, .second, jv p3, .second, iv p4, iv pp, iv (oI fl), iv mb, iv dr, iv (oI rq), iv k0, iv ka, iv kb, iv k1, iv k2, rv b162, rv b166, rv b170, rv b172, rv b175, rv b182, rv b185, .unset, .unset] []))
                      replace V_b162 := V_b162.keep K232 (ninS ne_b162_b182 (ninS ne_b162_sz (ninS ne_b162_rn230 nin0)))
                      replace V_b166 := V_b166.keep K232 (ninS ne_b166_b182 (ninS ne_b166_sz (ninS ne_b166_rn230 nin0)))
                      replace V_b170 := V_b170.keep K232 (ninS ne_b170_b182 (ninS ne_b170_sz (ninS ne_b170_rn230 nin0)))
                      replace Ex_b172 := Ex_b172.keep K232
                      replace V_pg := V_pg.keep K232 (ninS ne_pg_b182 (ninS ne_pg_sz (ninS ne_pg_rn230 nin0)))
                      replace V_b175 := V_b175.keep K232 (ninS ne_b175_b182 (ninS ne_b175_sz (ninS ne_b175_rn230 nin0)))
                      replace Fp := Fp.keep K232 (ninS ne_b172_b182 (ninS ne_b172_sz (ninS ne_b172_rn230 nin0)))
                      replace Fs := Fs.keep K232 (ninS ne_b172_b182 (ninS ne_b172_sz (ninS ne_b172_rn230 nin0)))
                      replace V_pa := V_pa.keep K232 (ninS ne_pa_b182 (ninS ne_pa_sz (ninS ne_pa_rn230 nin0)))
                      replace Ex_b182 := Ex_b182.keep K232
                      replace TK_ra := TK_ra.keep K232
                      replace V_b185 := V_b185.keep K232 (ninS (Ne.symm ne_b182_b185) (ninS (Ne.symm ne_sz_b185) (ninS ne_b185_rn230 nin0)))
                      replace V_ra := V_ra.keep K232 (ninS (Ne.symm ne_b182_ra) (ninS nrs (ninS ne_ra_rn230 nin0)))
                      replace ZZ := Nat.le_trans ZZ K232.1
                      have F_runs_b182 := Gruns_232
                      have F_sizes_b182 := Gsizes_232
                      have F_table_b182 := Gtable_232
                      have F_field_b182 := Gfield_232
                      have F_size_b182 := Gsize_232
                      have F_runCount_b182 := GrunCount_232
                      have V_ra := V_ra232
                      have V_sz := V_sz232
                      have V_rn := V_rn232
                      have SR : own_S (own_vv fl (own_q3 S0 S1 S2) (own_q3 p0 R1 R2)) (own_q3 S0 S1 S2) ((0 + 1) + 1) (own_ins (own_ins (fun _ => 0) j230 0 0) j232 1 (0 + 1)) (own_up (own_b3 (1 : Int32) (0 : Int32) (0 : Int32)) 1 1) := own_Sadd TT SR (by decide) rfl (by decide) hj232
                      replace SR : own_S (own_vv fl (own_q3 S0 S1 S2) (own_q3 p0 R1 R2)) (own_q3 S0 S1 S2) ((0 + 1) + 1) (own_ins (own_ins (fun _ => 0) j230 0 0) j232 1 (0 + 1)) (own_b3 (1 : Int32) (1 : Int32) (0 : Int32)) := own_Scg SR (fun i hi => by rcases own_3c hi with rfl | rfl | rfl <;> rfl)
                      rcases hb2 with rfl | rfl
                      · skip
                        show Go p e below s QQ room_1.cells room_1.slots (T232.setTop (mkF m 458 #[jv p0, .second, jv R1, .second, jv R2, .second, jv p3, .second, iv p4, iv pp, iv (oI fl), iv mb, iv dr, iv (oI rq), iv k0, iv ka, iv kb, iv k1, iv k2, rv b162, rv b166, rv b170, rv b172, rv b175, rv b182, rv b185, .unset, .unset] []))
                        refine gs (fun t => XS.aload X232.here hx rfl (hb hby at_458) rfl rfl) ?_
                        refine gs (fun t => XS.iconst X232.here hx rfl (hb hby at_460)) ?_
                        refine gs (fun t => ldZf X232 hx hZ rfl V_b185 (j := (2 : Int32)) (v := (.int (0 : Int32))) (by decide) rfl (g := (mkF m 461 #[jv p0, .second, jv R1, .second, jv R2, .second, jv p3, .second, iv p4, iv pp, iv (oI fl), iv mb, iv dr, iv (oI rq), iv k0, iv ka, iv kb, iv k1, iv k2, rv b162, rv b166, rv b170, rv b172, rv b175, rv b182, rv b185, .unset, .unset] [(.int (2 : Int32)), (.ref b185)])) rfl rfl (hb hby at_461) t) ?_
                        refine gs (fun t => XS.ifYes X232.here hx rfl (pc0 := 462) (pc' := 474) rfl (hb hby at_462) rfl ((if0 _ _).trans (teq (by decide : (0 : Int32) = (0 : Int32))).1) (by decide) (by decide)) ?_
                        exact kdn ((0 + 1) + 1) (own_ins (own_ins (fun _ => 0) j230 0 0) j232 1 (0 + 1)) rn230 (own_b3 (1 : Int32) (1 : Int32) (0 : Int32)) _ _ _ (X232) N171 rfl ZZ V_b162 V_b170 Ex_b172 V_pg V_b175 Fp Fs V_pa Ex_b182 F_runs_b182 F_sizes_b182 F_table_b182 F_field_b182 F_size_b182 F_runCount_b182 V_ra V_sz V_b185 V_rn (by omega) (own_Scg SR (fun i hi => by rcases own_3c hi with rfl | rfl | rfl <;> rfl)) (own_b01 (by decide) (by decide) (by decide)) ne_b162_rn230 ne_b166_rn230 ne_b170_rn230 ne_b172_rn230 ne_pg_rn230 ne_pa_rn230 ne_b175_rn230 ne_b182_rn230 ne_ra_rn230 ne_sz_rn230 ne_b185_rn230 ge_rn230
                      · skip
                        show Go p e below s QQ room_1.cells room_1.slots (T232.setTop (mkF m 458 #[jv p0, .second, jv R1, .second, jv R2, .second, jv p3, .second, iv p4, iv pp, iv (oI fl), iv mb, iv dr, iv (oI rq), iv k0, iv ka, iv kb, iv k1, iv k2, rv b162, rv b166, rv b170, rv b172, rv b175, rv b182, rv b185, .unset, .unset] []))
                        refine gs (fun t => XS.aload X232.here hx rfl (hb hby at_458) rfl rfl) ?_
                        refine gs (fun t => XS.iconst X232.here hx rfl (hb hby at_460)) ?_
                        refine gs (fun t => ldZf X232 hx hZ rfl V_b185 (j := (2 : Int32)) (v := (.int (1 : Int32))) (by decide) rfl (g := (mkF m 461 #[jv p0, .second, jv R1, .second, jv R2, .second, jv p3, .second, iv p4, iv pp, iv (oI fl), iv mb, iv dr, iv (oI rq), iv k0, iv ka, iv kb, iv k1, iv k2, rv b162, rv b166, rv b170, rv b172, rv b175, rv b182, rv b185, .unset, .unset] [(.int (2 : Int32)), (.ref b185)])) rfl rfl (hb hby at_461) t) ?_
                        refine gs (fun t => XS.ifNo X232.here hx rfl (hb hby at_462) rfl ((if0 _ _).trans (feq (by decide : ¬ ((1 : Int32) = (0 : Int32)))).1)) ?_
                        refine gs (fun t => XS.aload X232.here hx rfl (hb hby at_465) rfl rfl) ?_
                        refine gs (fun t => XS.aload X232.here hx rfl (hb hby at_467) rfl rfl) ?_
                        show Go p e below s QQ room_1.cells room_1.slots (T232.setTop (mkF m 469 #[jv p0, .second, jv R1, .second, jv R2, .second, jv p3, .second, iv p4, iv pp, iv (oI fl), iv mb, iv dr, iv (oI rq), iv k0, iv ka, iv kb, iv k1, iv k2, rv b162, rv b166, rv b170, rv b172, rv b175, rv b182, rv b185, .unset, .unset] [(.ref b175), (.ref b182)]))
                        refine gs (fun t => XS.iconst X232.here hx rfl (hb hby at_469)) ?_
                        refine gs (fun t => ldIf X232 hx hZ rfl V_b175 (j := (2 : Int32)) (v := (.int (oI 2))) (by decide) rfl (g := (mkF m 470 #[jv p0, .second, jv R1, .second, jv R2, .second, jv p3, .second, iv p4, iv pp, iv (oI fl), iv mb, iv dr, iv (oI rq), iv k0, iv ka, iv kb, iv k1, iv k2, rv b162, rv b166, rv b170, rv b172, rv b175, rv b182, rv b185, .unset, .unset] [(.int (2 : Int32)), (.ref b175), (.ref b182)])) rfl rfl (hb hby at_470) t) ?_
                        obtain ⟨cq233, kq233, q233a, q233b, q233c⟩ := isOf hZ rfl Ex_b182
                        obtain ⟨_, _, ⟨T233, L233, k233, n233⟩, -, X233, ⟨Lc233, hQ233, l233, y233, z233⟩, st233⟩ := X232.virtualBack hx (y := (⟨"com/example/interval/interval/service/SlotOrder", "add", "(I)V"⟩ : MethodName)) (z := (⟨"com/example/interval/interval/service/SlotOrder", "add", "(I)V"⟩ : MethodName)) hown (mvT hZ (hw _ (List.mem_of_getElem? (i := 60) rfl))) (mvT hZ (hw _ (List.mem_of_getElem? (i := 61) rfl))) (notFace_of_selects (args := #[]) (mvT hZ (hw _ (List.mem_of_getElem? (i := 63) rfl)))) (mvT hZ (hw _ (List.mem_of_getElem? (i := 63) rfl))) (mvT hZ (hw _ (List.mem_of_getElem? (i := 62) rfl))) (by decide) (backOf (W := 0) (rmAN l Z a0 hw [] b182 2 ra sz rn230 ((0 + 1) + 1) (own_ins (own_ins (fun _ => 0) j230 0 0) j232 1 (0 + 1)) b172 pg pa (updv (fun _ => .null) 0 (.ref pa)) (own_tf S0 S1 S2 p0 R1 R2) fl (own_vv fl (own_q3 S0 S1 S2) (own_q3 p0 R1 R2)) (own_q3 S0 S1 S2) T232.heap n0 ZZ F_runs_b182 F_sizes_b182 F_table_b182 F_field_b182 F_size_b182 F_runCount_b182 Ex_b182 V_ra V_sz V_rn Ex_b172 Fp V_pg rfl V_pa HTB hfl ge_b182 ge_sz ge_rn230 ne_b182_ra ne_b182_sz ne_b182_rn230 nrs ne_ra_rn230 ne_sz_rn230 (Ne.symm ne_b172_b182) (Ne.symm ne_pg_b182) (Ne.symm ne_pa_b182) (Ne.symm ne_b172_ra) (Ne.symm ne_pg_ra) (Ne.symm ne_pa_ra) (Ne.symm ne_b172_sz) (Ne.symm ne_pg_sz) (Ne.symm ne_pa_sz) (Ne.symm ne_b172_rn230) (Ne.symm ne_pg_rn230) (Ne.symm ne_pa_rn230) (by decide) (fun i hi => (SR.2.1 i hi).1) (own_Smono SR) (by decide)) hZ (hw _ (List.mem_of_getElem? (i := 64) rfl)) (hw _ (List.mem_of_getElem? (i := 33) rfl)) (by decide) (by decide)) q233a q233c (g := (mkF m 471 #[jv p0, .second, jv R1, .second, jv R2, .second, jv p3, .second, iv p4, iv pp, iv (oI fl), iv mb, iv dr, iv (oI rq), iv k0, iv ka, iv kb, iv k1, iv k2, rv b162, rv b166, rv b170, rv b172, rv b175, rv b182, rv b185, .unset, .unset] [(.int (oI 2)), (.ref b182)])) rfl (by rw [hml]; rfl) (Steps.refl _) (argsL := [(.int (oI 2))]) (rest := []) (lenOf pd_6 rfl) rfl (by show 2 * 0 + _ ≤ _; exact Nat.le_of_eq rfl) (hb hby at_471) (fun _ _ => ⟨rfl, rfl, (by decide : 12 + 0 ≤ _), (by decide : 74 + 0 ≤ _)⟩)
                        dsimp only [Pt.U, Pt.locs, Pt.cells, Pt.slots] at X233 l233 y233 z233 st233 hQ233
                        subst l233 y233 z233
                        obtain ⟨j233, rfl, N233q, K233, Gruns_233, Gsizes_233, Gtable_233, Gfield_233, Gsize_233, GrunCount_233, V_ra233, V_sz233, V_rn233, hj233⟩ := hQ233
                        replace N171 := Fr.app N171 N233q
                        refine gt st233 ?_
                        show Go p e below s QQ room_1.cells room_1.slots (T233.setTop (mkF m 474 #[jv p0, .second, jv R1, .second, jv R2, .second, jv p3, .second, iv p4, iv pp, iv (oI fl), iv mb, iv dr, iv (oI rq), iv k0, iv ka, iv kb, iv k1, iv k2, rv b162, rv b166, rv b170, rv b172, rv b175, rv b182, rv b185, .unset, .unset] []))
                        replace V_b162 := V_b162.keep K233 (ninS ne_b162_b182 (ninS ne_b162_sz (ninS ne_b162_rn230 nin0)))
                        replace V_b166 := V_b166.keep K233 (ninS ne_b166_b182 (ninS ne_b166_sz (ninS ne_b166_rn230 nin0)))
                        replace V_b170 := V_b170.keep K233 (ninS ne_b170_b182 (ninS ne_b170_sz (ninS ne_b170_rn230 nin0)))
                        replace Ex_b172 := Ex_b172.keep K233
                        replace V_pg := V_pg.keep K233 (ninS ne_pg_b182 (ninS ne_pg_sz (ninS ne_pg_rn230 nin0)))
                        replace V_b175 := V_b175.keep K233 (ninS ne_b175_b182 (ninS ne_b175_sz (ninS ne_b175_rn230 nin0)))
                        replace Fp := Fp.keep K233 (ninS ne_b172_b182 (ninS ne_b172_sz (ninS ne_b172_rn230 nin0)))
                        replace Fs := Fs.keep K233 (ninS ne_b172_b182 (ninS ne_b172_sz (ninS ne_b172_rn230 nin0)))
                        replace V_pa := V_pa.keep K233 (ninS ne_pa_b182 (ninS ne_pa_sz (ninS ne_pa_rn230 nin0)))
                        replace Ex_b182 := Ex_b182.keep K233
                        replace TK_ra := TK_ra.keep K233
                        replace V_b185 := V_b185.keep K233 (ninS (Ne.symm ne_b182_b185) (ninS (Ne.symm ne_sz_b185) (ninS ne_b185_rn230 nin0)))
                        replace V_ra := V_ra.keep K233 (ninS (Ne.symm ne_b182_ra) (ninS nrs (ninS ne_ra_rn230 nin0)))
                        replace ZZ := Nat.le_trans ZZ K233.1
                        have F_runs_b182 := Gruns_233
                        have F_sizes_b182 := Gsizes_233
                        have F_table_b182 := Gtable_233
                        have F_field_b182 := Gfield_233
                        have F_size_b182 := Gsize_233
                        have F_runCount_b182 := GrunCount_233
                        have V_ra := V_ra233
                        have V_sz := V_sz233
                        have V_rn := V_rn233
                        have SR : own_S (own_vv fl (own_q3 S0 S1 S2) (own_q3 p0 R1 R2)) (own_q3 S0 S1 S2) (((0 + 1) + 1) + 1) (own_ins (own_ins (own_ins (fun _ => 0) j230 0 0) j232 1 (0 + 1)) j233 2 ((0 + 1) + 1)) (own_up (own_b3 (1 : Int32) (1 : Int32) (0 : Int32)) 2 1) := own_Sadd TT SR (by decide) rfl (by decide) hj233
                        replace SR : own_S (own_vv fl (own_q3 S0 S1 S2) (own_q3 p0 R1 R2)) (own_q3 S0 S1 S2) (((0 + 1) + 1) + 1) (own_ins (own_ins (own_ins (fun _ => 0) j230 0 0) j232 1 (0 + 1)) j233 2 ((0 + 1) + 1)) (own_b3 (1 : Int32) (1 : Int32) (1 : Int32)) := own_Scg SR (fun i hi => by rcases own_3c hi with rfl | rfl | rfl <;> rfl)
                        exact kdn (((0 + 1) + 1) + 1) (own_ins (own_ins (own_ins (fun _ => 0) j230 0 0) j232 1 (0 + 1)) j233 2 ((0 + 1) + 1)) rn230 (own_b3 (1 : Int32) (1 : Int32) (1 : Int32)) _ _ _ (X233) N171 rfl ZZ V_b162 V_b170 Ex_b172 V_pg V_b175 Fp Fs V_pa Ex_b182 F_runs_b182 F_sizes_b182 F_table_b182 F_field_b182 F_size_b182 F_runCount_b182 V_ra V_sz V_b185 V_rn (by omega) (own_Scg SR (fun i hi => by rcases own_3c hi with rfl | rfl | rfl <;> rfl)) (own_b01 (by decide) (by decide) (by decide)) ne_b162_rn230 ne_b166_rn230 ne_b170_rn230 ne_b172_rn230 ne_pg_rn230 ne_pa_rn230 ne_b175_rn230 ne_b182_rn230 ne_ra_rn230 ne_sz_rn230 ne_b185_rn230 ge_rn230
                by_cases hm2 : (mb &&& (4 : Int32)) = (0 : Int32)
                · skip
                  refine gs (fun t => XS.ifYes X189.here hx rfl (pc0 := 415) (pc' := 422) rfl (hb hby at_415) rfl ((if0 _ _).trans (teq hm2).1) (by decide) (by decide)) ?_
                  show Go p e below s QQ room_1.cells room_1.slots (T189.setTop (mkF m 422 #[jv p0, .second, jv R1, .second, jv R2, .second, jv p3, .second, iv p4, iv pp, iv (oI fl), iv mb, iv dr, iv (oI rq), iv k0, iv ka, iv kb, iv k1, iv k2, rv b162, rv b166, rv b170, rv b172, rv b175, rv b182, .unset, .unset, .unset] [(.int (2 : Int32)), (.ref b185), (.ref b185)]))
                  refine gs (fun t => XS.iconst X189.here hx rfl (hb hby at_422)) ?_
                  exact kb2 (0 : Int32) (by decide)
                · skip
                  refine gs (fun t => XS.ifNo X189.here hx rfl (hb hby at_415) rfl ((if0 _ _).trans (feq hm2).1)) ?_
                  show Go p e below s QQ room_1.cells room_1.slots (T189.setTop (mkF m 418 #[jv p0, .second, jv R1, .second, jv R2, .second, jv p3, .second, iv p4, iv pp, iv (oI fl), iv mb, iv dr, iv (oI rq), iv k0, iv ka, iv kb, iv k1, iv k2, rv b162, rv b166, rv b170, rv b172, rv b175, rv b182, .unset, .unset, .unset] [(.int (2 : Int32)), (.ref b185), (.ref b185)]))
                  refine gs (fun t => XS.iconst X189.here hx rfl (hb hby at_418)) ?_
                  refine gs (fun t => XS.goto X189.here hx rfl (pc0 := 419) (pc' := 423) rfl (hb hby at_419) (by decide) (by decide)) ?_
                  exact kb2 (1 : Int32) (by decide)
              by_cases hm1 : (mb &&& (2 : Int32)) = (0 : Int32)
              · skip
                refine gs (fun t => XS.ifYes X187.here hx rfl (pc0 := 400) (pc' := 407) rfl (hb hby at_400) rfl ((if0 _ _).trans (teq hm1).1) (by decide) (by decide)) ?_
                show Go p e below s QQ room_1.cells room_1.slots (T187.setTop (mkF m 407 #[jv p0, .second, jv R1, .second, jv R2, .second, jv p3, .second, iv p4, iv pp, iv (oI fl), iv mb, iv dr, iv (oI rq), iv k0, iv ka, iv kb, iv k1, iv k2, rv b162, rv b166, rv b170, rv b172, rv b175, rv b182, .unset, .unset, .unset] [(.int (1 : Int32)), (.ref b185), (.ref b185)]))
                refine gs (fun t => XS.iconst X187.here hx rfl (hb hby at_407)) ?_
                exact kb1 (0 : Int32) (by decide)
              · skip
                refine gs (fun t => XS.ifNo X187.here hx rfl (hb hby at_400) rfl ((if0 _ _).trans (feq hm1).1)) ?_
                show Go p e below s QQ room_1.cells room_1.slots (T187.setTop (mkF m 403 #[jv p0, .second, jv R1, .second, jv R2, .second, jv p3, .second, iv p4, iv pp, iv (oI fl), iv mb, iv dr, iv (oI rq), iv k0, iv ka, iv kb, iv k1, iv k2, rv b162, rv b166, rv b170, rv b172, rv b175, rv b182, .unset, .unset, .unset] [(.int (1 : Int32)), (.ref b185), (.ref b185)]))
                refine gs (fun t => XS.iconst X187.here hx rfl (hb hby at_403)) ?_
                refine gs (fun t => XS.goto X187.here hx rfl (pc0 := 404) (pc' := 408) rfl (hb hby at_404) (by decide) (by decide)) ?_
                exact kb1 (1 : Int32) (by decide)
            by_cases hm0 : (mb &&& (1 : Int32)) = (0 : Int32)
            · skip
              refine gs (fun t => XS.ifYes X185.here hx rfl (pc0 := 385) (pc' := 392) rfl (hb hby at_385) rfl ((if0 _ _).trans (teq hm0).1) (by decide) (by decide)) ?_
              show Go p e below s QQ room_1.cells room_1.slots (T185.setTop (mkF m 392 #[jv p0, .second, jv R1, .second, jv R2, .second, jv p3, .second, iv p4, iv pp, iv (oI fl), iv mb, iv dr, iv (oI rq), iv k0, iv ka, iv kb, iv k1, iv k2, rv b162, rv b166, rv b170, rv b172, rv b175, rv b182, .unset, .unset, .unset] [(.int (0 : Int32)), (.ref b185), (.ref b185)]))
              refine gs (fun t => XS.iconst X185.here hx rfl (hb hby at_392)) ?_
              exact kb0 (0 : Int32) (by decide)
            · skip
              refine gs (fun t => XS.ifNo X185.here hx rfl (hb hby at_385) rfl ((if0 _ _).trans (feq hm0).1)) ?_
              show Go p e below s QQ room_1.cells room_1.slots (T185.setTop (mkF m 388 #[jv p0, .second, jv R1, .second, jv R2, .second, jv p3, .second, iv p4, iv pp, iv (oI fl), iv mb, iv dr, iv (oI rq), iv k0, iv ka, iv kb, iv k1, iv k2, rv b162, rv b166, rv b170, rv b172, rv b175, rv b182, .unset, .unset, .unset] [(.int (0 : Int32)), (.ref b185), (.ref b185)]))
              refine gs (fun t => XS.iconst X185.here hx rfl (hb hby at_388)) ?_
              refine gs (fun t => XS.goto X185.here hx rfl (pc0 := 389) (pc' := 393) rfl (hb hby at_389) (by decide) (by decide)) ?_
              exact kb0 (1 : Int32) (by decide)
          by_cases hz : (oI fl) = (0 : Int32)
          · skip
            refine gs (fun t => XS.ifNo X170.here hx rfl (hb hby at_207) rfl ((if0 _ _).trans (teq hz).2)) ?_
            refine gs (fun t => XS.aload X170.here hx rfl (hb hby at_210) rfl rfl) ?_
            show Go p e below s QQ room_1.cells room_1.slots (T170.setTop (mkF m 212 #[jv p0, .second, jv R1, .second, jv R2, .second, jv p3, .second, iv p4, iv pp, iv (oI fl), iv mb, iv dr, iv (oI rq), iv k0, iv ka, iv kb, iv k1, iv k2, rv b162, rv b166, rv b170, .unset, .unset, .unset, .unset, .unset, .unset] [(.ref b162), (.int (0 : Int32)), (.ref b170)]))
            refine gs (fun t => XS.iconst X170.here hx rfl (hb hby at_212)) ?_
            refine gs (fun t => ldJf X170 hx hZ e170 V_b162 (j := (0 : Int32)) (v := (.long S0)) (by decide) rfl (g := (mkF m 213 #[jv p0, .second, jv R1, .second, jv R2, .second, jv p3, .second, iv p4, iv pp, iv (oI fl), iv mb, iv dr, iv (oI rq), iv k0, iv ka, iv kb, iv k1, iv k2, rv b162, rv b166, rv b170, .unset, .unset, .unset, .unset, .unset, .unset] [(.int (0 : Int32)), (.ref b162), (.int (0 : Int32)), (.ref b170)])) rfl rfl (hb hby at_213) t) ?_
            refine gs (fun t => XS.goto X170.here hx rfl (pc0 := 214) (pc' := 221) rfl (hb hby at_214) (by decide) (by decide)) ?_
            obtain ⟨T234, h234, X234, e234, W234, V234, st234⟩ := stJf X170 hx hZ e170 V_b170 (j := (0 : Int32)) (by decide) (g := (mkF m 221 #[jv p0, .second, jv R1, .second, jv R2, .second, jv p3, .second, iv p4, iv pp, iv (oI fl), iv mb, iv dr, iv (oI rq), iv k0, iv ka, iv kb, iv k1, iv k2, rv b162, rv b166, rv b170, .unset, .unset, .unset, .unset, .unset, .unset] [(.long S0), (.int (0 : Int32)), (.ref b170)])) rfl rfl (hb hby at_221)
            replace N0 := Fr.snoc X234 N0 ge_b170
            refine gs st234 ?_
            show Go p e below s QQ room_1.cells room_1.slots (T234.setTop (mkF m 222 #[jv p0, .second, jv R1, .second, jv R2, .second, jv p3, .second, iv p4, iv pp, iv (oI fl), iv mb, iv dr, iv (oI rq), iv k0, iv ka, iv kb, iv k1, iv k2, rv b162, rv b166, rv b170, .unset, .unset, .unset, .unset, .unset, .unset] []))
            replace V_b162 := V_b162.other W234 ne_b162_b170
            replace V_b166 := V_b166.other W234 ne_b166_b170
            replace ZZ : n0 ≤ h234.size := by rw [W234.size]; exact ZZ
            replace V_b170 : Arf Z h234 b170 .long 3 (updv (fun _ => .long 0) 0 (.long S0)) := V234
            refine gs (fun t => XS.aload X234.here hx rfl (hb hby at_222) rfl rfl) ?_
            refine gs (fun t => XS.iconst X234.here hx rfl (hb hby at_224)) ?_
            refine gs (fun t => XS.iload X234.here hx rfl (hb hby at_225) rfl) ?_
            refine gs (fun t => XS.ifNo X234.here hx rfl (hb hby at_227) rfl ((if0 _ _).trans (teq (hz : (oI fl) = (0 : Int32))).2)) ?_
            refine gs (fun t => XS.aload X234.here hx rfl (hb hby at_230) rfl rfl) ?_
            refine gs (fun t => XS.iconst X234.here hx rfl (hb hby at_232)) ?_
            show Go p e below s QQ room_1.cells room_1.slots (T234.setTop (mkF m 233 #[jv p0, .second, jv R1, .second, jv R2, .second, jv p3, .second, iv p4, iv pp, iv (oI fl), iv mb, iv dr, iv (oI rq), iv k0, iv ka, iv kb, iv k1, iv k2, rv b162, rv b166, rv b170, .unset, .unset, .unset, .unset, .unset, .unset] [(.int (1 : Int32)), (.ref b162), (.int (1 : Int32)), (.ref b170)]))
            refine gs (fun t => ldJf X234 hx hZ e234 V_b162 (j := (1 : Int32)) (v := (.long S1)) (by decide) rfl (g := (mkF m 233 #[jv p0, .second, jv R1, .second, jv R2, .second, jv p3, .second, iv p4, iv pp, iv (oI fl), iv mb, iv dr, iv (oI rq), iv k0, iv ka, iv kb, iv k1, iv k2, rv b162, rv b166, rv b170, .unset, .unset, .unset, .unset, .unset, .unset] [(.int (1 : Int32)), (.ref b162), (.int (1 : Int32)), (.ref b170)])) rfl rfl (hb hby at_233) t) ?_
            refine gs (fun t => XS.goto X234.here hx rfl (pc0 := 234) (pc' := 241) rfl (hb hby at_234) (by decide) (by decide)) ?_
            obtain ⟨T235, h235, X235, e235, W235, V235, st235⟩ := stJf X234 hx hZ e234 V_b170 (j := (1 : Int32)) (by decide) (g := (mkF m 241 #[jv p0, .second, jv R1, .second, jv R2, .second, jv p3, .second, iv p4, iv pp, iv (oI fl), iv mb, iv dr, iv (oI rq), iv k0, iv ka, iv kb, iv k1, iv k2, rv b162, rv b166, rv b170, .unset, .unset, .unset, .unset, .unset, .unset] [(.long S1), (.int (1 : Int32)), (.ref b170)])) rfl rfl (hb hby at_241)
            replace N0 := Fr.snoc X235 N0 ge_b170
            refine gs st235 ?_
            show Go p e below s QQ room_1.cells room_1.slots (T235.setTop (mkF m 242 #[jv p0, .second, jv R1, .second, jv R2, .second, jv p3, .second, iv p4, iv pp, iv (oI fl), iv mb, iv dr, iv (oI rq), iv k0, iv ka, iv kb, iv k1, iv k2, rv b162, rv b166, rv b170, .unset, .unset, .unset, .unset, .unset, .unset] []))
            replace V_b162 := V_b162.other W235 ne_b162_b170
            replace V_b166 := V_b166.other W235 ne_b166_b170
            replace ZZ : n0 ≤ h235.size := by rw [W235.size]; exact ZZ
            replace V_b170 : Arf Z h235 b170 .long 3 (updv (updv (fun _ => .long 0) 0 (.long S0)) 1 (.long S1)) := V235
            refine gs (fun t => XS.aload X235.here hx rfl (hb hby at_242) rfl rfl) ?_
            refine gs (fun t => XS.iconst X235.here hx rfl (hb hby at_244)) ?_
            refine gs (fun t => XS.iload X235.here hx rfl (hb hby at_245) rfl) ?_
            refine gs (fun t => XS.ifNo X235.here hx rfl (hb hby at_247) rfl ((if0 _ _).trans (teq (hz : (oI fl) = (0 : Int32))).2)) ?_
            refine gs (fun t => XS.aload X235.here hx rfl (hb hby at_250) rfl rfl) ?_
            refine gs (fun t => XS.iconst X235.here hx rfl (hb hby at_252)) ?_
            show Go p e below s QQ room_1.cells room_1.slots (T235.setTop (mkF m 253 #[jv p0, .second, jv R1, .second, jv R2, .second, jv p3, .second, iv p4, iv pp, iv (oI fl), iv mb, iv dr, iv (oI rq), iv k0, iv ka, iv kb, iv k1, iv k2, rv b162, rv b166, rv b170, .unset, .unset, .unset, .unset, .unset, .unset] [(.int (2 : Int32)), (.ref b162), (.int (2 : Int32)), (.ref b170)]))
            refine gs (fun t => ldJf X235 hx hZ e235 V_b162 (j := (2 : Int32)) (v := (.long S2)) (by decide) rfl (g := (mkF m 253 #[jv p0, .second, jv R1, .second, jv R2, .second, jv p3, .second, iv p4, iv pp, iv (oI fl), iv mb, iv dr, iv (oI rq), iv k0, iv ka, iv kb, iv k1, iv k2, rv b162, rv b166, rv b170, .unset, .unset, .unset, .unset, .unset, .unset] [(.int (2 : Int32)), (.ref b162), (.int (2 : Int32)), (.ref b170)])) rfl rfl (hb hby at_253) t) ?_
            refine gs (fun t => XS.goto X235.here hx rfl (pc0 := 254) (pc' := 261) rfl (hb hby at_254) (by decide) (by decide)) ?_
            obtain ⟨T236, h236, X236, e236, W236, V236, st236⟩ := stJf X235 hx hZ e235 V_b170 (j := (2 : Int32)) (by decide) (g := (mkF m 261 #[jv p0, .second, jv R1, .second, jv R2, .second, jv p3, .second, iv p4, iv pp, iv (oI fl), iv mb, iv dr, iv (oI rq), iv k0, iv ka, iv kb, iv k1, iv k2, rv b162, rv b166, rv b170, .unset, .unset, .unset, .unset, .unset, .unset] [(.long S2), (.int (2 : Int32)), (.ref b170)])) rfl rfl (hb hby at_261)
            replace N0 := Fr.snoc X236 N0 ge_b170
            refine gs st236 ?_
            show Go p e below s QQ room_1.cells room_1.slots (T236.setTop (mkF m 262 #[jv p0, .second, jv R1, .second, jv R2, .second, jv p3, .second, iv p4, iv pp, iv (oI fl), iv mb, iv dr, iv (oI rq), iv k0, iv ka, iv kb, iv k1, iv k2, rv b162, rv b166, rv b170, .unset, .unset, .unset, .unset, .unset, .unset] []))
            replace V_b162 := V_b162.other W236 ne_b162_b170
            replace V_b166 := V_b166.other W236 ne_b166_b170
            replace ZZ : n0 ≤ h236.size := by rw [W236.size]; exact ZZ
            replace V_b170 : Arf Z h236 b170 .long 3 (updv (updv (updv (fun _ => .long 0) 0 (.long S0)) 1 (.long S1)) 2 (.long S2)) := V236
            replace V_b170 : Arf Z h236 b170 .long 3 (fun i => .long ((own_vv fl (own_q3 S0 S1 S2) (own_q3 p0 R1 R2)) i)) := V_b170.congr (fun i hi => by have q : fl = 0 := (own_fl0 hfl).mp hz; rcases own_3c hi with rfl | rfl | rfl <;> simp [own_vv, own_q3, updv, q])
            exact kjv  _ _ _ (X236) N0 e236 ZZ V_b162 V_b166 V_b170 
          · skip
            refine gs (fun t => XS.ifYes X170.here hx rfl (pc0 := 207) (pc' := 217) rfl (hb hby at_207) rfl ((if0 _ _).trans (feq hz).2) (by decide) (by decide)) ?_
            refine gs (fun t => XS.aload X170.here hx rfl (hb hby at_217) rfl rfl) ?_
            show Go p e below s QQ room_1.cells room_1.slots (T170.setTop (mkF m 219 #[jv p0, .second, jv R1, .second, jv R2, .second, jv p3, .second, iv p4, iv pp, iv (oI fl), iv mb, iv dr, iv (oI rq), iv k0, iv ka, iv kb, iv k1, iv k2, rv b162, rv b166, rv b170, .unset, .unset, .unset, .unset, .unset, .unset] [(.ref b166), (.int (0 : Int32)), (.ref b170)]))
            refine gs (fun t => XS.iconst X170.here hx rfl (hb hby at_219)) ?_
            refine gs (fun t => ldJf X170 hx hZ e170 V_b166 (j := (0 : Int32)) (v := (.long p0)) (by decide) rfl (g := (mkF m 220 #[jv p0, .second, jv R1, .second, jv R2, .second, jv p3, .second, iv p4, iv pp, iv (oI fl), iv mb, iv dr, iv (oI rq), iv k0, iv ka, iv kb, iv k1, iv k2, rv b162, rv b166, rv b170, .unset, .unset, .unset, .unset, .unset, .unset] [(.int (0 : Int32)), (.ref b166), (.int (0 : Int32)), (.ref b170)])) rfl rfl (hb hby at_220) t) ?_
            obtain ⟨T237, h237, X237, e237, W237, V237, st237⟩ := stJf X170 hx hZ e170 V_b170 (j := (0 : Int32)) (by decide) (g := (mkF m 221 #[jv p0, .second, jv R1, .second, jv R2, .second, jv p3, .second, iv p4, iv pp, iv (oI fl), iv mb, iv dr, iv (oI rq), iv k0, iv ka, iv kb, iv k1, iv k2, rv b162, rv b166, rv b170, .unset, .unset, .unset, .unset, .unset, .unset] [(.long p0), (.int (0 : Int32)), (.ref b170)])) rfl rfl (hb hby at_221)
            replace N0 := Fr.snoc X237 N0 ge_b170
            refine gs st237 ?_
            show Go p e below s QQ room_1.cells room_1.slots (T237.setTop (mkF m 222 #[jv p0, .second, jv R1, .second, jv R2, .second, jv p3, .second, iv p4, iv pp, iv (oI fl), iv mb, iv dr, iv (oI rq), iv k0, iv ka, iv kb, iv k1, iv k2, rv b162, rv b166, rv b170, .unset, .unset, .unset, .unset, .unset, .unset] []))
            replace V_b162 := V_b162.other W237 ne_b162_b170
            replace V_b166 := V_b166.other W237 ne_b166_b170
            replace ZZ : n0 ≤ h237.size := by rw [W237.size]; exact ZZ
            replace V_b170 : Arf Z h237 b170 .long 3 (updv (fun _ => .long 0) 0 (.long p0)) := V237
            refine gs (fun t => XS.aload X237.here hx rfl (hb hby at_222) rfl rfl) ?_
            refine gs (fun t => XS.iconst X237.here hx rfl (hb hby at_224)) ?_
            refine gs (fun t => XS.iload X237.here hx rfl (hb hby at_225) rfl) ?_
            refine gs (fun t => XS.ifYes X237.here hx rfl (pc0 := 227) (pc' := 237) rfl (hb hby at_227) rfl ((if0 _ _).trans (feq (hz : ¬ ((oI fl) = (0 : Int32)))).2) (by decide) (by decide)) ?_
            refine gs (fun t => XS.aload X237.here hx rfl (hb hby at_237) rfl rfl) ?_
            refine gs (fun t => XS.iconst X237.here hx rfl (hb hby at_239)) ?_
            show Go p e below s QQ room_1.cells room_1.slots (T237.setTop (mkF m 240 #[jv p0, .second, jv R1, .second, jv R2, .second, jv p3, .second, iv p4, iv pp, iv (oI fl), iv mb, iv dr, iv (oI rq), iv k0, iv ka, iv kb, iv k1, iv k2, rv b162, rv b166, rv b170, .unset, .unset, .unset, .unset, .unset, .unset] [(.int (1 : Int32)), (.ref b166), (.int (1 : Int32)), (.ref b170)]))
            refine gs (fun t => ldJf X237 hx hZ e237 V_b166 (j := (1 : Int32)) (v := (.long R1)) (by decide) rfl (g := (mkF m 240 #[jv p0, .second, jv R1, .second, jv R2, .second, jv p3, .second, iv p4, iv pp, iv (oI fl), iv mb, iv dr, iv (oI rq), iv k0, iv ka, iv kb, iv k1, iv k2, rv b162, rv b166, rv b170, .unset, .unset, .unset, .unset, .unset, .unset] [(.int (1 : Int32)), (.ref b166), (.int (1 : Int32)), (.ref b170)])) rfl rfl (hb hby at_240) t) ?_
            obtain ⟨T238, h238, X238, e238, W238, V238, st238⟩ := stJf X237 hx hZ e237 V_b170 (j := (1 : Int32)) (by decide) (g := (mkF m 241 #[jv p0, .second, jv R1, .second, jv R2, .second, jv p3, .second, iv p4, iv pp, iv (oI fl), iv mb, iv dr, iv (oI rq), iv k0, iv ka, iv kb, iv k1, iv k2, rv b162, rv b166, rv b170, .unset, .unset, .unset, .unset, .unset, .unset] [(.long R1), (.int (1 : Int32)), (.ref b170)])) rfl rfl (hb hby at_241)
            replace N0 := Fr.snoc X238 N0 ge_b170
            refine gs st238 ?_
            show Go p e below s QQ room_1.cells room_1.slots (T238.setTop (mkF m 242 #[jv p0, .second, jv R1, .second, jv R2, .second, jv p3, .second, iv p4, iv pp, iv (oI fl), iv mb, iv dr, iv (oI rq), iv k0, iv ka, iv kb, iv k1, iv k2, rv b162, rv b166, rv b170, .unset, .unset, .unset, .unset, .unset, .unset] []))
            replace V_b162 := V_b162.other W238 ne_b162_b170
            replace V_b166 := V_b166.other W238 ne_b166_b170
            replace ZZ : n0 ≤ h238.size := by rw [W238.size]; exact ZZ
            replace V_b170 : Arf Z h238 b170 .long 3 (updv (updv (fun _ => .long 0) 0 (.long p0)) 1 (.long R1)) := V238
            refine gs (fun t => XS.aload X238.here hx rfl (hb hby at_242) rfl rfl) ?_
            refine gs (fun t => XS.iconst X238.here hx rfl (hb hby at_244)) ?_
            refine gs (fun t => XS.iload X238.here hx rfl (hb hby at_245) rfl) ?_
            refine gs (fun t => XS.ifYes X238.here hx rfl (pc0 := 247) (pc' := 257) rfl (hb hby at_247) rfl ((if0 _ _).trans (feq (hz : ¬ ((oI fl) = (0 : Int32)))).2) (by decide) (by decide)) ?_
            refine gs (fun t => XS.aload X238.here hx rfl (hb hby at_257) rfl rfl) ?_
            refine gs (fun t => XS.iconst X238.here hx rfl (hb hby at_259)) ?_
            show Go p e below s QQ room_1.cells room_1.slots (T238.setTop (mkF m 260 #[jv p0, .second, jv R1, .second, jv R2, .second, jv p3, .second, iv p4, iv pp, iv (oI fl), iv mb, iv dr, iv (oI rq), iv k0, iv ka, iv kb, iv k1, iv k2, rv b162, rv b166, rv b170, .unset, .unset, .unset, .unset, .unset, .unset] [(.int (2 : Int32)), (.ref b166), (.int (2 : Int32)), (.ref b170)]))
            refine gs (fun t => ldJf X238 hx hZ e238 V_b166 (j := (2 : Int32)) (v := (.long R2)) (by decide) rfl (g := (mkF m 260 #[jv p0, .second, jv R1, .second, jv R2, .second, jv p3, .second, iv p4, iv pp, iv (oI fl), iv mb, iv dr, iv (oI rq), iv k0, iv ka, iv kb, iv k1, iv k2, rv b162, rv b166, rv b170, .unset, .unset, .unset, .unset, .unset, .unset] [(.int (2 : Int32)), (.ref b166), (.int (2 : Int32)), (.ref b170)])) rfl rfl (hb hby at_260) t) ?_
            obtain ⟨T239, h239, X239, e239, W239, V239, st239⟩ := stJf X238 hx hZ e238 V_b170 (j := (2 : Int32)) (by decide) (g := (mkF m 261 #[jv p0, .second, jv R1, .second, jv R2, .second, jv p3, .second, iv p4, iv pp, iv (oI fl), iv mb, iv dr, iv (oI rq), iv k0, iv ka, iv kb, iv k1, iv k2, rv b162, rv b166, rv b170, .unset, .unset, .unset, .unset, .unset, .unset] [(.long R2), (.int (2 : Int32)), (.ref b170)])) rfl rfl (hb hby at_261)
            replace N0 := Fr.snoc X239 N0 ge_b170
            refine gs st239 ?_
            show Go p e below s QQ room_1.cells room_1.slots (T239.setTop (mkF m 262 #[jv p0, .second, jv R1, .second, jv R2, .second, jv p3, .second, iv p4, iv pp, iv (oI fl), iv mb, iv dr, iv (oI rq), iv k0, iv ka, iv kb, iv k1, iv k2, rv b162, rv b166, rv b170, .unset, .unset, .unset, .unset, .unset, .unset] []))
            replace V_b162 := V_b162.other W239 ne_b162_b170
            replace V_b166 := V_b166.other W239 ne_b166_b170
            replace ZZ : n0 ≤ h239.size := by rw [W239.size]; exact ZZ
            replace V_b170 : Arf Z h239 b170 .long 3 (updv (updv (updv (fun _ => .long 0) 0 (.long p0)) 1 (.long R1)) 2 (.long R2)) := V239
            replace V_b170 : Arf Z h239 b170 .long 3 (fun i => .long ((own_vv fl (own_q3 S0 S1 S2) (own_q3 p0 R1 R2)) i)) := V_b170.congr (fun i hi => by have q : ¬ fl = 0 := fun z => hz ((own_fl0 hfl).mpr z); rcases own_3c hi with rfl | rfl | rfl <;> simp [own_vv, own_q3, updv, q])
            exact kjv  _ _ _ (X239) N0 e239 ZZ V_b162 V_b166 V_b170 
        rcases hp6 with rfl | rfl | rfl | rfl | rfl | rfl
        · skip
          show Go p e below s QQ room_1.cells room_1.slots (s₁.setTop (mkF m 84 #[jv p0, .second, jv R1, .second, jv R2, .second, jv p3, .second, iv p4, iv 0, iv (oI fl), iv mb, iv dr, iv (oI rq), .unset, .unset, .unset, .unset, .unset, .unset, .unset, .unset, .unset, .unset, .unset, .unset, .unset, .unset] []))
          refine gs (fun t => XS.iload X0.here hx rfl (hb hby at_84) rfl) ?_
          refine gs (fun t => XS.iconst X0.here hx rfl (hb hby at_86)) ?_
          refine gs (fun t => XS.ishr X0.here hx rfl (hb hby at_87) rfl) ?_
          show Go p e below s QQ room_1.cells room_1.slots (s₁.setTop (mkF m 88 #[jv p0, .second, jv R1, .second, jv R2, .second, jv p3, .second, iv p4, iv 0, iv (oI fl), iv mb, iv dr, iv (oI rq), .unset, .unset, .unset, .unset, .unset, .unset, .unset, .unset, .unset, .unset, .unset, .unset, .unset, .unset] [(.int ((0 : Int32) >>> ((1 : Int32) &&& 31)))]))
          rw [show ((0 : Int32) >>> ((1 : Int32) &&& 31)) = (0 : Int32) from (by decide)]
          show Go p e below s QQ room_1.cells room_1.slots (s₁.setTop (mkF m 88 #[jv p0, .second, jv R1, .second, jv R2, .second, jv p3, .second, iv p4, iv 0, iv (oI fl), iv mb, iv dr, iv (oI rq), .unset, .unset, .unset, .unset, .unset, .unset, .unset, .unset, .unset, .unset, .unset, .unset, .unset, .unset] [(.int (0 : Int32))]))
          refine gs (fun t => XS.istore X0.here hx rfl (hb hby at_88) rfl (l' := #[jv p0, .second, jv R1, .second, jv R2, .second, jv p3, .second, iv p4, iv 0, iv (oI fl), iv mb, iv dr, iv (oI rq), iv 0, .unset, .unset, .unset, .unset, .unset, .unset, .unset, .unset, .unset, .unset, .unset, .unset, .unset]) rfl) ?_
          refine gs (fun t => XS.iload X0.here hx rfl (hb hby at_90) rfl) ?_
          refine gs (fun t => XS.ifNo X0.here hx rfl (hb hby at_92) rfl ((if0 _ _).trans (teq (by decide : (0 : Int32) = (0 : Int32))).2)) ?_
          refine gs (fun t => XS.iconst X0.here hx rfl (hb hby at_95)) ?_
          refine gs (fun t => XS.goto X0.here hx rfl (pc0 := 96) (pc' := 100) rfl (hb hby at_96) (by decide) (by decide)) ?_
          refine gs (fun t => XS.istore X0.here hx rfl (hb hby at_100) rfl (l' := #[jv p0, .second, jv R1, .second, jv R2, .second, jv p3, .second, iv p4, iv 0, iv (oI fl), iv mb, iv dr, iv (oI rq), iv 0, iv 1, .unset, .unset, .unset, .unset, .unset, .unset, .unset, .unset, .unset, .unset, .unset, .unset]) rfl) ?_
          show Go p e below s QQ room_1.cells room_1.slots (s₁.setTop (mkF m 102 #[jv p0, .second, jv R1, .second, jv R2, .second, jv p3, .second, iv p4, iv 0, iv (oI fl), iv mb, iv dr, iv (oI rq), iv 0, iv 1, .unset, .unset, .unset, .unset, .unset, .unset, .unset, .unset, .unset, .unset, .unset, .unset] []))
          refine gs (fun t => XS.iload X0.here hx rfl (hb hby at_102) rfl) ?_
          refine gs (fun t => XS.iconst X0.here hx rfl (hb hby at_104)) ?_
          refine gs (fun t => XS.icmpYes X0.here hx rfl (pc0 := 105) (pc' := 112) rfl (hb hby at_105) rfl (feq (by decide : ¬ ((0 : Int32) = (2 : Int32)))).2 (by decide) (by decide)) ?_
          refine gs (fun t => XS.iconst X0.here hx rfl (hb hby at_112)) ?_
          refine gs (fun t => XS.istore X0.here hx rfl (hb hby at_113) rfl (l' := #[jv p0, .second, jv R1, .second, jv R2, .second, jv p3, .second, iv p4, iv 0, iv (oI fl), iv mb, iv dr, iv (oI rq), iv 0, iv 1, iv 2, .unset, .unset, .unset, .unset, .unset, .unset, .unset, .unset, .unset, .unset, .unset]) rfl) ?_
          refine gs (fun t => XS.iload X0.here hx rfl (hb hby at_115) rfl) ?_
          show Go p e below s QQ room_1.cells room_1.slots (s₁.setTop (mkF m 117 #[jv p0, .second, jv R1, .second, jv R2, .second, jv p3, .second, iv p4, iv 0, iv (oI fl), iv mb, iv dr, iv (oI rq), iv 0, iv 1, iv 2, .unset, .unset, .unset, .unset, .unset, .unset, .unset, .unset, .unset, .unset, .unset] [(.int (0 : Int32))]))
          refine gs (fun t => XS.iconst X0.here hx rfl (hb hby at_117)) ?_
          refine gs (fun t => XS.iand X0.here hx rfl (hb hby at_118) rfl) ?_
          refine gs (fun t => XS.ifNo X0.here hx rfl (hb hby at_119) rfl ((if0 _ _).trans (teq (by decide : (0 : Int32) = (0 : Int32))).2)) ?_
          refine gs (fun t => XS.iload X0.here hx rfl (hb hby at_122) rfl) ?_
          refine gs (fun t => XS.goto X0.here hx rfl (pc0 := 124) (pc' := 129) rfl (hb hby at_124) (by decide) (by decide)) ?_
          refine gs (fun t => XS.istore X0.here hx rfl (hb hby at_129) rfl (l' := #[jv p0, .second, jv R1, .second, jv R2, .second, jv p3, .second, iv p4, iv 0, iv (oI fl), iv mb, iv dr, iv (oI rq), iv 0, iv 1, iv 2, iv 1, .unset, .unset, .unset, .unset, .unset, .unset, .unset, .unset, .unset, .unset]) rfl) ?_
          show Go p e below s QQ room_1.cells room_1.slots (s₁.setTop (mkF m 131 #[jv p0, .second, jv R1, .second, jv R2, .second, jv p3, .second, iv p4, iv 0, iv (oI fl), iv mb, iv dr, iv (oI rq), iv 0, iv 1, iv 2, iv 1, .unset, .unset, .unset, .unset, .unset, .unset, .unset, .unset, .unset, .unset] []))
          refine gs (fun t => XS.iload X0.here hx rfl (hb hby at_131) rfl) ?_
          refine gs (fun t => XS.iconst X0.here hx rfl (hb hby at_133)) ?_
          refine gs (fun t => XS.iand X0.here hx rfl (hb hby at_134) rfl) ?_
          refine gs (fun t => XS.ifNo X0.here hx rfl (hb hby at_135) rfl ((if0 _ _).trans (teq (by decide : (0 : Int32) = (0 : Int32))).2)) ?_
          refine gs (fun t => XS.iload X0.here hx rfl (hb hby at_138) rfl) ?_
          refine gs (fun t => XS.goto X0.here hx rfl (pc0 := 140) (pc' := 145) rfl (hb hby at_140) (by decide) (by decide)) ?_
          show Go p e below s QQ room_1.cells room_1.slots (s₁.setTop (mkF m 145 #[jv p0, .second, jv R1, .second, jv R2, .second, jv p3, .second, iv p4, iv 0, iv (oI fl), iv mb, iv dr, iv (oI rq), iv 0, iv 1, iv 2, iv 1, .unset, .unset, .unset, .unset, .unset, .unset, .unset, .unset, .unset, .unset] [(.int (2 : Int32))]))
          refine gs (fun t => XS.istore X0.here hx rfl (hb hby at_145) rfl (l' := #[jv p0, .second, jv R1, .second, jv R2, .second, jv p3, .second, iv p4, iv 0, iv (oI fl), iv mb, iv dr, iv (oI rq), iv 0, iv 1, iv 2, iv 1, iv 2, .unset, .unset, .unset, .unset, .unset, .unset, .unset, .unset, .unset]) rfl) ?_
          exact kp (0 : Int32) (1 : Int32) (2 : Int32) (1 : Int32) (2 : Int32) (by decide) (by decide) (by decide)
        · skip
          show Go p e below s QQ room_1.cells room_1.slots (s₁.setTop (mkF m 84 #[jv p0, .second, jv R1, .second, jv R2, .second, jv p3, .second, iv p4, iv 1, iv (oI fl), iv mb, iv dr, iv (oI rq), .unset, .unset, .unset, .unset, .unset, .unset, .unset, .unset, .unset, .unset, .unset, .unset, .unset, .unset] []))
          refine gs (fun t => XS.iload X0.here hx rfl (hb hby at_84) rfl) ?_
          refine gs (fun t => XS.iconst X0.here hx rfl (hb hby at_86)) ?_
          refine gs (fun t => XS.ishr X0.here hx rfl (hb hby at_87) rfl) ?_
          show Go p e below s QQ room_1.cells room_1.slots (s₁.setTop (mkF m 88 #[jv p0, .second, jv R1, .second, jv R2, .second, jv p3, .second, iv p4, iv 1, iv (oI fl), iv mb, iv dr, iv (oI rq), .unset, .unset, .unset, .unset, .unset, .unset, .unset, .unset, .unset, .unset, .unset, .unset, .unset, .unset] [(.int ((1 : Int32) >>> ((1 : Int32) &&& 31)))]))
          rw [show ((1 : Int32) >>> ((1 : Int32) &&& 31)) = (0 : Int32) from (by decide)]
          show Go p e below s QQ room_1.cells room_1.slots (s₁.setTop (mkF m 88 #[jv p0, .second, jv R1, .second, jv R2, .second, jv p3, .second, iv p4, iv 1, iv (oI fl), iv mb, iv dr, iv (oI rq), .unset, .unset, .unset, .unset, .unset, .unset, .unset, .unset, .unset, .unset, .unset, .unset, .unset, .unset] [(.int (0 : Int32))]))
          refine gs (fun t => XS.istore X0.here hx rfl (hb hby at_88) rfl (l' := #[jv p0, .second, jv R1, .second, jv R2, .second, jv p3, .second, iv p4, iv 1, iv (oI fl), iv mb, iv dr, iv (oI rq), iv 0, .unset, .unset, .unset, .unset, .unset, .unset, .unset, .unset, .unset, .unset, .unset, .unset, .unset]) rfl) ?_
          refine gs (fun t => XS.iload X0.here hx rfl (hb hby at_90) rfl) ?_
          refine gs (fun t => XS.ifNo X0.here hx rfl (hb hby at_92) rfl ((if0 _ _).trans (teq (by decide : (0 : Int32) = (0 : Int32))).2)) ?_
          refine gs (fun t => XS.iconst X0.here hx rfl (hb hby at_95)) ?_
          refine gs (fun t => XS.goto X0.here hx rfl (pc0 := 96) (pc' := 100) rfl (hb hby at_96) (by decide) (by decide)) ?_
          refine gs (fun t => XS.istore X0.here hx rfl (hb hby at_100) rfl (l' := #[jv p0, .second, jv R1, .second, jv R2, .second, jv p3, .second, iv p4, iv 1, iv (oI fl), iv mb, iv dr, iv (oI rq), iv 0, iv 1, .unset, .unset, .unset, .unset, .unset, .unset, .unset, .unset, .unset, .unset, .unset, .unset]) rfl) ?_
          show Go p e below s QQ room_1.cells room_1.slots (s₁.setTop (mkF m 102 #[jv p0, .second, jv R1, .second, jv R2, .second, jv p3, .second, iv p4, iv 1, iv (oI fl), iv mb, iv dr, iv (oI rq), iv 0, iv 1, .unset, .unset, .unset, .unset, .unset, .unset, .unset, .unset, .unset, .unset, .unset, .unset] []))
          refine gs (fun t => XS.iload X0.here hx rfl (hb hby at_102) rfl) ?_
          refine gs (fun t => XS.iconst X0.here hx rfl (hb hby at_104)) ?_
          refine gs (fun t => XS.icmpYes X0.here hx rfl (pc0 := 105) (pc' := 112) rfl (hb hby at_105) rfl (feq (by decide : ¬ ((0 : Int32) = (2 : Int32)))).2 (by decide) (by decide)) ?_
          refine gs (fun t => XS.iconst X0.here hx rfl (hb hby at_112)) ?_
          refine gs (fun t => XS.istore X0.here hx rfl (hb hby at_113) rfl (l' := #[jv p0, .second, jv R1, .second, jv R2, .second, jv p3, .second, iv p4, iv 1, iv (oI fl), iv mb, iv dr, iv (oI rq), iv 0, iv 1, iv 2, .unset, .unset, .unset, .unset, .unset, .unset, .unset, .unset, .unset, .unset, .unset]) rfl) ?_
          refine gs (fun t => XS.iload X0.here hx rfl (hb hby at_115) rfl) ?_
          show Go p e below s QQ room_1.cells room_1.slots (s₁.setTop (mkF m 117 #[jv p0, .second, jv R1, .second, jv R2, .second, jv p3, .second, iv p4, iv 1, iv (oI fl), iv mb, iv dr, iv (oI rq), iv 0, iv 1, iv 2, .unset, .unset, .unset, .unset, .unset, .unset, .unset, .unset, .unset, .unset, .unset] [(.int (1 : Int32))]))
          refine gs (fun t => XS.iconst X0.here hx rfl (hb hby at_117)) ?_
          refine gs (fun t => XS.iand X0.here hx rfl (hb hby at_118) rfl) ?_
          refine gs (fun t => XS.ifYes X0.here hx rfl (pc0 := 119) (pc' := 127) rfl (hb hby at_119) rfl ((if0 _ _).trans (feq (by decide : ¬ ((1 : Int32) = (0 : Int32)))).2) (by decide) (by decide)) ?_
          refine gs (fun t => XS.iload X0.here hx rfl (hb hby at_127) rfl) ?_
          refine gs (fun t => XS.istore X0.here hx rfl (hb hby at_129) rfl (l' := #[jv p0, .second, jv R1, .second, jv R2, .second, jv p3, .second, iv p4, iv 1, iv (oI fl), iv mb, iv dr, iv (oI rq), iv 0, iv 1, iv 2, iv 2, .unset, .unset, .unset, .unset, .unset, .unset, .unset, .unset, .unset, .unset]) rfl) ?_
          refine gs (fun t => XS.iload X0.here hx rfl (hb hby at_131) rfl) ?_
          show Go p e below s QQ room_1.cells room_1.slots (s₁.setTop (mkF m 133 #[jv p0, .second, jv R1, .second, jv R2, .second, jv p3, .second, iv p4, iv 1, iv (oI fl), iv mb, iv dr, iv (oI rq), iv 0, iv 1, iv 2, iv 2, .unset, .unset, .unset, .unset, .unset, .unset, .unset, .unset, .unset, .unset] [(.int (1 : Int32))]))
          refine gs (fun t => XS.iconst X0.here hx rfl (hb hby at_133)) ?_
          refine gs (fun t => XS.iand X0.here hx rfl (hb hby at_134) rfl) ?_
          refine gs (fun t => XS.ifYes X0.here hx rfl (pc0 := 135) (pc' := 143) rfl (hb hby at_135) rfl ((if0 _ _).trans (feq (by decide : ¬ ((1 : Int32) = (0 : Int32)))).2) (by decide) (by decide)) ?_
          refine gs (fun t => XS.iload X0.here hx rfl (hb hby at_143) rfl) ?_
          refine gs (fun t => XS.istore X0.here hx rfl (hb hby at_145) rfl (l' := #[jv p0, .second, jv R1, .second, jv R2, .second, jv p3, .second, iv p4, iv 1, iv (oI fl), iv mb, iv dr, iv (oI rq), iv 0, iv 1, iv 2, iv 2, iv 1, .unset, .unset, .unset, .unset, .unset, .unset, .unset, .unset, .unset]) rfl) ?_
          exact kp (0 : Int32) (1 : Int32) (2 : Int32) (2 : Int32) (1 : Int32) (by decide) (by decide) (by decide)
        · skip
          show Go p e below s QQ room_1.cells room_1.slots (s₁.setTop (mkF m 84 #[jv p0, .second, jv R1, .second, jv R2, .second, jv p3, .second, iv p4, iv 2, iv (oI fl), iv mb, iv dr, iv (oI rq), .unset, .unset, .unset, .unset, .unset, .unset, .unset, .unset, .unset, .unset, .unset, .unset, .unset, .unset] []))
          refine gs (fun t => XS.iload X0.here hx rfl (hb hby at_84) rfl) ?_
          refine gs (fun t => XS.iconst X0.here hx rfl (hb hby at_86)) ?_
          refine gs (fun t => XS.ishr X0.here hx rfl (hb hby at_87) rfl) ?_
          show Go p e below s QQ room_1.cells room_1.slots (s₁.setTop (mkF m 88 #[jv p0, .second, jv R1, .second, jv R2, .second, jv p3, .second, iv p4, iv 2, iv (oI fl), iv mb, iv dr, iv (oI rq), .unset, .unset, .unset, .unset, .unset, .unset, .unset, .unset, .unset, .unset, .unset, .unset, .unset, .unset] [(.int ((2 : Int32) >>> ((1 : Int32) &&& 31)))]))
          rw [show ((2 : Int32) >>> ((1 : Int32) &&& 31)) = (1 : Int32) from (by decide)]
          show Go p e below s QQ room_1.cells room_1.slots (s₁.setTop (mkF m 88 #[jv p0, .second, jv R1, .second, jv R2, .second, jv p3, .second, iv p4, iv 2, iv (oI fl), iv mb, iv dr, iv (oI rq), .unset, .unset, .unset, .unset, .unset, .unset, .unset, .unset, .unset, .unset, .unset, .unset, .unset, .unset] [(.int (1 : Int32))]))
          refine gs (fun t => XS.istore X0.here hx rfl (hb hby at_88) rfl (l' := #[jv p0, .second, jv R1, .second, jv R2, .second, jv p3, .second, iv p4, iv 2, iv (oI fl), iv mb, iv dr, iv (oI rq), iv 1, .unset, .unset, .unset, .unset, .unset, .unset, .unset, .unset, .unset, .unset, .unset, .unset, .unset]) rfl) ?_
          refine gs (fun t => XS.iload X0.here hx rfl (hb hby at_90) rfl) ?_
          refine gs (fun t => XS.ifYes X0.here hx rfl (pc0 := 92) (pc' := 99) rfl (hb hby at_92) rfl ((if0 _ _).trans (feq (by decide : ¬ ((1 : Int32) = (0 : Int32)))).2) (by decide) (by decide)) ?_
          refine gs (fun t => XS.iconst X0.here hx rfl (hb hby at_99)) ?_
          refine gs (fun t => XS.istore X0.here hx rfl (hb hby at_100) rfl (l' := #[jv p0, .second, jv R1, .second, jv R2, .second, jv p3, .second, iv p4, iv 2, iv (oI fl), iv mb, iv dr, iv (oI rq), iv 1, iv 0, .unset, .unset, .unset, .unset, .unset, .unset, .unset, .unset, .unset, .unset, .unset, .unset]) rfl) ?_
          refine gs (fun t => XS.iload X0.here hx rfl (hb hby at_102) rfl) ?_
          show Go p e below s QQ room_1.cells room_1.slots (s₁.setTop (mkF m 104 #[jv p0, .second, jv R1, .second, jv R2, .second, jv p3, .second, iv p4, iv 2, iv (oI fl), iv mb, iv dr, iv (oI rq), iv 1, iv 0, .unset, .unset, .unset, .unset, .unset, .unset, .unset, .unset, .unset, .unset, .unset, .unset] [(.int (1 : Int32))]))
          refine gs (fun t => XS.iconst X0.here hx rfl (hb hby at_104)) ?_
          refine gs (fun t => XS.icmpYes X0.here hx rfl (pc0 := 105) (pc' := 112) rfl (hb hby at_105) rfl (feq (by decide : ¬ ((1 : Int32) = (2 : Int32)))).2 (by decide) (by decide)) ?_
          refine gs (fun t => XS.iconst X0.here hx rfl (hb hby at_112)) ?_
          refine gs (fun t => XS.istore X0.here hx rfl (hb hby at_113) rfl (l' := #[jv p0, .second, jv R1, .second, jv R2, .second, jv p3, .second, iv p4, iv 2, iv (oI fl), iv mb, iv dr, iv (oI rq), iv 1, iv 0, iv 2, .unset, .unset, .unset, .unset, .unset, .unset, .unset, .unset, .unset, .unset, .unset]) rfl) ?_
          refine gs (fun t => XS.iload X0.here hx rfl (hb hby at_115) rfl) ?_
          refine gs (fun t => XS.iconst X0.here hx rfl (hb hby at_117)) ?_
          show Go p e below s QQ room_1.cells room_1.slots (s₁.setTop (mkF m 118 #[jv p0, .second, jv R1, .second, jv R2, .second, jv p3, .second, iv p4, iv 2, iv (oI fl), iv mb, iv dr, iv (oI rq), iv 1, iv 0, iv 2, .unset, .unset, .unset, .unset, .unset, .unset, .unset, .unset, .unset, .unset, .unset] [(.int (1 : Int32)), (.int (2 : Int32))]))
          refine gs (fun t => XS.iand X0.here hx rfl (hb hby at_118) rfl) ?_
          refine gs (fun t => XS.ifNo X0.here hx rfl (hb hby at_119) rfl ((if0 _ _).trans (teq (by decide : (0 : Int32) = (0 : Int32))).2)) ?_
          refine gs (fun t => XS.iload X0.here hx rfl (hb hby at_122) rfl) ?_
          refine gs (fun t => XS.goto X0.here hx rfl (pc0 := 124) (pc' := 129) rfl (hb hby at_124) (by decide) (by decide)) ?_
          refine gs (fun t => XS.istore X0.here hx rfl (hb hby at_129) rfl (l' := #[jv p0, .second, jv R1, .second, jv R2, .second, jv p3, .second, iv p4, iv 2, iv (oI fl), iv mb, iv dr, iv (oI rq), iv 1, iv 0, iv 2, iv 0, .unset, .unset, .unset, .unset, .unset, .unset, .unset, .unset, .unset, .unset]) rfl) ?_
          refine gs (fun t => XS.iload X0.here hx rfl (hb hby at_131) rfl) ?_
          show Go p e below s QQ room_1.cells room_1.slots (s₁.setTop (mkF m 133 #[jv p0, .second, jv R1, .second, jv R2, .second, jv p3, .second, iv p4, iv 2, iv (oI fl), iv mb, iv dr, iv (oI rq), iv 1, iv 0, iv 2, iv 0, .unset, .unset, .unset, .unset, .unset, .unset, .unset, .unset, .unset, .unset] [(.int (2 : Int32))]))
          refine gs (fun t => XS.iconst X0.here hx rfl (hb hby at_133)) ?_
          refine gs (fun t => XS.iand X0.here hx rfl (hb hby at_134) rfl) ?_
          refine gs (fun t => XS.ifNo X0.here hx rfl (hb hby at_135) rfl ((if0 _ _).trans (teq (by decide : (0 : Int32) = (0 : Int32))).2)) ?_
          refine gs (fun t => XS.iload X0.here hx rfl (hb hby at_138) rfl) ?_
          refine gs (fun t => XS.goto X0.here hx rfl (pc0 := 140) (pc' := 145) rfl (hb hby at_140) (by decide) (by decide)) ?_
          refine gs (fun t => XS.istore X0.here hx rfl (hb hby at_145) rfl (l' := #[jv p0, .second, jv R1, .second, jv R2, .second, jv p3, .second, iv p4, iv 2, iv (oI fl), iv mb, iv dr, iv (oI rq), iv 1, iv 0, iv 2, iv 0, iv 2, .unset, .unset, .unset, .unset, .unset, .unset, .unset, .unset, .unset]) rfl) ?_
          show Go p e below s QQ room_1.cells room_1.slots (s₁.setTop (mkF m 147 #[jv p0, .second, jv R1, .second, jv R2, .second, jv p3, .second, iv p4, iv 2, iv (oI fl), iv mb, iv dr, iv (oI rq), iv 1, iv 0, iv 2, iv 0, iv 2, .unset, .unset, .unset, .unset, .unset, .unset, .unset, .unset, .unset] []))
          exact kp (1 : Int32) (0 : Int32) (2 : Int32) (0 : Int32) (2 : Int32) (by decide) (by decide) (by decide)
        · skip
          show Go p e below s QQ room_1.cells room_1.slots (s₁.setTop (mkF m 84 #[jv p0, .second, jv R1, .second, jv R2, .second, jv p3, .second, iv p4, iv 3, iv (oI fl), iv mb, iv dr, iv (oI rq), .unset, .unset, .unset, .unset, .unset, .unset, .unset, .unset, .unset, .unset, .unset, .unset, .unset, .unset] []))
          refine gs (fun t => XS.iload X0.here hx rfl (hb hby at_84) rfl) ?_
          refine gs (fun t => XS.iconst X0.here hx rfl (hb hby at_86)) ?_
          refine gs (fun t => XS.ishr X0.here hx rfl (hb hby at_87) rfl) ?_
          show Go p e below s QQ room_1.cells room_1.slots (s₁.setTop (mkF m 88 #[jv p0, .second, jv R1, .second, jv R2, .second, jv p3, .second, iv p4, iv 3, iv (oI fl), iv mb, iv dr, iv (oI rq), .unset, .unset, .unset, .unset, .unset, .unset, .unset, .unset, .unset, .unset, .unset, .unset, .unset, .unset] [(.int ((3 : Int32) >>> ((1 : Int32) &&& 31)))]))
          rw [show ((3 : Int32) >>> ((1 : Int32) &&& 31)) = (1 : Int32) from (by decide)]
          show Go p e below s QQ room_1.cells room_1.slots (s₁.setTop (mkF m 88 #[jv p0, .second, jv R1, .second, jv R2, .second, jv p3, .second, iv p4, iv 3, iv (oI fl), iv mb, iv dr, iv (oI rq), .unset, .unset, .unset, .unset, .unset, .unset, .unset, .unset, .unset, .unset, .unset, .unset, .unset, .unset] [(.int (1 : Int32))]))
          refine gs (fun t => XS.istore X0.here hx rfl (hb hby at_88) rfl (l' := #[jv p0, .second, jv R1, .second, jv R2, .second, jv p3, .second, iv p4, iv 3, iv (oI fl), iv mb, iv dr, iv (oI rq), iv 1, .unset, .unset, .unset, .unset, .unset, .unset, .unset, .unset, .unset, .unset, .unset, .unset, .unset]) rfl) ?_
          refine gs (fun t => XS.iload X0.here hx rfl (hb hby at_90) rfl) ?_
          refine gs (fun t => XS.ifYes X0.here hx rfl (pc0 := 92) (pc' := 99) rfl (hb hby at_92) rfl ((if0 _ _).trans (feq (by decide : ¬ ((1 : Int32) = (0 : Int32)))).2) (by decide) (by decide)) ?_
          refine gs (fun t => XS.iconst X0.here hx rfl (hb hby at_99)) ?_
          refine gs (fun t => XS.istore X0.here hx rfl (hb hby at_100) rfl (l' := #[jv p0, .second, jv R1, .second, jv R2, .second, jv p3, .second, iv p4, iv 3, iv (oI fl), iv mb, iv dr, iv (oI rq), iv 1, iv 0, .unset, .unset, .unset, .unset, .unset, .unset, .unset, .unset, .unset, .unset, .unset, .unset]) rfl) ?_
          refine gs (fun t => XS.iload X0.here hx rfl (hb hby at_102) rfl) ?_
          show Go p e below s QQ room_1.cells room_1.slots (s₁.setTop (mkF m 104 #[jv p0, .second, jv R1, .second, jv R2, .second, jv p3, .second, iv p4, iv 3, iv (oI fl), iv mb, iv dr, iv (oI rq), iv 1, iv 0, .unset, .unset, .unset, .unset, .unset, .unset, .unset, .unset, .unset, .unset, .unset, .unset] [(.int (1 : Int32))]))
          refine gs (fun t => XS.iconst X0.here hx rfl (hb hby at_104)) ?_
          refine gs (fun t => XS.icmpYes X0.here hx rfl (pc0 := 105) (pc' := 112) rfl (hb hby at_105) rfl (feq (by decide : ¬ ((1 : Int32) = (2 : Int32)))).2 (by decide) (by decide)) ?_
          refine gs (fun t => XS.iconst X0.here hx rfl (hb hby at_112)) ?_
          refine gs (fun t => XS.istore X0.here hx rfl (hb hby at_113) rfl (l' := #[jv p0, .second, jv R1, .second, jv R2, .second, jv p3, .second, iv p4, iv 3, iv (oI fl), iv mb, iv dr, iv (oI rq), iv 1, iv 0, iv 2, .unset, .unset, .unset, .unset, .unset, .unset, .unset, .unset, .unset, .unset, .unset]) rfl) ?_
          refine gs (fun t => XS.iload X0.here hx rfl (hb hby at_115) rfl) ?_
          refine gs (fun t => XS.iconst X0.here hx rfl (hb hby at_117)) ?_
          show Go p e below s QQ room_1.cells room_1.slots (s₁.setTop (mkF m 118 #[jv p0, .second, jv R1, .second, jv R2, .second, jv p3, .second, iv p4, iv 3, iv (oI fl), iv mb, iv dr, iv (oI rq), iv 1, iv 0, iv 2, .unset, .unset, .unset, .unset, .unset, .unset, .unset, .unset, .unset, .unset, .unset] [(.int (1 : Int32)), (.int (3 : Int32))]))
          refine gs (fun t => XS.iand X0.here hx rfl (hb hby at_118) rfl) ?_
          refine gs (fun t => XS.ifYes X0.here hx rfl (pc0 := 119) (pc' := 127) rfl (hb hby at_119) rfl ((if0 _ _).trans (feq (by decide : ¬ ((1 : Int32) = (0 : Int32)))).2) (by decide) (by decide)) ?_
          refine gs (fun t => XS.iload X0.here hx rfl (hb hby at_127) rfl) ?_
          refine gs (fun t => XS.istore X0.here hx rfl (hb hby at_129) rfl (l' := #[jv p0, .second, jv R1, .second, jv R2, .second, jv p3, .second, iv p4, iv 3, iv (oI fl), iv mb, iv dr, iv (oI rq), iv 1, iv 0, iv 2, iv 2, .unset, .unset, .unset, .unset, .unset, .unset, .unset, .unset, .unset, .unset]) rfl) ?_
          refine gs (fun t => XS.iload X0.here hx rfl (hb hby at_131) rfl) ?_
          refine gs (fun t => XS.iconst X0.here hx rfl (hb hby at_133)) ?_
          show Go p e below s QQ room_1.cells room_1.slots (s₁.setTop (mkF m 134 #[jv p0, .second, jv R1, .second, jv R2, .second, jv p3, .second, iv p4, iv 3, iv (oI fl), iv mb, iv dr, iv (oI rq), iv 1, iv 0, iv 2, iv 2, .unset, .unset, .unset, .unset, .unset, .unset, .unset, .unset, .unset, .unset] [(.int (1 : Int32)), (.int (3 : Int32))]))
          refine gs (fun t => XS.iand X0.here hx rfl (hb hby at_134) rfl) ?_
          refine gs (fun t => XS.ifYes X0.here hx rfl (pc0 := 135) (pc' := 143) rfl (hb hby at_135) rfl ((if0 _ _).trans (feq (by decide : ¬ ((1 : Int32) = (0 : Int32)))).2) (by decide) (by decide)) ?_
          refine gs (fun t => XS.iload X0.here hx rfl (hb hby at_143) rfl) ?_
          refine gs (fun t => XS.istore X0.here hx rfl (hb hby at_145) rfl (l' := #[jv p0, .second, jv R1, .second, jv R2, .second, jv p3, .second, iv p4, iv 3, iv (oI fl), iv mb, iv dr, iv (oI rq), iv 1, iv 0, iv 2, iv 2, iv 0, .unset, .unset, .unset, .unset, .unset, .unset, .unset, .unset, .unset]) rfl) ?_
          exact kp (1 : Int32) (0 : Int32) (2 : Int32) (2 : Int32) (0 : Int32) (by decide) (by decide) (by decide)
        · skip
          show Go p e below s QQ room_1.cells room_1.slots (s₁.setTop (mkF m 84 #[jv p0, .second, jv R1, .second, jv R2, .second, jv p3, .second, iv p4, iv 4, iv (oI fl), iv mb, iv dr, iv (oI rq), .unset, .unset, .unset, .unset, .unset, .unset, .unset, .unset, .unset, .unset, .unset, .unset, .unset, .unset] []))
          refine gs (fun t => XS.iload X0.here hx rfl (hb hby at_84) rfl) ?_
          refine gs (fun t => XS.iconst X0.here hx rfl (hb hby at_86)) ?_
          refine gs (fun t => XS.ishr X0.here hx rfl (hb hby at_87) rfl) ?_
          show Go p e below s QQ room_1.cells room_1.slots (s₁.setTop (mkF m 88 #[jv p0, .second, jv R1, .second, jv R2, .second, jv p3, .second, iv p4, iv 4, iv (oI fl), iv mb, iv dr, iv (oI rq), .unset, .unset, .unset, .unset, .unset, .unset, .unset, .unset, .unset, .unset, .unset, .unset, .unset, .unset] [(.int ((4 : Int32) >>> ((1 : Int32) &&& 31)))]))
          rw [show ((4 : Int32) >>> ((1 : Int32) &&& 31)) = (2 : Int32) from (by decide)]
          show Go p e below s QQ room_1.cells room_1.slots (s₁.setTop (mkF m 88 #[jv p0, .second, jv R1, .second, jv R2, .second, jv p3, .second, iv p4, iv 4, iv (oI fl), iv mb, iv dr, iv (oI rq), .unset, .unset, .unset, .unset, .unset, .unset, .unset, .unset, .unset, .unset, .unset, .unset, .unset, .unset] [(.int (2 : Int32))]))
          refine gs (fun t => XS.istore X0.here hx rfl (hb hby at_88) rfl (l' := #[jv p0, .second, jv R1, .second, jv R2, .second, jv p3, .second, iv p4, iv 4, iv (oI fl), iv mb, iv dr, iv (oI rq), iv 2, .unset, .unset, .unset, .unset, .unset, .unset, .unset, .unset, .unset, .unset, .unset, .unset, .unset]) rfl) ?_
          refine gs (fun t => XS.iload X0.here hx rfl (hb hby at_90) rfl) ?_
          refine gs (fun t => XS.ifYes X0.here hx rfl (pc0 := 92) (pc' := 99) rfl (hb hby at_92) rfl ((if0 _ _).trans (feq (by decide : ¬ ((2 : Int32) = (0 : Int32)))).2) (by decide) (by decide)) ?_
          refine gs (fun t => XS.iconst X0.here hx rfl (hb hby at_99)) ?_
          refine gs (fun t => XS.istore X0.here hx rfl (hb hby at_100) rfl (l' := #[jv p0, .second, jv R1, .second, jv R2, .second, jv p3, .second, iv p4, iv 4, iv (oI fl), iv mb, iv dr, iv (oI rq), iv 2, iv 0, .unset, .unset, .unset, .unset, .unset, .unset, .unset, .unset, .unset, .unset, .unset, .unset]) rfl) ?_
          refine gs (fun t => XS.iload X0.here hx rfl (hb hby at_102) rfl) ?_
          show Go p e below s QQ room_1.cells room_1.slots (s₁.setTop (mkF m 104 #[jv p0, .second, jv R1, .second, jv R2, .second, jv p3, .second, iv p4, iv 4, iv (oI fl), iv mb, iv dr, iv (oI rq), iv 2, iv 0, .unset, .unset, .unset, .unset, .unset, .unset, .unset, .unset, .unset, .unset, .unset, .unset] [(.int (2 : Int32))]))
          refine gs (fun t => XS.iconst X0.here hx rfl (hb hby at_104)) ?_
          refine gs (fun t => XS.icmpNo X0.here hx rfl (hb hby at_105) rfl (teq (by decide : (2 : Int32) = (2 : Int32))).2) ?_
          refine gs (fun t => XS.iconst X0.here hx rfl (hb hby at_108)) ?_
          refine gs (fun t => XS.goto X0.here hx rfl (pc0 := 109) (pc' := 113) rfl (hb hby at_109) (by decide) (by decide)) ?_
          refine gs (fun t => XS.istore X0.here hx rfl (hb hby at_113) rfl (l' := #[jv p0, .second, jv R1, .second, jv R2, .second, jv p3, .second, iv p4, iv 4, iv (oI fl), iv mb, iv dr, iv (oI rq), iv 2, iv 0, iv 1, .unset, .unset, .unset, .unset, .unset, .unset, .unset, .unset, .unset, .unset, .unset]) rfl) ?_
          refine gs (fun t => XS.iload X0.here hx rfl (hb hby at_115) rfl) ?_
          show Go p e below s QQ room_1.cells room_1.slots (s₁.setTop (mkF m 117 #[jv p0, .second, jv R1, .second, jv R2, .second, jv p3, .second, iv p4, iv 4, iv (oI fl), iv mb, iv dr, iv (oI rq), iv 2, iv 0, iv 1, .unset, .unset, .unset, .unset, .unset, .unset, .unset, .unset, .unset, .unset, .unset] [(.int (4 : Int32))]))
          refine gs (fun t => XS.iconst X0.here hx rfl (hb hby at_117)) ?_
          refine gs (fun t => XS.iand X0.here hx rfl (hb hby at_118) rfl) ?_
          refine gs (fun t => XS.ifNo X0.here hx rfl (hb hby at_119) rfl ((if0 _ _).trans (teq (by decide : (0 : Int32) = (0 : Int32))).2)) ?_
          refine gs (fun t => XS.iload X0.here hx rfl (hb hby at_122) rfl) ?_
          refine gs (fun t => XS.goto X0.here hx rfl (pc0 := 124) (pc' := 129) rfl (hb hby at_124) (by decide) (by decide)) ?_
          refine gs (fun t => XS.istore X0.here hx rfl (hb hby at_129) rfl (l' := #[jv p0, .second, jv R1, .second, jv R2, .second, jv p3, .second, iv p4, iv 4, iv (oI fl), iv mb, iv dr, iv (oI rq), iv 2, iv 0, iv 1, iv 0, .unset, .unset, .unset, .unset, .unset, .unset, .unset, .unset, .unset, .unset]) rfl) ?_
          show Go p e below s QQ room_1.cells room_1.slots (s₁.setTop (mkF m 131 #[jv p0, .second, jv R1, .second, jv R2, .second, jv p3, .second, iv p4, iv 4, iv (oI fl), iv mb, iv dr, iv (oI rq), iv 2, iv 0, iv 1, iv 0, .unset, .unset, .unset, .unset, .unset, .unset, .unset, .unset, .unset, .unset] []))
          refine gs (fun t => XS.iload X0.here hx rfl (hb hby at_131) rfl) ?_
          refine gs (fun t => XS.iconst X0.here hx rfl (hb hby at_133)) ?_
          refine gs (fun t => XS.iand X0.here hx rfl (hb hby at_134) rfl) ?_
          refine gs (fun t => XS.ifNo X0.here hx rfl (hb hby at_135) rfl ((if0 _ _).trans (teq (by decide : (0 : Int32) = (0 : Int32))).2)) ?_
          refine gs (fun t => XS.iload X0.here hx rfl (hb hby at_138) rfl) ?_
          refine gs (fun t => XS.goto X0.here hx rfl (pc0 := 140) (pc' := 145) rfl (hb hby at_140) (by decide) (by decide)) ?_
          show Go p e below s QQ room_1.cells room_1.slots (s₁.setTop (mkF m 145 #[jv p0, .second, jv R1, .second, jv R2, .second, jv p3, .second, iv p4, iv 4, iv (oI fl), iv mb, iv dr, iv (oI rq), iv 2, iv 0, iv 1, iv 0, .unset, .unset, .unset, .unset, .unset, .unset, .unset, .unset, .unset, .unset] [(.int (1 : Int32))]))
          refine gs (fun t => XS.istore X0.here hx rfl (hb hby at_145) rfl (l' := #[jv p0, .second, jv R1, .second, jv R2, .second, jv p3, .second, iv p4, iv 4, iv (oI fl), iv mb, iv dr, iv (oI rq), iv 2, iv 0, iv 1, iv 0, iv 1, .unset, .unset, .unset, .unset, .unset, .unset, .unset, .unset, .unset]) rfl) ?_
          exact kp (2 : Int32) (0 : Int32) (1 : Int32) (0 : Int32) (1 : Int32) (by decide) (by decide) (by decide)
        · skip
          show Go p e below s QQ room_1.cells room_1.slots (s₁.setTop (mkF m 84 #[jv p0, .second, jv R1, .second, jv R2, .second, jv p3, .second, iv p4, iv 5, iv (oI fl), iv mb, iv dr, iv (oI rq), .unset, .unset, .unset, .unset, .unset, .unset, .unset, .unset, .unset, .unset, .unset, .unset, .unset, .unset] []))
          refine gs (fun t => XS.iload X0.here hx rfl (hb hby at_84) rfl) ?_
          refine gs (fun t => XS.iconst X0.here hx rfl (hb hby at_86)) ?_
          refine gs (fun t => XS.ishr X0.here hx rfl (hb hby at_87) rfl) ?_
          show Go p e below s QQ room_1.cells room_1.slots (s₁.setTop (mkF m 88 #[jv p0, .second, jv R1, .second, jv R2, .second, jv p3, .second, iv p4, iv 5, iv (oI fl), iv mb, iv dr, iv (oI rq), .unset, .unset, .unset, .unset, .unset, .unset, .unset, .unset, .unset, .unset, .unset, .unset, .unset, .unset] [(.int ((5 : Int32) >>> ((1 : Int32) &&& 31)))]))
          rw [show ((5 : Int32) >>> ((1 : Int32) &&& 31)) = (2 : Int32) from (by decide)]
          show Go p e below s QQ room_1.cells room_1.slots (s₁.setTop (mkF m 88 #[jv p0, .second, jv R1, .second, jv R2, .second, jv p3, .second, iv p4, iv 5, iv (oI fl), iv mb, iv dr, iv (oI rq), .unset, .unset, .unset, .unset, .unset, .unset, .unset, .unset, .unset, .unset, .unset, .unset, .unset, .unset] [(.int (2 : Int32))]))
          refine gs (fun t => XS.istore X0.here hx rfl (hb hby at_88) rfl (l' := #[jv p0, .second, jv R1, .second, jv R2, .second, jv p3, .second, iv p4, iv 5, iv (oI fl), iv mb, iv dr, iv (oI rq), iv 2, .unset, .unset, .unset, .unset, .unset, .unset, .unset, .unset, .unset, .unset, .unset, .unset, .unset]) rfl) ?_
          refine gs (fun t => XS.iload X0.here hx rfl (hb hby at_90) rfl) ?_
          refine gs (fun t => XS.ifYes X0.here hx rfl (pc0 := 92) (pc' := 99) rfl (hb hby at_92) rfl ((if0 _ _).trans (feq (by decide : ¬ ((2 : Int32) = (0 : Int32)))).2) (by decide) (by decide)) ?_
          refine gs (fun t => XS.iconst X0.here hx rfl (hb hby at_99)) ?_
          refine gs (fun t => XS.istore X0.here hx rfl (hb hby at_100) rfl (l' := #[jv p0, .second, jv R1, .second, jv R2, .second, jv p3, .second, iv p4, iv 5, iv (oI fl), iv mb, iv dr, iv (oI rq), iv 2, iv 0, .unset, .unset, .unset, .unset, .unset, .unset, .unset, .unset, .unset, .unset, .unset, .unset]) rfl) ?_
          refine gs (fun t => XS.iload X0.here hx rfl (hb hby at_102) rfl) ?_
          show Go p e below s QQ room_1.cells room_1.slots (s₁.setTop (mkF m 104 #[jv p0, .second, jv R1, .second, jv R2, .second, jv p3, .second, iv p4, iv 5, iv (oI fl), iv mb, iv dr, iv (oI rq), iv 2, iv 0, .unset, .unset, .unset, .unset, .unset, .unset, .unset, .unset, .unset, .unset, .unset, .unset] [(.int (2 : Int32))]))
          refine gs (fun t => XS.iconst X0.here hx rfl (hb hby at_104)) ?_
          refine gs (fun t => XS.icmpNo X0.here hx rfl (hb hby at_105) rfl (teq (by decide : (2 : Int32) = (2 : Int32))).2) ?_
          refine gs (fun t => XS.iconst X0.here hx rfl (hb hby at_108)) ?_
          refine gs (fun t => XS.goto X0.here hx rfl (pc0 := 109) (pc' := 113) rfl (hb hby at_109) (by decide) (by decide)) ?_
          refine gs (fun t => XS.istore X0.here hx rfl (hb hby at_113) rfl (l' := #[jv p0, .second, jv R1, .second, jv R2, .second, jv p3, .second, iv p4, iv 5, iv (oI fl), iv mb, iv dr, iv (oI rq), iv 2, iv 0, iv 1, .unset, .unset, .unset, .unset, .unset, .unset, .unset, .unset, .unset, .unset, .unset]) rfl) ?_
          refine gs (fun t => XS.iload X0.here hx rfl (hb hby at_115) rfl) ?_
          show Go p e below s QQ room_1.cells room_1.slots (s₁.setTop (mkF m 117 #[jv p0, .second, jv R1, .second, jv R2, .second, jv p3, .second, iv p4, iv 5, iv (oI fl), iv mb, iv dr, iv (oI rq), iv 2, iv 0, iv 1, .unset, .unset, .unset, .unset, .unset, .unset, .unset, .unset, .unset, .unset, .unset] [(.int (5 : Int32))]))
          refine gs (fun t => XS.iconst X0.here hx rfl (hb hby at_117)) ?_
          refine gs (fun t => XS.iand X0.here hx rfl (hb hby at_118) rfl) ?_
          refine gs (fun t => XS.ifYes X0.here hx rfl (pc0 := 119) (pc' := 127) rfl (hb hby at_119) rfl ((if0 _ _).trans (feq (by decide : ¬ ((1 : Int32) = (0 : Int32)))).2) (by decide) (by decide)) ?_
          refine gs (fun t => XS.iload X0.here hx rfl (hb hby at_127) rfl) ?_
          refine gs (fun t => XS.istore X0.here hx rfl (hb hby at_129) rfl (l' := #[jv p0, .second, jv R1, .second, jv R2, .second, jv p3, .second, iv p4, iv 5, iv (oI fl), iv mb, iv dr, iv (oI rq), iv 2, iv 0, iv 1, iv 1, .unset, .unset, .unset, .unset, .unset, .unset, .unset, .unset, .unset, .unset]) rfl) ?_
          refine gs (fun t => XS.iload X0.here hx rfl (hb hby at_131) rfl) ?_
          show Go p e below s QQ room_1.cells room_1.slots (s₁.setTop (mkF m 133 #[jv p0, .second, jv R1, .second, jv R2, .second, jv p3, .second, iv p4, iv 5, iv (oI fl), iv mb, iv dr, iv (oI rq), iv 2, iv 0, iv 1, iv 1, .unset, .unset, .unset, .unset, .unset, .unset, .unset, .unset, .unset, .unset] [(.int (5 : Int32))]))
          refine gs (fun t => XS.iconst X0.here hx rfl (hb hby at_133)) ?_
          refine gs (fun t => XS.iand X0.here hx rfl (hb hby at_134) rfl) ?_
          refine gs (fun t => XS.ifYes X0.here hx rfl (pc0 := 135) (pc' := 143) rfl (hb hby at_135) rfl ((if0 _ _).trans (feq (by decide : ¬ ((1 : Int32) = (0 : Int32)))).2) (by decide) (by decide)) ?_
          refine gs (fun t => XS.iload X0.here hx rfl (hb hby at_143) rfl) ?_
          refine gs (fun t => XS.istore X0.here hx rfl (hb hby at_145) rfl (l' := #[jv p0, .second, jv R1, .second, jv R2, .second, jv p3, .second, iv p4, iv 5, iv (oI fl), iv mb, iv dr, iv (oI rq), iv 2, iv 0, iv 1, iv 1, iv 0, .unset, .unset, .unset, .unset, .unset, .unset, .unset, .unset, .unset]) rfl) ?_
          exact kp (2 : Int32) (0 : Int32) (1 : Int32) (1 : Int32) (0 : Int32) (by decide) (by decide) (by decide)
      by_cases hc11 : (((p4.toUInt32 >>> ((11 : Int32) &&& 31).toUInt32).toInt32) &&& (1 : Int32)) = (0 : Int32)
      · skip
        refine gs (fun t => XS.ifYes X0.here hx rfl (pc0 := 63) (pc' := 70) rfl (hb hby at_63) rfl ((if0 _ _).trans (teq hc11).1) (by decide) (by decide)) ?_
        refine gs (fun t => XS.iconst X0.here hx rfl (hb hby at_70)) ?_
        show Go p e below s QQ room_1.cells room_1.slots (s₁.setTop (mkF m 71 #[jv p0, .second, jv R1, .second, jv R2, .second, jv p3, .second, iv p4, iv pp, iv (oI fl), iv mb, .unset, .unset, .unset, .unset, .unset, .unset, .unset, .unset, .unset, .unset, .unset, .unset, .unset, .unset, .unset, .unset] [(.int (0 : Int32))]))
        exact kd (0 : Int32)
      · skip
        refine gs (fun t => XS.ifNo X0.here hx rfl (hb hby at_63) rfl ((if0 _ _).trans (feq hc11).1)) ?_
        refine gs (fun t => XS.iconst X0.here hx rfl (hb hby at_66)) ?_
        show Go p e below s QQ room_1.cells room_1.slots (s₁.setTop (mkF m 67 #[jv p0, .second, jv R1, .second, jv R2, .second, jv p3, .second, iv p4, iv pp, iv (oI fl), iv mb, .unset, .unset, .unset, .unset, .unset, .unset, .unset, .unset, .unset, .unset, .unset, .unset, .unset, .unset, .unset, .unset] [(.int (1 : Int32))]))
        refine gs (fun t => XS.goto X0.here hx rfl (pc0 := 67) (pc' := 71) rfl (hb hby at_67) (by decide) (by decide)) ?_
        exact kd (1 : Int32)
    by_cases hc10 : (((p4.toUInt32 >>> ((10 : Int32) &&& 31).toUInt32).toInt32) &&& (1 : Int32)) = (0 : Int32)
    · skip
      refine gs (fun t => XS.ifYes X0.here hx rfl (pc0 := 50) (pc' := 56) rfl (hb hby at_50) rfl ((if0 _ _).trans (teq hc10).1) (by decide) (by decide)) ?_
      show Go p e below s QQ room_1.cells room_1.slots (s₁.setTop (mkF m 56 #[jv p0, .second, jv R1, .second, jv p2, .second, jv p3, .second, iv p4, iv pp, iv (oI fl), iv mb, .unset, .unset, .unset, .unset, .unset, .unset, .unset, .unset, .unset, .unset, .unset, .unset, .unset, .unset, .unset, .unset] []))
      exact kv2 p2
    · skip
      refine gs (fun t => XS.ifNo X0.here hx rfl (hb hby at_50) rfl ((if0 _ _).trans (feq hc10).1)) ?_
      show Go p e below s QQ room_1.cells room_1.slots (s₁.setTop (mkF m 53 #[jv p0, .second, jv R1, .second, jv p2, .second, jv p3, .second, iv p4, iv pp, iv (oI fl), iv mb, .unset, .unset, .unset, .unset, .unset, .unset, .unset, .unset, .unset, .unset, .unset, .unset, .unset, .unset, .unset, .unset] []))
      refine gs (fun t => XS.lloadN X0.here hx rfl (hb hby at_53) rfl) ?_
      refine gs (fun t => XS.lstore X0.here hx rfl (hb hby at_54) rfl (l' := #[jv p0, .second, jv R1, .second, jv p0, .second, jv p3, .second, iv p4, iv pp, iv (oI fl), iv mb, .unset, .unset, .unset, .unset, .unset, .unset, .unset, .unset, .unset, .unset, .unset, .unset, .unset, .unset, .unset, .unset]) rfl) ?_
      exact kv2 p0
  by_cases hc9 : (((p4.toUInt32 >>> ((9 : Int32) &&& 31).toUInt32).toInt32) &&& (1 : Int32)) = (0 : Int32)
  · skip
    refine gs (fun t => XS.ifYes X0.here hx rfl (pc0 := 38) (pc' := 43) rfl (hb hby at_38) rfl ((if0 _ _).trans (teq hc9).1) (by decide) (by decide)) ?_
    exact kv1 p1
  · skip
    refine gs (fun t => XS.ifNo X0.here hx rfl (hb hby at_38) rfl ((if0 _ _).trans (feq hc9).1)) ?_
    refine gs (fun t => XS.lloadN X0.here hx rfl (hb hby at_41) rfl) ?_
    refine gs (fun t => XS.lstoreN X0.here hx rfl (hb hby at_42) rfl (l' := #[jv p0, .second, jv p0, .second, jv p2, .second, jv p3, .second, iv p4, iv pp, iv (oI fl), iv mb, .unset, .unset, .unset, .unset, .unset, .unset, .unset, .unset, .unset, .unset, .unset, .unset, .unset, .unset, .unset, .unset]) rfl) ?_
    exact kv1 p0
set_option maxRecDepth 65536 in
set_option maxHeartbeats 40000000 in
theorem comes_1 {Post : Tables → Env → Array Value → State → Outcome → State → Prop} (hpost : ∀ tb e args s v u, (limb_1_1.after args s (.returned v) u = true ∧ limb_1_2.after args s (.returned v) u = true ∧ True) → FrameEnd s (.returned v) u (Jvm.fieldLocs frame_1_writes args s ++ Jvm.arrayLocs frame_1_arrays args s ++ Jvm.staticLocs frame_1_statics s) 32 256 → Post tb e args s (.returned v) u) :
    ArmFor flags0 classFile x code maxLocals ret World_1 tables_1 room_1 Calls_1 rest_1 Pre_1 Post := by
  intro l hfl _ _ p e ha hc hk s m args below hf hA hF happ hP
  obtain ⟨hcalls, hrest, hpre⟩ := hP
  obtain ⟨-, -, -, hnamed, -, -, -, hat⟩ := (Spec.applies_iff hf).mp happ
  obtain ⟨hg, hn⟩ := and_e (Cond.before_iff.mp (show (Jvm.Cond.and given_1 narrow_1).before args s = true from hpre))
  obtain ⟨gc, hg0⟩ := and_e hg
  obtain ⟨w0, w1, w2, w3, w4, rfl⟩ : ∃ w0 w1 w2 w3 w4 : Value, args = #[w0, w1, w2, w3, w4] := by
    have hs : args.size = 5 := by simpa [Cond.value, given_1] using gc
    obtain ⟨L⟩ := args
    match L, hs with
    | [w0, w1, w2, w3, w4], _ => exact ⟨w0, w1, w2, w3, w4, rfl⟩
  obtain ⟨ga0, hg1⟩ := and_e hg0
  obtain ⟨i0, ei0⟩ := isL_v ga0
  obtain rfl : w0 = (.long i0) := Option.some.inj ei0
  obtain ⟨ga1, hg2⟩ := and_e hg1
  obtain ⟨i1, ei1⟩ := isL_v ga1
  obtain rfl : w1 = (.long i1) := Option.some.inj ei1
  obtain ⟨ga2, hg3⟩ := and_e hg2
  obtain ⟨i2, ei2⟩ := isL_v ga2
  obtain rfl : w2 = (.long i2) := Option.some.inj ei2
  obtain ⟨ga3, hg4⟩ := and_e hg3
  obtain ⟨i3, ei3⟩ := isL_v ga3
  obtain rfl : w3 = (.long i3) := Option.some.inj ei3
  obtain ⟨i4, ei4⟩ := is_v hg4
  obtain rfl : w4 = (.int i4) := Option.some.inj ei4
  have hw := fun d (hd : d ∈ tables_1) => atoms_spec (ws := Jvm.Cond.code x code maxLocals ret :: tables_1) hat d (List.mem_cons_of_mem _ hd)
  have hfit : Fit s := fun {y c} hc i hi => by
    obtain ⟨ha, rfl⟩ := Array.getElem?_eq_some_iff.mp hc
    have q := List.all_eq_true.mp ((Array.all_eq_true_iff_forall_mem.mp hF) _ (Array.getElem_mem ha)) i (List.mem_range.mpr hi)
    simpa [Array.getElem?_eq_getElem hi] using q
  obtain ⟨n, o, h1, h2, h3, _, L, rfl, ⟨rfl, N⟩, hq⟩ := rm0 l s _ hw tables_1 i0 i1 i2 i3 i4 s.heap s.heap.size (Nat.le_refl _)  p e ha hc hk s m _ below hf ((Spec.applies_iff_loose hf).mp happ).1 ⟨rfl, State.Warmed39.refl s, rfl⟩ trivial
  refine ⟨n, _, h1, h2, h3, hpost _ _ _ _ _ _ ⟨Cond.after_iff.mpr rfl, Cond.after_iff.mpr (eq_i res_at (Term.int_eval (1)) rfl), trivial⟩ ⟨hq.1, hq.2.1, (hq.2.2.sift fun y hy => Or.inr (N y hy)).mono (by decide) (by decide)⟩⟩
theorem main_1_1 : Claimed_1_1 := comes_1 fun _ _ _ _ _ _ h hF => ⟨h.1, hF⟩
theorem main_1_2 : Claimed_1_2 := comes_1 fun _ _ _ _ _ _ h hF => ⟨h.2.1, hF⟩
end Jvm.Pilot.@@N@@
namespace Jvm.Pilot.@@N@@
open Jvm Jvm.ClassFile Sem Op Lib Jvm.Free Jvm.Stand Jvm.Pilot.@@N@@.Jvm.D
/-! MADE BY PROGRAM (witnessworld.py) out of the Statement's table words and the real class files: 20 classes; the members and pool entries that the words name. The judged class is class 1, her method 1. -/
namespace start1
open Jvm.ClassFile
def u (s : String) : CpInfo := .utf8 (stringToUtf16 s)
/-- a pool by its gaps: so many unusable entries, then the entry; so many at the end -/
def gap : Nat → List CpInfo → List CpInfo
  | 0, r => r
  | n + 1, r => .unusable :: gap n r
def poolList (es : List (Nat × CpInfo)) (last : Nat) : List CpInfo := es.foldr (fun e r => gap e.1 (e.2 :: r)) (gap last [])
def pool (es : List (Nat × CpInfo)) (last : Nat) : Array CpInfo := ⟨poolList es last⟩
def fileOf (pool : Array CpInfo) (this : Nat) (attrs : Array Attribute := #[]) (ms : Array MethodInfo := #[]) (fl : Nat := 33) (sup : Nat := 0) (ifs : Array Nat := #[]) (fds : Array FieldInfo := #[]) : ClassFile where
  minorVersion := 0
  majorVersion := 65
  constantPool := pool
  accessFlags := fl
  thisClass := this
  superClass := sup
  interfaces := ifs
  fields := fds
  methods := ms
  attributes := attrs
def plain (name : String) (sup : Option ClassId) : Class where
  name := name
  kind := .ordinary
  loader := none
  accessFlags := 33
  super := sup
  interfaces := #[]
  cf := none
  fields := #[]
  methods := #[]
  instanceTypes := #[]
  staticTypes := #[]
  resolved := #[]
  callSites := []
  init := .initialized
  statics := none
  mirror := none

def pool0 : Array CpInfo := pool [(5, u "<init>"), (0, u "()V"), (1, .class_ 10), (1, u "java/lang/Object")] 113

def k0c0 : Code := { maxStack := 0, maxLocals := 1, code := object_method_1_code, exceptionTable := #[], attributes := #[] }
def k0m0 : Method := { name := "<init>", desc := "()V", sig := { parameters := [], returnType := none }, accessFlags := 1, code := some k0c0 }
/-- java/lang/Object -/
def k0 : Class := { plain "java/lang/Object" none with
  accessFlags := 33
  interfaces := #[]
  cf := some (fileOf pool0 8 #[] #[{ accessFlags := 1, nameIndex := 5, descriptorIndex := 6, attributes := #[] }] 33 0 #[] #[])
  fields := #[]
  methods := #[k0m0]
  instanceTypes := #[]
  staticTypes := #[]
  resolved := Array.replicate 124 none
  statics := none }

def pool1 : Array CpInfo := pool [(2, .class_ 4), (0, .nameAndType 5 6), (0, u "java/lang/Object"), (0, u "<init>"), (0, u "()V"), (0, .class_ 8), (0, u "com/example/interval/interval/service/SlotTable"), (0, .methodref 7 3), (0, .methodref 7 11), (0, .nameAndType 12 13), (0, u "add"), (0, u "(JJJJJ)I"), (0, .class_ 15), (0, u "com/example/interval/interval/service/SlotOrder"), (0, .methodref 14 17), (0, .nameAndType 5 18), (0, u "(Lcom/example/interval/interval/service/SlotTable;I)V"), (0, .methodref 14 20), (0, .nameAndType 12 21), (0, u "(I)V"), (0, .methodref 14 23), (0, .nameAndType 24 21), (0, u "remove"), (0, .methodref 26 27), (0, .class_ 28), (0, .nameAndType 29 30), (0, u "com/example/interval/interval/service/SlotOrderFirstPinLaw"), (0, u "pick"), (0, u "([J[J[ZII)I"), (0, .methodref 14 32), (0, .nameAndType 33 34), (0, u "first"), (0, u "()I"), (2, u "law"), (0, u "(JJJJI)Z")] 9

def k1m0 : Method := { name := "<init>", desc := "()V", sig := { parameters := [], returnType := none }, accessFlags := 1, code := none }
def k1c1 : Code := { maxStack := 13, maxLocals := 28, code := code, exceptionTable := #[], attributes := #[] }
def k1m1 : Method := { name := "law", desc := "(JJJJI)Z", sig := { parameters := [.long, .long, .long, .long, .int], returnType := some .boolean }, accessFlags := 9, code := some k1c1 }
def k1c2 : Code := { maxStack := 4, maxLocals := 6, code := method_3_code, exceptionTable := #[], attributes := #[] }
def k1m2 : Method := { name := "pick", desc := "([J[J[ZII)I", sig := { parameters := [(.array .long), (.array .long), (.array .boolean), .int, .int], returnType := some .int }, accessFlags := 10, code := some k1c2 }
/-- com/example/interval/interval/service/SlotOrderFirstPinLaw -/
def k1 : Class := { plain "com/example/interval/interval/service/SlotOrderFirstPinLaw" (some 0) with
  accessFlags := 49
  interfaces := #[]
  cf := some (fileOf pool1 26 #[] #[{ accessFlags := 1, nameIndex := 5, descriptorIndex := 6, attributes := #[] }, { accessFlags := 9, nameIndex := 37, descriptorIndex := 38, attributes := #[] }, { accessFlags := 10, nameIndex := 29, descriptorIndex := 30, attributes := #[] }] 49 2 #[] #[])
  fields := #[]
  methods := #[k1m0, k1m1, k1m2]
  instanceTypes := #[]
  staticTypes := #[]
  resolved := Array.replicate 48 none
  statics := none }

def pool2 : Array CpInfo := pool [(1, .class_ 2), (0, u "com/example/interval/interval/service/SlotTable"), (0, .methodref 4 5), (0, .class_ 6), (0, .nameAndType 7 8), (0, u "java/lang/Object"), (0, u "<init>"), (0, u "()V"), (0, .class_ 10), (0, u "[J"), (0, .fieldref 1 12), (0, .nameAndType 13 14), (0, u "pages"), (0, u "[[J"), (0, .fieldref 1 16), (0, .nameAndType 17 18), (0, u "size"), (0, u "I"), (0, .methodref 1 20), (0, .nameAndType 21 22), (0, u "offset"), (0, u "(I)I"), (16, .methodref 1 40), (0, .nameAndType 41 42), (0, u "set"), (0, u "(IIJ)V"), (6, u "SEQUENCE"), (2, u "DUE_AT"), (1, u "LOCATION"), (1, u "LEASED_UNTIL"), (1, u "ATTEMPTS"), (1, u "FIELDS"), (1, u "PAGE_BITS"), (1, u "PAGE_ROWS"), (1, u "FIRST_ROWS"), (4, u "get"), (0, u "(II)J"), (0, u "add"), (0, u "(JJJJJ)I")] 6

def k2c0 : Code := { maxStack := 5, maxLocals := 1, code := prog_28_method_1_code, exceptionTable := #[], attributes := #[] }
def k2m0 : Method := { name := "<init>", desc := "()V", sig := { parameters := [], returnType := none }, accessFlags := 0, code := some k2c0 }
def k2c1 : Code := { maxStack := 3, maxLocals := 3, code := prog_28_method_3_code, exceptionTable := #[], attributes := #[] }
def k2m1 : Method := { name := "get", desc := "(II)J", sig := { parameters := [.int, .int], returnType := some .long }, accessFlags := 0, code := some k2c1 }
def k2c2 : Code := { maxStack := 4, maxLocals := 5, code := prog_28_method_4_code, exceptionTable := #[], attributes := #[] }
def k2m2 : Method := { name := "set", desc := "(IIJ)V", sig := { parameters := [.int, .int, .long], returnType := none }, accessFlags := 0, code := some k2c2 }
def k2c3 : Code := { maxStack := 6, maxLocals := 14, code := prog_28_method_5_code, exceptionTable := #[], attributes := #[] }
def k2m3 : Method := { name := "add", desc := "(JJJJJ)I", sig := { parameters := [.long, .long, .long, .long, .long], returnType := some .int }, accessFlags := 0, code := some k2c3 }
def k2c4 : Code := { maxStack := 2, maxLocals := 1, code := prog_28_method_8_code, exceptionTable := #[], attributes := #[] }
def k2m4 : Method := { name := "offset", desc := "(I)I", sig := { parameters := [.int], returnType := some .int }, accessFlags := 10, code := some k2c4 }
/-- com/example/interval/interval/service/SlotTable -/
def k2 : Class := { plain "com/example/interval/interval/service/SlotTable" (some 0) with
  accessFlags := 48
  interfaces := #[]
  cf := some (fileOf pool2 1 #[] #[{ accessFlags := 0, nameIndex := 7, descriptorIndex := 8, attributes := #[] }, { accessFlags := 0, nameIndex := 71, descriptorIndex := 72, attributes := #[] }, { accessFlags := 0, nameIndex := 41, descriptorIndex := 42, attributes := #[] }, { accessFlags := 0, nameIndex := 73, descriptorIndex := 74, attributes := #[] }, { accessFlags := 10, nameIndex := 21, descriptorIndex := 22, attributes := #[] }] 48 4 #[] #[{ accessFlags := 24, nameIndex := 49, descriptorIndex := 18, attributes := #[] }, { accessFlags := 24, nameIndex := 52, descriptorIndex := 18, attributes := #[] }, { accessFlags := 24, nameIndex := 54, descriptorIndex := 18, attributes := #[] }, { accessFlags := 24, nameIndex := 56, descriptorIndex := 18, attributes := #[] }, { accessFlags := 24, nameIndex := 58, descriptorIndex := 18, attributes := #[] }, { accessFlags := 26, nameIndex := 60, descriptorIndex := 18, attributes := #[] }, { accessFlags := 26, nameIndex := 62, descriptorIndex := 18, attributes := #[] }, { accessFlags := 26, nameIndex := 64, descriptorIndex := 18, attributes := #[] }, { accessFlags := 26, nameIndex := 66, descriptorIndex := 18, attributes := #[] }, { accessFlags := 2, nameIndex := 13, descriptorIndex := 14, attributes := #[] }, { accessFlags := 2, nameIndex := 17, descriptorIndex := 18, attributes := #[] }])
  fields := #[{ name := "SEQUENCE", type := .int, accessFlags := 24, slot := 0, constantValue := 0 }, { name := "DUE_AT", type := .int, accessFlags := 24, slot := 1, constantValue := 0 }, { name := "LOCATION", type := .int, accessFlags := 24, slot := 2, constantValue := 0 }, { name := "LEASED_UNTIL", type := .int, accessFlags := 24, slot := 3, constantValue := 0 }, { name := "ATTEMPTS", type := .int, accessFlags := 24, slot := 4, constantValue := 0 }, { name := "FIELDS", type := .int, accessFlags := 26, slot := 5, constantValue := 0 }, { name := "PAGE_BITS", type := .int, accessFlags := 26, slot := 6, constantValue := 0 }, { name := "PAGE_ROWS", type := .int, accessFlags := 26, slot := 7, constantValue := 0 }, { name := "FIRST_ROWS", type := .int, accessFlags := 26, slot := 8, constantValue := 0 }, { name := "pages", type := (.array (.array .long)), accessFlags := 2, slot := 0, constantValue := 0 }, { name := "size", type := .int, accessFlags := 2, slot := 1, constantValue := 0 }]
  methods := #[k2m0, k2m1, k2m2, k2m3, k2m4]
  instanceTypes := #[(.array (.array .long)), .int]
  staticTypes := #[.int, .int, .int, .int, .int, .int, .int, .int, .int]
  resolved := Array.replicate 81 none
  statics := none }

def pool3 : Array CpInfo := pool [(1, .class_ 2), (0, u "com/example/interval/interval/service/SlotOrder"), (0, .methodref 4 5), (0, .class_ 6), (0, .nameAndType 7 8), (0, u "java/lang/Object"), (0, u "<init>"), (0, u "()V"), (0, .class_ 10), (0, u "[I"), (0, .fieldref 1 12), (0, .nameAndType 13 14), (0, u "runs"), (0, u "[[I"), (0, .fieldref 1 16), (0, .nameAndType 17 10), (0, u "sizes"), (0, .fieldref 1 19), (0, .nameAndType 20 21), (0, u "table"), (0, u "Lcom/example/interval/interval/service/SlotTable;"), (0, .fieldref 1 23), (0, .nameAndType 24 25), (0, u "field"), (0, u "I"), (0, .fieldref 1 27), (0, .nameAndType 28 25), (0, u "size"), (0, .methodref 1 30), (0, .nameAndType 31 32), (0, u "runOf"), (0, u "(JJ)I"), (0, .methodref 1 34), (0, .nameAndType 35 36), (0, u "indexIn"), (0, u "(IJJ)I"), (0, .methodref 1 38), (0, .nameAndType 39 36), (0, u "compare"), (0, .class_ 41), (0, u "java/lang/Long"), (2, .fieldref 1 45), (0, .nameAndType 46 25), (0, u "runCount"), (0, .methodref 48 49), (0, .class_ 50), (0, .nameAndType 51 52), (0, u "com/example/interval/interval/service/SlotTable"), (0, u "get"), (0, u "(II)J"), (0, .methodref 1 54), (0, .nameAndType 55 56), (0, u "insertRun"), (0, u "(I[II)V"), (9, u "(II)V"), (9, .methodref 77 78), (0, .class_ 79), (0, .nameAndType 80 81), (0, u "java/lang/System"), (0, u "arraycopy"), (0, u "(Ljava/lang/Object;ILjava/lang/Object;II)V"), (9, .methodref 1 92), (0, .nameAndType 93 66), (0, u "removeAt"), (1, .methodref 40 96), (0, .nameAndType 39 32), (0, .methodref 1 98), (0, .nameAndType 99 100), (0, u "deleteRun"), (0, u "(I)V"), (0, .methodref 1 102), (0, .nameAndType 103 100), (0, u "mergeIfSparse"), (4, u "RUN"), (2, u "FIRST_RUN"), (1, u "SPARSE"), (1, u "(Lcom/example/interval/interval/service/SlotTable;I)V"), (2, u "()I"), (0, u "first"), (5, u "add"), (0, u "remove")] 21

def k3c0 : Code := { maxStack := 2, maxLocals := 3, code := prog_26_method_1_code, exceptionTable := #[], attributes := #[] }
def k3m0 : Method := { name := "<init>", desc := "(Lcom/example/interval/interval/service/SlotTable;I)V", sig := { parameters := [(.object "com/example/interval/interval/service/SlotTable"), .int], returnType := none }, accessFlags := 0, code := some k3c0 }
def k3c1 : Code := { maxStack := 2, maxLocals := 1, code := prog_26_method_3_code, exceptionTable := #[], attributes := #[] }
def k3m1 : Method := { name := "first", desc := "()I", sig := { parameters := [], returnType := some .int }, accessFlags := 0, code := some k3c1 }
def k3c2 : Code := { maxStack := 6, maxLocals := 9, code := prog_26_method_7_code, exceptionTable := #[], attributes := #[] }
def k3m2 : Method := { name := "add", desc := "(I)V", sig := { parameters := [.int], returnType := none }, accessFlags := 0, code := some k3c2 }
def k3c3 : Code := { maxStack := 6, maxLocals := 8, code := prog_26_method_8_code, exceptionTable := #[], attributes := #[] }
def k3m3 : Method := { name := "remove", desc := "(I)V", sig := { parameters := [.int], returnType := none }, accessFlags := 0, code := some k3c3 }
def k3c4 : Code := { maxStack := 4, maxLocals := 7, code := prog_26_method_11_code, exceptionTable := #[], attributes := #[] }
def k3m4 : Method := { name := "compare", desc := "(IJJ)I", sig := { parameters := [.int, .long, .long], returnType := some .int }, accessFlags := 2, code := some k3c4 }
def k3c5 : Code := { maxStack := 6, maxLocals := 8, code := prog_26_method_12_code, exceptionTable := #[], attributes := #[] }
def k3m5 : Method := { name := "runOf", desc := "(JJ)I", sig := { parameters := [.long, .long], returnType := some .int }, accessFlags := 2, code := some k3c5 }
def k3c6 : Code := { maxStack := 6, maxLocals := 10, code := prog_26_method_13_code, exceptionTable := #[], attributes := #[] }
def k3m6 : Method := { name := "indexIn", desc := "(IJJ)I", sig := { parameters := [.int, .long, .long], returnType := some .int }, accessFlags := 2, code := some k3c6 }
def k3c7 : Code := { maxStack := 6, maxLocals := 4, code := prog_26_method_14_code, exceptionTable := #[], attributes := #[] }
def k3m7 : Method := { name := "removeAt", desc := "(II)V", sig := { parameters := [.int, .int], returnType := none }, accessFlags := 2, code := some k3c7 }
def k3c8 : Code := { maxStack := 6, maxLocals := 5, code := prog_26_method_16_code, exceptionTable := #[], attributes := #[] }
def k3m8 : Method := { name := "mergeIfSparse", desc := "(I)V", sig := { parameters := [.int], returnType := none }, accessFlags := 2, code := some k3c8 }
def k3c9 : Code := { maxStack := 6, maxLocals := 4, code := prog_26_method_17_code, exceptionTable := #[], attributes := #[] }
def k3m9 : Method := { name := "insertRun", desc := "(I[II)V", sig := { parameters := [.int, (.array .int), .int], returnType := none }, accessFlags := 2, code := some k3c9 }
def k3c10 : Code := { maxStack := 6, maxLocals := 2, code := prog_26_method_18_code, exceptionTable := #[], attributes := #[] }
def k3m10 : Method := { name := "deleteRun", desc := "(I)V", sig := { parameters := [.int], returnType := none }, accessFlags := 2, code := some k3c10 }
/-- com/example/interval/interval/service/SlotOrder -/
def k3 : Class := { plain "com/example/interval/interval/service/SlotOrder" (some 0) with
  accessFlags := 48
  interfaces := #[]
  cf := some (fileOf pool3 1 #[] #[{ accessFlags := 0, nameIndex := 7, descriptorIndex := 115, attributes := #[] }, { accessFlags := 0, nameIndex := 119, descriptorIndex := 118, attributes := #[] }, { accessFlags := 0, nameIndex := 125, descriptorIndex := 100, attributes := #[] }, { accessFlags := 0, nameIndex := 126, descriptorIndex := 100, attributes := #[] }, { accessFlags := 2, nameIndex := 39, descriptorIndex := 36, attributes := #[] }, { accessFlags := 2, nameIndex := 31, descriptorIndex := 32, attributes := #[] }, { accessFlags := 2, nameIndex := 35, descriptorIndex := 36, attributes := #[] }, { accessFlags := 2, nameIndex := 93, descriptorIndex := 66, attributes := #[] }, { accessFlags := 2, nameIndex := 103, descriptorIndex := 100, attributes := #[] }, { accessFlags := 2, nameIndex := 55, descriptorIndex := 56, attributes := #[] }, { accessFlags := 2, nameIndex := 99, descriptorIndex := 100, attributes := #[] }] 48 4 #[] #[{ accessFlags := 26, nameIndex := 108, descriptorIndex := 25, attributes := #[] }, { accessFlags := 26, nameIndex := 111, descriptorIndex := 25, attributes := #[] }, { accessFlags := 26, nameIndex := 113, descriptorIndex := 25, attributes := #[] }, { accessFlags := 18, nameIndex := 20, descriptorIndex := 21, attributes := #[] }, { accessFlags := 18, nameIndex := 24, descriptorIndex := 25, attributes := #[] }, { accessFlags := 2, nameIndex := 13, descriptorIndex := 14, attributes := #[] }, { accessFlags := 2, nameIndex := 17, descriptorIndex := 10, attributes := #[] }, { accessFlags := 2, nameIndex := 46, descriptorIndex := 25, attributes := #[] }, { accessFlags := 2, nameIndex := 28, descriptorIndex := 25, attributes := #[] }])
  fields := #[{ name := "RUN", type := .int, accessFlags := 26, slot := 0, constantValue := 0 }, { name := "FIRST_RUN", type := .int, accessFlags := 26, slot := 1, constantValue := 0 }, { name := "SPARSE", type := .int, accessFlags := 26, slot := 2, constantValue := 0 }, { name := "table", type := (.object "com/example/interval/interval/service/SlotTable"), accessFlags := 18, slot := 0, constantValue := 0 }, { name := "field", type := .int, accessFlags := 18, slot := 1, constantValue := 0 }, { name := "runs", type := (.array (.array .int)), accessFlags := 2, slot := 2, constantValue := 0 }, { name := "sizes", type := (.array .int), accessFlags := 2, slot := 3, constantValue := 0 }, { name := "runCount", type := .int, accessFlags := 2, slot := 4, constantValue := 0 }, { name := "size", type := .int, accessFlags := 2, slot := 5, constantValue := 0 }]
  methods := #[k3m0, k3m1, k3m2, k3m3, k3m4, k3m5, k3m6, k3m7, k3m8, k3m9, k3m10]
  instanceTypes := #[(.object "com/example/interval/interval/service/SlotTable"), .int, (.array (.array .int)), (.array .int), .int, .int]
  staticTypes := #[.int, .int, .int]
  resolved := Array.replicate 148 none
  statics := none }

def pool4 : Array CpInfo := pool [(2, .class_ 4), (1, u "java/lang/Object"), (0, u "<init>"), (0, u "()V"), (1, .class_ 10), (1, u "java/lang/System"), (0, u "allowSecurityManager"), (0, u "I"), (16, u "cons"), (0, u "Ljava/io/Console;"), (77, .class_ 110), (1, u "java/lang/System$CallersHolder"), (43, u "initialErrStream"), (0, u "Ljava/io/PrintStream;"), (19, u "security"), (0, u "Ljava/lang/SecurityManager;"), (31, .class_ 209), (0, u "java/lang/System$1"), (7, u "props"), (0, u "Ljava/util/Properties;"), (2, u "lineSeparator"), (0, u "Ljava/lang/String;"), (96, .class_ 321), (1, u "java/lang/System$LoggerFinder"), (5, .class_ 328), (0, u "java/lang/System$Logger"), (67, u "err"), (2, u "out"), (91, u "notSupportedJnuEncoding"), (15, u "in"), (17, u "initialIn"), (0, u "Ljava/io/InputStream;"), (35, u "bootLayer"), (0, u "Ljava/lang/ModuleLayer;"), (99, .class_ 664), (0, u "java/lang/System$2"), (9, u "NEVER"), (2, u "MAYBE"), (49, u "arraycopy"), (0, u "(Ljava/lang/Object;ILjava/lang/Object;II)V"), (72, .class_ 802), (0, u "java/lang/System$Logger$Level")] 31

def k4m0 : Method := { name := "<init>", desc := "()V", sig := { parameters := [], returnType := none }, accessFlags := 2, code := none }
def k4m1 : Method := { name := "arraycopy", desc := "(Ljava/lang/Object;ILjava/lang/Object;II)V", sig := { parameters := [(.object "java/lang/Object"), .int, (.object "java/lang/Object"), .int, .int], returnType := none }, accessFlags := 265, code := none }
/-- java/lang/System -/
def k4 : Class := { plain "java/lang/System" (some 0) with
  accessFlags := 49
  interfaces := #[]
  cf := some (fileOf pool4 8 #[.nestMembers #[319, 327, 801, 108, 663, 208]] #[{ accessFlags := 2, nameIndex := 5, descriptorIndex := 6, attributes := #[] }, { accessFlags := 265, nameIndex := 727, descriptorIndex := 728, attributes := #[] }] 49 2 #[] #[{ accessFlags := 25, nameIndex := 507, descriptorIndex := 526, attributes := #[] }, { accessFlags := 25, nameIndex := 399, descriptorIndex := 155, attributes := #[] }, { accessFlags := 25, nameIndex := 396, descriptorIndex := 155, attributes := #[] }, { accessFlags := 10, nameIndex := 525, descriptorIndex := 526, attributes := #[] }, { accessFlags := 26, nameIndex := 674, descriptorIndex := 12, attributes := #[] }, { accessFlags := 26, nameIndex := 677, descriptorIndex := 12, attributes := #[] }, { accessFlags := 10, nameIndex := 11, descriptorIndex := 12, attributes := #[] }, { accessFlags := 74, nameIndex := 175, descriptorIndex := 176, attributes := #[] }, { accessFlags := 10, nameIndex := 491, descriptorIndex := 222, attributes := #[] }, { accessFlags := 74, nameIndex := 29, descriptorIndex := 30, attributes := #[] }, { accessFlags := 74, nameIndex := 154, descriptorIndex := 155, attributes := #[] }, { accessFlags := 10, nameIndex := 217, descriptorIndex := 218, attributes := #[] }, { accessFlags := 10, nameIndex := 221, descriptorIndex := 222, attributes := #[] }, { accessFlags := 8, nameIndex := 562, descriptorIndex := 563, attributes := #[] }])
  fields := #[{ name := "in", type := (.object "java/io/InputStream"), accessFlags := 25, slot := 0, constantValue := 0 }, { name := "out", type := (.object "java/io/PrintStream"), accessFlags := 25, slot := 1, constantValue := 0 }, { name := "err", type := (.object "java/io/PrintStream"), accessFlags := 25, slot := 2, constantValue := 0 }, { name := "initialIn", type := (.object "java/io/InputStream"), accessFlags := 10, slot := 3, constantValue := 0 }, { name := "NEVER", type := .int, accessFlags := 26, slot := 4, constantValue := 0 }, { name := "MAYBE", type := .int, accessFlags := 26, slot := 5, constantValue := 0 }, { name := "allowSecurityManager", type := .int, accessFlags := 10, slot := 6, constantValue := 0 }, { name := "security", type := (.object "java/lang/SecurityManager"), accessFlags := 74, slot := 7, constantValue := 0 }, { name := "notSupportedJnuEncoding", type := (.object "java/lang/String"), accessFlags := 10, slot := 8, constantValue := 0 }, { name := "cons", type := (.object "java/io/Console"), accessFlags := 74, slot := 9, constantValue := 0 }, { name := "initialErrStream", type := (.object "java/io/PrintStream"), accessFlags := 74, slot := 10, constantValue := 0 }, { name := "props", type := (.object "java/util/Properties"), accessFlags := 10, slot := 11, constantValue := 0 }, { name := "lineSeparator", type := (.object "java/lang/String"), accessFlags := 10, slot := 12, constantValue := 0 }, { name := "bootLayer", type := (.object "java/lang/ModuleLayer"), accessFlags := 8, slot := 13, constantValue := 0 }]
  methods := #[k4m0, k4m1]
  instanceTypes := #[]
  staticTypes := #[(.object "java/io/InputStream"), (.object "java/io/PrintStream"), (.object "java/io/PrintStream"), (.object "java/io/InputStream"), .int, .int, .int, (.object "java/lang/SecurityManager"), (.object "java/lang/String"), (.object "java/io/Console"), (.object "java/io/PrintStream"), (.object "java/util/Properties"), (.object "java/lang/String"), (.object "java/lang/ModuleLayer")]
  resolved := Array.replicate 834 none
  statics := none }

def pool5 : Array CpInfo := pool [(1, .class_ 2), (0, u "java/io/Serializable"), (0, .class_ 4), (0, u "java/lang/Object")] 2

/-- java/io/Serializable -/
def k5 : Class := { plain "java/io/Serializable" (some 0) with
  accessFlags := 1537
  interfaces := #[]
  cf := some (fileOf pool5 1 #[] #[] 1537 3 #[] #[])
  fields := #[]
  methods := #[]
  instanceTypes := #[]
  staticTypes := #[]
  resolved := Array.replicate 7 none
  statics := none }

def pool6 : Array CpInfo := pool [(2, .class_ 4), (1, u "java/lang/Object"), (0, u "<init>"), (0, u "()V"), (1, .class_ 10), (1, u "java/lang/Number"), (2, .class_ 14), (0, u "java/io/Serializable"), (0, u "serialVersionUID"), (0, u "J")] 20

def k6m0 : Method := { name := "<init>", desc := "()V", sig := { parameters := [], returnType := none }, accessFlags := 1, code := none }
/-- java/lang/Number -/
def k6 : Class := { plain "java/lang/Number" (some 0) with
  accessFlags := 1057
  interfaces := #[5]
  cf := some (fileOf pool6 8 #[] #[{ accessFlags := 1, nameIndex := 5, descriptorIndex := 6, attributes := #[] }] 1057 2 #[13] #[{ accessFlags := 26, nameIndex := 15, descriptorIndex := 16, attributes := #[] }])
  fields := #[{ name := "serialVersionUID", type := .long, accessFlags := 26, slot := 0, constantValue := 0 }]
  methods := #[k6m0]
  instanceTypes := #[]
  staticTypes := #[.long]
  resolved := Array.replicate 37 none
  statics := none }

def pool7 : Array CpInfo := pool [(1, .class_ 2), (0, u "java/lang/Comparable"), (0, .class_ 4), (0, u "java/lang/Object")] 7

/-- java/lang/Comparable -/
def k7 : Class := { plain "java/lang/Comparable" (some 0) with
  accessFlags := 1537
  interfaces := #[]
  cf := some (fileOf pool7 1 #[] #[] 1537 3 #[] #[])
  fields := #[]
  methods := #[]
  instanceTypes := #[]
  staticTypes := #[]
  resolved := Array.replicate 12 none
  statics := none }

def pool8 : Array CpInfo := pool [(1, .class_ 2), (0, u "java/lang/constant/Constable"), (0, .class_ 4), (0, u "java/lang/Object")] 6

/-- java/lang/constant/Constable -/
def k8 : Class := { plain "java/lang/constant/Constable" (some 0) with
  accessFlags := 1537
  interfaces := #[]
  cf := some (fileOf pool8 1 #[] #[] 1537 3 #[] #[])
  fields := #[]
  methods := #[]
  instanceTypes := #[]
  staticTypes := #[]
  resolved := Array.replicate 11 none
  statics := none }

def pool9 : Array CpInfo := pool [(1, .class_ 2), (0, u "java/lang/constant/ConstantDesc"), (0, .class_ 4), (0, u "java/lang/Object")] 32

/-- java/lang/constant/ConstantDesc -/
def k9 : Class := { plain "java/lang/constant/ConstantDesc" (some 0) with
  accessFlags := 1537
  interfaces := #[]
  cf := some (fileOf pool9 1 #[] #[] 1537 3 #[] #[])
  fields := #[]
  methods := #[]
  instanceTypes := #[]
  staticTypes := #[]
  resolved := Array.replicate 37 none
  statics := none }

def pool10 : Array CpInfo := pool [(1, .class_ 2), (0, u "java/lang/Long"), (232, .class_ 237), (1, u "java/lang/Long$LongCache"), (33, .class_ 272), (0, u "java/lang/Number"), (2, u "value"), (0, u "J"), (27, u "compare"), (0, u "(JJ)I"), (55, u "TYPE"), (0, u "Ljava/lang/Class;"), (0, .class_ 364), (0, u "java/lang/Comparable"), (0, .class_ 366), (0, u "java/lang/constant/Constable"), (0, .class_ 368), (0, u "java/lang/constant/ConstantDesc"), (0, u "MIN_VALUE"), (1, u "MAX_VALUE"), (4, u "SIZE"), (0, u "I"), (1, u "BYTES"), (1, u "serialVersionUID")] 142

def k10c0 : Code := { maxStack := 4, maxLocals := 4, code := jdk_35_method_42_code, exceptionTable := #[], attributes := #[] }
def k10m0 : Method := { name := "compare", desc := "(JJ)I", sig := { parameters := [.long, .long], returnType := some .int }, accessFlags := 9, code := some k10c0 }
/-- java/lang/Long -/
def k10 : Class := { plain "java/lang/Long" (some 6) with
  accessFlags := 49
  interfaces := #[7, 8, 9]
  cf := some (fileOf pool10 1 #[.nestMembers #[235]] #[{ accessFlags := 9, nameIndex := 304, descriptorIndex := 305, attributes := #[] }] 49 271 #[363, 365, 367] #[{ accessFlags := 25, nameIndex := 369, descriptorIndex := 276, attributes := #[] }, { accessFlags := 25, nameIndex := 371, descriptorIndex := 276, attributes := #[] }, { accessFlags := 25, nameIndex := 361, descriptorIndex := 362, attributes := #[] }, { accessFlags := 18, nameIndex := 275, descriptorIndex := 276, attributes := #[] }, { accessFlags := 25, nameIndex := 376, descriptorIndex := 377, attributes := #[] }, { accessFlags := 25, nameIndex := 379, descriptorIndex := 377, attributes := #[] }, { accessFlags := 26, nameIndex := 381, descriptorIndex := 276, attributes := #[] }])
  fields := #[{ name := "MIN_VALUE", type := .long, accessFlags := 25, slot := 0, constantValue := 0 }, { name := "MAX_VALUE", type := .long, accessFlags := 25, slot := 1, constantValue := 0 }, { name := "TYPE", type := (.object "java/lang/Class"), accessFlags := 25, slot := 2, constantValue := 0 }, { name := "value", type := .long, accessFlags := 18, slot := 0, constantValue := 0 }, { name := "SIZE", type := .int, accessFlags := 25, slot := 3, constantValue := 0 }, { name := "BYTES", type := .int, accessFlags := 25, slot := 4, constantValue := 0 }, { name := "serialVersionUID", type := .long, accessFlags := 26, slot := 5, constantValue := 0 }]
  methods := #[k10m0]
  instanceTypes := #[.long]
  staticTypes := #[.long, .long, (.object "java/lang/Class"), .int, .int, .long]
  resolved := Array.replicate 524 none
  statics := none }

def pool11 : Array CpInfo := pool [(1, u "java/lang/Cloneable"), (0, .class_ 1), (0, u "java/lang/Object"), (0, .class_ 3)] 3

/-- java/lang/Cloneable -/
def k11 : Class := { plain "java/lang/Cloneable" (some 0) with
  accessFlags := 1537
  interfaces := #[]
  cf := some (fileOf pool11 2 #[] #[] 1537 4 #[] #[])
  fields := #[]
  methods := #[]
  instanceTypes := #[]
  staticTypes := #[]
  resolved := Array.replicate 8 none
  statics := none }

/-- the primitive boolean -/
def k12 : Class := { plain "boolean" none with kind := .primitive 'Z', accessFlags := 0x411 }
/-- [Z -/
def k13 : Class := { plain "[Z" (some 0) with kind := .array 12 .boolean, interfaces := #[11, 5], accessFlags := 1041 }

/-- the primitive byte -/
def k14 : Class := { plain "byte" none with kind := .primitive 'B', accessFlags := 0x411 }
/-- [B -/
def k15 : Class := { plain "[B" (some 0) with kind := .array 14 .byte, interfaces := #[11, 5], accessFlags := 1041 }

/-- the primitive int -/
def k16 : Class := { plain "int" none with kind := .primitive 'I', accessFlags := 0x411 }
/-- [I -/
def k17 : Class := { plain "[I" (some 0) with kind := .array 16 .int, interfaces := #[11, 5], accessFlags := 1041 }

/-- the primitive long -/
def k18 : Class := { plain "long" none with kind := .primitive 'J', accessFlags := 0x411 }
/-- [J -/
def k19 : Class := { plain "[J" (some 0) with kind := .array 18 .long, interfaces := #[11, 5], accessFlags := 1041 }

def heap : Heap := #[]
def k20 : Class := { plain "[[J" (some 0) with kind := .array 19 (.array .long), interfaces := #[11, 5], accessFlags := 1041 }
def k21 : Class := { plain "[[I" (some 0) with kind := .array 17 (.array .int), interfaces := #[11, 5], accessFlags := 1041 }
def classes : Array Class := #[k0, k1, k2, k3, k4, k5, k6, k7, k8, k9, k10, k11, k12, k13, k14, k15, k16, k17, k18, k19, k20, k21]
def interned : List (Array UInt16 × Addr) := []
def slotsUsed : Nat := 0
def theMethod : MethodId := ⟨1, 1⟩
def args0 : Array Value := #[.long 1, .long 2, .long 3, .long 4, .int 5]
def aboutOver (below : List Frame) : State where
  vm := { classes := classes, interned := interned.toArray }
  heap := heap
  slotsUsed := slotsUsed
  threads := #[{ frames := .invoking theMethod args0 :: below }]
def below0 : List Frame := [.native { method := ⟨0, 0⟩, args := #[] }]
def about1 : State := aboutOver below0
def p0 : Program := .bare "" "" ""
def e0 : Env := launch0.env 0 0 0
theorem w_frames : about1.frames = Frame.invoking theMethod args0 :: below0 := rfl
set_option maxRecDepth 65536 in
theorem w_args : argsFit about1.vm theMethod args0 = true := by decide +kernel
set_option maxRecDepth 65536 in
theorem w_heap : heapFits about1 = true := by decide +kernel
set_option maxRecDepth 65536 in
theorem w_runnable : about1.curStatus? = some .runnable := by decide +kernel
set_option maxRecDepth 65536 in
theorem w_alone : about1.alone = true := by decide +kernel
set_option maxRecDepth 65536 in
theorem w_named : about1.methodNamed? x = some theMethod := by decide +kernel
set_option maxRecDepth 65536 in
theorem w_hears : about1.hears theMethod below0 = true := by decide +kernel
set_option maxRecDepth 65536 in
theorem w_ripe : about1.ripe theMethod args0 below0 = true := by decide +kernel
theorem w_running : about1.status = .running := rfl
set_option maxRecDepth 65536 in
theorem w_room : about1.hasRoom e0.platform room_1 = true :=
  launch0.hasRoom_least _ room_1 (by decide +kernel) (by decide +kernel) (by decide +kernel) (by decide +kernel) (by decide +kernel) (by decide +kernel)
theorem allAtoms_all (ts : List Jvm.Cond) (a : Array Jvm.Value) (st : Jvm.State) : (allAtoms ts).before a st = ts.all (fun c => c.before a st) := by
  induction ts with
  | nil => rfl
  | cons c t ih =>
    show (Jvm.Cond.and c (allAtoms t)).before a st = _
    rw [Jvm.Cond.before_and, ih, List.all_cons]
def words1 : List Jvm.Cond := Jvm.Cond.code x code maxLocals ret :: tables_1
/-- a 'code' word, met by the world's own term for the bytes: nothing is compared byte by byte -/
theorem code_word {y : MethodName} {bytes : ByteArray} {mx : Nat} {rt : Option FieldType} {a : Array Value} {s : State} {m : MethodId} {meth : Method} {c : Code} (h1 : s.methodNamed? y = some m) (h2 : s.vm.method? m = some meth) (h3 : meth.code = some c) (h4 : c.code = bytes)
    (h5 : (c.maxLocals == mx && c.exceptionTable.isEmpty && decide (c.maxStack ≤ mostOperands) && decide (meth.sig.returnType = rt) && !meth.locks && decide (parseMethodDescriptor y.desc = some meth.sig)) = true) : (Jvm.Cond.code y bytes mx rt).before a s = true := by
  simp only [Bool.and_eq_true, beq_iff_eq, Bool.not_eq_true', decide_eq_true_eq] at h5
  obtain ⟨⟨⟨⟨⟨g1, g2⟩, g3⟩, g4⟩, g5⟩, g6⟩ := h5
  simp [Cond.before, Cond.holds, Cond.value, h1, h2, h3, h4, g1, g2, g3, g4, g5, g6]
def isCode : Jvm.Cond → Bool
  | .code _ _ _ _ => true
  | _ => false
theorem all_split {L : List Jvm.Cond} {P : Jvm.Cond → Bool} (h1 : L.all (fun c => isCode c || P c) = true) (h2 : ∀ c ∈ L.filter isCode, P c = true) : L.all P = true := by
  refine List.all_eq_true.mpr fun c hc => ?_
  have h := List.all_eq_true.mp h1 c hc
  rcases Bool.eq_false_or_eq_true (isCode c) with hi | hi
  · exact h2 c (List.mem_filter.mpr ⟨hc, hi⟩)
  · simpa [hi] using h
set_option maxRecDepth 65536 in
theorem w_c0 : (Jvm.Cond.code x code maxLocals ret).before args0 about1 = true := code_word (m := ⟨1, 1⟩) (meth := k1m1) (c := k1c1) (by decide +kernel) rfl rfl rfl (by decide +kernel)
set_option maxRecDepth 65536 in
theorem w_c1 : (Jvm.Cond.code ({ cls := "com/example/interval/interval/service/SlotTable", name := "<init>", desc := "()V" } : Jvm.MethodName) prog_28_method_1_code (1 : Nat) (Option.none : Option Jvm.ClassFile.FieldType)).before args0 about1 = true := code_word (m := ⟨2, 0⟩) (meth := k2m0) (c := k2c0) (by decide +kernel) rfl rfl rfl (by decide +kernel)
set_option maxRecDepth 65536 in
theorem w_c2 : (Jvm.Cond.code ({ cls := "java/lang/Object", name := "<init>", desc := "()V" } : Jvm.MethodName) object_method_1_code (1 : Nat) (Option.none : Option Jvm.ClassFile.FieldType)).before args0 about1 = true := code_word (m := ⟨0, 0⟩) (meth := k0m0) (c := k0c0) (by decide +kernel) rfl rfl rfl (by decide +kernel)
set_option maxRecDepth 65536 in
theorem w_c3 : (Jvm.Cond.code ({ cls := "com/example/interval/interval/service/SlotTable", name := "add", desc := "(JJJJJ)I" } : Jvm.MethodName) prog_28_method_5_code (14 : Nat) (Option.some Jvm.ClassFile.FieldType.int)).before args0 about1 = true := code_word (m := ⟨2, 3⟩) (meth := k2m3) (c := k2c3) (by decide +kernel) rfl rfl rfl (by decide +kernel)
set_option maxRecDepth 65536 in
theorem w_c4 : (Jvm.Cond.code ({ cls := "com/example/interval/interval/service/SlotTable", name := "offset", desc := "(I)I" } : Jvm.MethodName) prog_28_method_8_code (1 : Nat) (Option.some Jvm.ClassFile.FieldType.int)).before args0 about1 = true := code_word (m := ⟨2, 4⟩) (meth := k2m4) (c := k2c4) (by decide +kernel) rfl rfl rfl (by decide +kernel)
set_option maxRecDepth 65536 in
theorem w_c5 : (Jvm.Cond.code ({ cls := "com/example/interval/interval/service/SlotTable", name := "set", desc := "(IIJ)V" } : Jvm.MethodName) prog_28_method_4_code (5 : Nat) (Option.none : Option Jvm.ClassFile.FieldType)).before args0 about1 = true := code_word (m := ⟨2, 2⟩) (meth := k2m2) (c := k2c2) (by decide +kernel) rfl rfl rfl (by decide +kernel)
set_option maxRecDepth 65536 in
theorem w_c6 : (Jvm.Cond.code ({ cls := "com/example/interval/interval/service/SlotOrder", name := "<init>", desc := "(Lcom/example/interval/interval/service/SlotTable;I)V" } : Jvm.MethodName) prog_26_method_1_code (3 : Nat) (Option.none : Option Jvm.ClassFile.FieldType)).before args0 about1 = true := code_word (m := ⟨3, 0⟩) (meth := k3m0) (c := k3c0) (by decide +kernel) rfl rfl rfl (by decide +kernel)
set_option maxRecDepth 65536 in
theorem w_c7 : (Jvm.Cond.code ({ cls := "com/example/interval/interval/service/SlotOrderFirstPinLaw", name := "pick", desc := "([J[J[ZII)I" } : Jvm.MethodName) method_3_code (6 : Nat) (Option.some Jvm.ClassFile.FieldType.int)).before args0 about1 = true := code_word (m := ⟨1, 2⟩) (meth := k1m2) (c := k1c2) (by decide +kernel) rfl rfl rfl (by decide +kernel)
set_option maxRecDepth 65536 in
theorem w_c8 : (Jvm.Cond.code ({ cls := "com/example/interval/interval/service/SlotOrder", name := "first", desc := "()I" } : Jvm.MethodName) prog_26_method_3_code (1 : Nat) (Option.some Jvm.ClassFile.FieldType.int)).before args0 about1 = true := code_word (m := ⟨3, 1⟩) (meth := k3m1) (c := k3c1) (by decide +kernel) rfl rfl rfl (by decide +kernel)
set_option maxRecDepth 65536 in
theorem w_c9 : (Jvm.Cond.code ({ cls := "com/example/interval/interval/service/SlotOrder", name := "add", desc := "(I)V" } : Jvm.MethodName) prog_26_method_7_code (9 : Nat) (Option.none : Option Jvm.ClassFile.FieldType)).before args0 about1 = true := code_word (m := ⟨3, 2⟩) (meth := k3m2) (c := k3c2) (by decide +kernel) rfl rfl rfl (by decide +kernel)
set_option maxRecDepth 65536 in
theorem w_c10 : (Jvm.Cond.code ({ cls := "com/example/interval/interval/service/SlotTable", name := "get", desc := "(II)J" } : Jvm.MethodName) prog_28_method_3_code (3 : Nat) (Option.some Jvm.ClassFile.FieldType.long)).before args0 about1 = true := code_word (m := ⟨2, 1⟩) (meth := k2m1) (c := k2c1) (by decide +kernel) rfl rfl rfl (by decide +kernel)
set_option maxRecDepth 65536 in
theorem w_c11 : (Jvm.Cond.code ({ cls := "com/example/interval/interval/service/SlotOrder", name := "insertRun", desc := "(I[II)V" } : Jvm.MethodName) prog_26_method_17_code (4 : Nat) (Option.none : Option Jvm.ClassFile.FieldType)).before args0 about1 = true := code_word (m := ⟨3, 9⟩) (meth := k3m9) (c := k3c9) (by decide +kernel) rfl rfl rfl (by decide +kernel)
set_option maxRecDepth 65536 in
theorem w_c12 : (Jvm.Cond.code ({ cls := "com/example/interval/interval/service/SlotOrder", name := "runOf", desc := "(JJ)I" } : Jvm.MethodName) prog_26_method_12_code (8 : Nat) (Option.some Jvm.ClassFile.FieldType.int)).before args0 about1 = true := code_word (m := ⟨3, 5⟩) (meth := k3m5) (c := k3c5) (by decide +kernel) rfl rfl rfl (by decide +kernel)
set_option maxRecDepth 65536 in
theorem w_c13 : (Jvm.Cond.code ({ cls := "com/example/interval/interval/service/SlotOrder", name := "indexIn", desc := "(IJJ)I" } : Jvm.MethodName) prog_26_method_13_code (10 : Nat) (Option.some Jvm.ClassFile.FieldType.int)).before args0 about1 = true := code_word (m := ⟨3, 6⟩) (meth := k3m6) (c := k3c6) (by decide +kernel) rfl rfl rfl (by decide +kernel)
set_option maxRecDepth 65536 in
theorem w_c14 : (Jvm.Cond.code ({ cls := "com/example/interval/interval/service/SlotOrder", name := "compare", desc := "(IJJ)I" } : Jvm.MethodName) prog_26_method_11_code (7 : Nat) (Option.some Jvm.ClassFile.FieldType.int)).before args0 about1 = true := code_word (m := ⟨3, 4⟩) (meth := k3m4) (c := k3c4) (by decide +kernel) rfl rfl rfl (by decide +kernel)
set_option maxRecDepth 65536 in
theorem w_c15 : (Jvm.Cond.code ({ cls := "java/lang/Long", name := "compare", desc := "(JJ)I" } : Jvm.MethodName) jdk_35_method_42_code (4 : Nat) (Option.some Jvm.ClassFile.FieldType.int)).before args0 about1 = true := code_word (m := ⟨10, 0⟩) (meth := k10m0) (c := k10c0) (by decide +kernel) rfl rfl rfl (by decide +kernel)
set_option maxRecDepth 65536 in
theorem w_c16 : (Jvm.Cond.code ({ cls := "com/example/interval/interval/service/SlotOrder", name := "remove", desc := "(I)V" } : Jvm.MethodName) prog_26_method_8_code (8 : Nat) (Option.none : Option Jvm.ClassFile.FieldType)).before args0 about1 = true := code_word (m := ⟨3, 3⟩) (meth := k3m3) (c := k3c3) (by decide +kernel) rfl rfl rfl (by decide +kernel)
set_option maxRecDepth 65536 in
theorem w_c17 : (Jvm.Cond.code ({ cls := "com/example/interval/interval/service/SlotOrder", name := "removeAt", desc := "(II)V" } : Jvm.MethodName) prog_26_method_14_code (4 : Nat) (Option.none : Option Jvm.ClassFile.FieldType)).before args0 about1 = true := code_word (m := ⟨3, 7⟩) (meth := k3m7) (c := k3c7) (by decide +kernel) rfl rfl rfl (by decide +kernel)
set_option maxRecDepth 65536 in
theorem w_c18 : (Jvm.Cond.code ({ cls := "com/example/interval/interval/service/SlotOrder", name := "mergeIfSparse", desc := "(I)V" } : Jvm.MethodName) prog_26_method_16_code (5 : Nat) (Option.none : Option Jvm.ClassFile.FieldType)).before args0 about1 = true := code_word (m := ⟨3, 8⟩) (meth := k3m8) (c := k3c8) (by decide +kernel) rfl rfl rfl (by decide +kernel)
set_option maxRecDepth 65536 in
theorem w_c19 : (Jvm.Cond.code ({ cls := "com/example/interval/interval/service/SlotOrder", name := "deleteRun", desc := "(I)V" } : Jvm.MethodName) prog_26_method_18_code (2 : Nat) (Option.none : Option Jvm.ClassFile.FieldType)).before args0 about1 = true := code_word (m := ⟨3, 10⟩) (meth := k3m10) (c := k3c10) (by decide +kernel) rfl rfl rfl (by decide +kernel)
def codes1 : List Jvm.Cond := [Jvm.Cond.code x code maxLocals ret, Jvm.Cond.code ({ cls := "com/example/interval/interval/service/SlotTable", name := "<init>", desc := "()V" } : Jvm.MethodName) prog_28_method_1_code (1 : Nat) (Option.none : Option Jvm.ClassFile.FieldType), Jvm.Cond.code ({ cls := "java/lang/Object", name := "<init>", desc := "()V" } : Jvm.MethodName) object_method_1_code (1 : Nat) (Option.none : Option Jvm.ClassFile.FieldType), Jvm.Cond.code ({ cls := "com/example/interval/interval/service/SlotTable", name := "add", desc := "(JJJJJ)I" } : Jvm.MethodName) prog_28_method_5_code (14 : Nat) (Option.some Jvm.ClassFile.FieldType.int), Jvm.Cond.code ({ cls := "com/example/interval/interval/service/SlotTable", name := "offset", desc := "(I)I" } : Jvm.MethodName) prog_28_method_8_code (1 : Nat) (Option.some Jvm.ClassFile.FieldType.int), Jvm.Cond.code ({ cls := "com/example/interval/interval/service/SlotTable", name := "set", desc := "(IIJ)V" } : Jvm.MethodName) prog_28_method_4_code (5 : Nat) (Option.none : Option Jvm.ClassFile.FieldType), Jvm.Cond.code ({ cls := "com/example/interval/interval/service/SlotOrder", name := "<init>", desc := "(Lcom/example/interval/interval/service/SlotTable;I)V" } : Jvm.MethodName) prog_26_method_1_code (3 : Nat) (Option.none : Option Jvm.ClassFile.FieldType), Jvm.Cond.code ({ cls := "com/example/interval/interval/service/SlotOrderFirstPinLaw", name := "pick", desc := "([J[J[ZII)I" } : Jvm.MethodName) method_3_code (6 : Nat) (Option.some Jvm.ClassFile.FieldType.int), Jvm.Cond.code ({ cls := "com/example/interval/interval/service/SlotOrder", name := "first", desc := "()I" } : Jvm.MethodName) prog_26_method_3_code (1 : Nat) (Option.some Jvm.ClassFile.FieldType.int), Jvm.Cond.code ({ cls := "com/example/interval/interval/service/SlotOrder", name := "add", desc := "(I)V" } : Jvm.MethodName) prog_26_method_7_code (9 : Nat) (Option.none : Option Jvm.ClassFile.FieldType), Jvm.Cond.code ({ cls := "com/example/interval/interval/service/SlotTable", name := "get", desc := "(II)J" } : Jvm.MethodName) prog_28_method_3_code (3 : Nat) (Option.some Jvm.ClassFile.FieldType.long), Jvm.Cond.code ({ cls := "com/example/interval/interval/service/SlotOrder", name := "insertRun", desc := "(I[II)V" } : Jvm.MethodName) prog_26_method_17_code (4 : Nat) (Option.none : Option Jvm.ClassFile.FieldType), Jvm.Cond.code ({ cls := "com/example/interval/interval/service/SlotOrder", name := "runOf", desc := "(JJ)I" } : Jvm.MethodName) prog_26_method_12_code (8 : Nat) (Option.some Jvm.ClassFile.FieldType.int), Jvm.Cond.code ({ cls := "com/example/interval/interval/service/SlotOrder", name := "indexIn", desc := "(IJJ)I" } : Jvm.MethodName) prog_26_method_13_code (10 : Nat) (Option.some Jvm.ClassFile.FieldType.int), Jvm.Cond.code ({ cls := "com/example/interval/interval/service/SlotOrder", name := "compare", desc := "(IJJ)I" } : Jvm.MethodName) prog_26_method_11_code (7 : Nat) (Option.some Jvm.ClassFile.FieldType.int), Jvm.Cond.code ({ cls := "java/lang/Long", name := "compare", desc := "(JJ)I" } : Jvm.MethodName) jdk_35_method_42_code (4 : Nat) (Option.some Jvm.ClassFile.FieldType.int), Jvm.Cond.code ({ cls := "com/example/interval/interval/service/SlotOrder", name := "remove", desc := "(I)V" } : Jvm.MethodName) prog_26_method_8_code (8 : Nat) (Option.none : Option Jvm.ClassFile.FieldType), Jvm.Cond.code ({ cls := "com/example/interval/interval/service/SlotOrder", name := "removeAt", desc := "(II)V" } : Jvm.MethodName) prog_26_method_14_code (4 : Nat) (Option.none : Option Jvm.ClassFile.FieldType), Jvm.Cond.code ({ cls := "com/example/interval/interval/service/SlotOrder", name := "mergeIfSparse", desc := "(I)V" } : Jvm.MethodName) prog_26_method_16_code (5 : Nat) (Option.none : Option Jvm.ClassFile.FieldType), Jvm.Cond.code ({ cls := "com/example/interval/interval/service/SlotOrder", name := "deleteRun", desc := "(I)V" } : Jvm.MethodName) prog_26_method_18_code (2 : Nat) (Option.none : Option Jvm.ClassFile.FieldType)]
set_option maxRecDepth 65536 in
theorem codes_eq : words1.filter isCode = codes1 := rfl
theorem w_codes : ∀ c ∈ words1.filter isCode, c.before args0 about1 = true := by
  rw [codes_eq]
  intro c hc
  simp only [codes1, List.mem_cons, List.not_mem_nil, or_false] at hc
  rcases hc with rfl | rfl | rfl | rfl | rfl | rfl | rfl | rfl | rfl | rfl | rfl | rfl | rfl | rfl | rfl | rfl | rfl | rfl | rfl | rfl
  · exact w_c0
  · exact w_c1
  · exact w_c2
  · exact w_c3
  · exact w_c4
  · exact w_c5
  · exact w_c6
  · exact w_c7
  · exact w_c8
  · exact w_c9
  · exact w_c10
  · exact w_c11
  · exact w_c12
  · exact w_c13
  · exact w_c14
  · exact w_c15
  · exact w_c16
  · exact w_c17
  · exact w_c18
  · exact w_c19
set_option maxRecDepth 65536 in
theorem w_t1 : (words1.take 24).all (fun c => isCode c || c.before args0 about1) = true := by decide +kernel
set_option maxRecDepth 65536 in
theorem w_t2 : ((words1.drop 24).take 24).all (fun c => isCode c || c.before args0 about1) = true := by decide +kernel
set_option maxRecDepth 65536 in
theorem w_t3 : (((words1.drop 24).drop 24).take 24).all (fun c => isCode c || c.before args0 about1) = true := by decide +kernel
set_option maxRecDepth 65536 in
theorem w_t4 : ((((words1.drop 24).drop 24).drop 24).take 24).all (fun c => isCode c || c.before args0 about1) = true := by decide +kernel
set_option maxRecDepth 65536 in
theorem w_t5 : ((((words1.drop 24).drop 24).drop 24).drop 24).all (fun c => isCode c || c.before args0 about1) = true := by decide +kernel
theorem w_tables : (allAtoms (Jvm.Cond.code x code maxLocals ret :: tables_1)).before args0 about1 = true := by
  rw [allAtoms_all]
  show words1.all (fun c => c.before args0 about1) = true
  refine all_split ?_ w_codes
  rw [← List.take_append_drop 24 words1, List.all_append, w_t1, ← List.take_append_drop 24 (words1.drop 24), List.all_append, w_t2, ← List.take_append_drop 24 ((words1.drop 24).drop 24), List.all_append, w_t3, ← List.take_append_drop 24 (((words1.drop 24).drop 24).drop 24), List.all_append, w_t4, w_t5]
  rfl
set_option maxRecDepth 65536 in
theorem w_case : (Jvm.Cond.and given_1 narrow_1).before args0 about1 = true := by decide +kernel
theorem w_applies : (headSpec (Jvm.Cond.code x code maxLocals ret :: tables_1) room_1).applies x e0.platform about1 = true :=
  (Spec.applies_iff w_frames).mpr ⟨w_running, w_runnable, w_alone, w_named, w_hears, w_ripe, w_room, w_tables⟩
theorem atStart : AtStart classFile x code maxLocals ret World_1 tables_1 room_1 Calls_1 rest_1 Pre_1 launch0 p0 e0 about1 theMethod args0 below0 :=
  ⟨lists_1, trivial, launch0.admits_env _ _ _, launch0.least_env, fairChoices_fair.cas, fairChoices_fair.clock, w_frames, w_args, w_heap, w_applies, trivial, trivial, w_case⟩
end start1
theorem witness_1 : WitnessClaimed_1 := ⟨start1.p0, start1.e0, start1.about1, start1.theMethod, start1.args0, start1.below0, start1.atStart⟩
end Jvm.Pilot.@@N@@
