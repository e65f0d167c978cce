import JvmDerived
import JvmDerived.Pilot.@@N@@Statement
import JvmDerived.Pilot.@@N@@Code
set_option linter.unusedVariables false
set_option linter.unusedSimpArgs false
@@BLOCK:NumsL.lean.txt@@
namespace Jvm.RoadKit
open Sem ClassFile Op Lib Jvm.Stand Jvm.Free Jvm.LawKit
section Goes
variable {p : Program} {l : Launch} {e : Env} {R : Room} {s : State} {m : MethodId} {args : Array Value} {below : List Frame} {meth : Method} {c : Code} {T : State} {locs : List Loc} {cells slots : Nat}
/-- from here the run comes to its return, and Q holds there -/
def Goes (p : Program) (e : Env) (below : List Frame) (s : State) (Q : Option Value → Heap → List Loc → Prop) (kc ks : Nat) (S : State) : Prop :=
  ∃ s₂ o, Steps p.tables e below S s₂ ∧ s₂.status = .running ∧ Ended s₂ below o ∧ ∃ v L, o = .returned v ∧ Q v s₂.heap L ∧ FrameEnd s o s₂ L kc ks
variable {Q Q' : Option Value → Heap → List Loc → Prop} {kc ks : Nat} {A B : State}
theorem Goes.go (h : ∀ t, Steps p.tables e below A t → Steps p.tables e below B t) (g : Goes p e below s Q kc ks A) : Goes p e below s Q kc ks B := by
  obtain ⟨s2, o, h1, h2⟩ := g
  exact ⟨s2, o, h _ h1, h2⟩
theorem Goes.tr (h : Steps p.tables e below B A) (g : Goes p e below s Q kc ks A) : Goes p e below s Q kc ks B := g.go fun _ k => h.trans k
theorem Goes.weaken (h : ∀ v hp L, Q' v hp L → Q v hp L) (g : Goes p e below s Q' kc ks A) : Goes p e below s Q kc ks A := by
  obtain ⟨s2, o, h1, h2, h3, v, L, h4, h5, h6⟩ := g
  exact ⟨s2, o, h1, h2, h3, v, L, h4, h _ _ _ h5, h6⟩
theorem Goes.castQ (h : Q = Q') (g : Goes p e below s Q' kc ks A) : Goes p e below s Q kc ks A := h ▸ g
theorem Goes.out (X : Stand p l e R s m args below meth c T locs cells slots) (hlk : meth.locks = false) {v : Option Value} (hv : meth.sig.returnType = none → v = none) {F : State}
    (hstep : ∀ fs, (∀ (f : JFrame) (acts : List Action), f.method = m → f.locked = none → f.entered = [] → (doReturn e (T.setTop f) acts v).1 = T.setFrames fs) → Steps p.tables e below F (T.setFrames fs))
    (hq : Q v T.heap locs) (hc : cells ≤ kc) (hs : slots ≤ ks) : Goes p e below s Q kc ks F := by
  obtain ⟨fs, hr, hrun, hended, hW, hsame⟩ := X.leave (v := v) hv hlk
  exact ⟨_, _, hstep fs hr, hrun, hended, _, _, rfl, hq, ⟨_, rfl⟩, hW, hsame.mono hc hs⟩
theorem retI (X : Stand p l e R s m args below meth c T locs cells slots) (hx : p.tables.exec = Jvm.exec) {pc : Nat} {Ls : Array Slot} {z : Int32} {rest : List Value} (hret : meth.sig.returnType = some .int) (hd : decode c.code pc = .ok (.ireturn, 1)) {fs : List Frame}
    (hl : ∀ (f : JFrame) (acts : List Action), f.method = m → f.locked = none → f.entered = [] → (doReturn e (T.setTop f) acts (some (.int z))).1 = T.setFrames fs) : Steps p.tables e below (T.setTop (mkF m pc Ls (.int z :: rest))) (T.setFrames fs) := by
  have hm' : T.vm.method? m = some meth := X.method'
  have hn : narrow .int (.int z) = .int z := rfl
  show Steps p.tables e below (T.setTop { method := m, pc := pc, locals := Ls, stack := _ :: rest, locked := none }) _
  jvm_step X.here [X.here.top, hx, hd, hm', hret, hn]
  first | (intro acts; rw [hl _ acts rfl rfl rfl]) | rw [hl _ _ rfl rfl rfl]
  exact Steps.refl _
theorem Goes.retI (X : Stand p l e R s m args below meth c T locs cells slots) (hx : p.tables.exec = Jvm.exec) (hlk : meth.locks = false) (hret : meth.sig.returnType = some .int) {pc : Nat} {Ls : Array Slot} {z : Int32} {rest : List Value} (hd : decode c.code pc = .ok (.ireturn, 1))
    (hq : Q (some (.int z)) T.heap locs) (hc : cells ≤ kc) (hs : slots ≤ ks) : Goes p e below s Q kc ks (T.setTop (mkF m pc Ls (.int z :: rest))) :=
  Goes.out X hlk (fun h => by rw [hret] at h; cases h) (fun fs hr => Jvm.RoadKit.retI X hx hret hd hr) hq hc hs
theorem Goes.retN (t : FieldType) (X : Stand p l e R s m args below meth c T locs cells slots) (hx : p.tables.exec = Jvm.exec) (hlk : meth.locks = false) (hret : meth.sig.returnType = some t) (ht : t = .boolean ∨ t = .byte ∨ t = .char ∨ t = .short) {pc : Nat} {Ls : Array Slot} {z : Int32} {rest : List Value} (hd : decode c.code pc = .ok (.ireturn, 1))
    (hq : Q (some (.int (nar t z))) T.heap locs) (hc : cells ≤ kc) (hs : slots ≤ ks) : Goes p e below s Q kc ks (T.setTop (mkF m pc Ls (.int z :: rest))) :=
  Goes.out X hlk (fun h => by rw [hret] at h; cases h) (fun fs hr => Jvm.RoadKit.retN X hx hret ht hd hr) hq hc hs
theorem Goes.ret0 (X : Stand p l e R s m args below meth c T locs cells slots) (hx : p.tables.exec = Jvm.exec) (hlk : meth.locks = false) (hret : meth.sig.returnType = none) {pc : Nat} {Ls : Array Slot} (hd : decode c.code pc = .ok (.return_, 1))
    (hq : Q none T.heap locs) (hc : cells ≤ kc) (hs : slots ≤ ks) : Goes p e below s Q kc ks (T.setTop (mkF m pc Ls [])) :=
  Goes.out X hlk (fun _ => rfl) (fun fs hr => X.returnOut hx hret hd hr) hq hc hs
theorem Goes.retJ (X : Stand p l e R s m args below meth c T locs cells slots) (hx : p.tables.exec = Jvm.exec) (hlk : meth.locks = false) (hret : meth.sig.returnType = some .long) {pc : Nat} {Ls : Array Slot} {z : Int64} (hd : decode c.code pc = .ok (.lreturn, 1))
    (hq : Q (some (.long z)) T.heap locs) (hc : cells ≤ kc) (hs : slots ≤ ks) : Goes p e below s Q kc ks (T.setTop (mkF m pc Ls [.long z])) :=
  Goes.out X hlk (fun h => by rw [hret] at h; cases h) (fun fs hr => X.lreturnOut hx hret hd hr) hq hc hs
theorem Goes.retA (X : Stand p l e R s m args below meth c T locs cells slots) (hx : p.tables.exec = Jvm.exec) (hlk : meth.locks = false) {w : Value} (hw : w.isRef = true) {t : FieldType} (hret : meth.sig.returnType = some t) (ht : t.isReference = true) {pc : Nat} {Ls : Array Slot} (hd : decode c.code pc = .ok (.areturn, 1))
    (hq : Q (some w) T.heap locs) (hc : cells ≤ kc) (hs : slots ≤ ks) : Goes p e below s Q kc ks (T.setTop (mkF m pc Ls [w])) :=
  Goes.out X hlk (fun h => by rw [hret] at h; cases h) (fun fs hr => X.areturnOut hx hw hret ht hd hr) hq hc hs
/-- the answer of a method that writes nothing -/
def Qp (z : Value) (h0 : Heap) (n0 : Nat) (v : Option Value) (h : Heap) (L : List Loc) : Prop := v = some z ∧ Fr n0 L ∧ h = h0
/-- the answer of a method that writes nothing and returns nothing -/
def Qn (h0 : Heap) (n0 : Nat) (v : Option Value) (h : Heap) (L : List Loc) : Prop := v = none ∧ Fr n0 L ∧ h = h0
theorem Goes.qi {z z' : Int32} {h0 : Heap} {n0 : Nat} (h : z = z') (g : Goes p e below s (Qp (.int z') h0 n0) kc ks A) : Goes p e below s (Qp (.int z) h0 n0) kc ks A := h ▸ g
theorem Goes.qj {z z' : Int64} {h0 : Heap} {n0 : Nat} (h : z = z') (g : Goes p e below s (Qp (.long z') h0 n0) kc ks A) : Goes p e below s (Qp (.long z) h0 n0) kc ks A := h ▸ g
end Goes
end Jvm.RoadKit
namespace Jvm.RoadKit
open Sem ClassFile Op Lib Jvm.Stand Jvm.Free Jvm.LawKit
/-- an array of ints (bytes, chars, booleans): its length and what each place holds -/
def IA (Z : State) (h : Heap) (a : Addr) (ty : FieldType) (n : Nat) (f : Nat → Int32) : Prop :=
  ∃ c : Cell, Arr Z h a c ty ∧ c.slots.size = n ∧ n < 2 ^ 31 ∧ ∀ i, i < n → c.slots[i]? = some (.int (f i)) ∧ fits ty (.int (f i)) = true
def upd (f : Nat → Int32) (i : Nat) (v : Int32) : Nat → Int32 := fun k => if k = i then v else f k
section IAs
variable {p : Program} {l : Launch} {e : Env} {R : Room} {s : State} {m : MethodId} {args : Array Value} {below : List Frame} {meth : Method} {c : Code} {T : State} {locs : List Loc} {cells slots : Nat} {Z : State} {a0 : Array Value} {h h' : Heap} {a b : Addr} {ty : FieldType} {n : Nat} {f f' : Nat → Int32} {sl : Nat} {v : Value} {ws : List Addr}
theorem IA.lt (F : IA Z h a ty n f) : a < h.size := by obtain ⟨c, A, -⟩ := F; exact A.lt
theorem IA.ext (F : IA Z h a ty n f) (E : Ext h h') : IA Z h' a ty n f := by obtain ⟨c, A, r⟩ := F; exact ⟨c, A.ext E, r⟩
theorem IA.other (F : IA Z h b ty n f) (W : Wr h h' a sl v) (q : b ≠ a) : IA Z h' b ty n f := by obtain ⟨c, A, r⟩ := F; exact ⟨c, A.other W q, r⟩
theorem IA.keep (F : IA Z h a ty n f) (K : Keep h h' ws) (q : a ∉ ws) : IA Z h' a ty n f := by obtain ⟨c, A, r⟩ := F; exact ⟨c, ⟨K.2.1 a c A.1 q, A.2⟩, r⟩
theorem IA.as (F : IA Z h a ty n f) (q : ∀ i, i < n → f i = f' i) : IA Z h a ty n f' := by
  obtain ⟨c, A, S, M, H⟩ := F
  exact ⟨c, A, S, M, fun i hi => by rw [← q i hi]; exact H i hi⟩
theorem IA.bound (F : IA Z h a ty n f) : n < 2 ^ 31 := by obtain ⟨c, A, S, M, H⟩ := F; exact M
theorem own_nat {i : Nat} (hi : i < 2 ^ 31) : (Int32.ofNat i).toInt = i := Int32.toInt_ofNat_of_lt (by omega)
theorem own_cl {i : Nat} (hi : i < 2 ^ 31) : (Int32.ofNat i).toNatClampNeg = i := by
  have := own_nat hi
  show (Int32.ofNat i).toInt.toNat = i
  omega
theorem own_in {i : Nat} (hi : i < n) (hn : n < 2 ^ 31) : ¬ (Int32.ofNat i < 0 ∨ n ≤ (Int32.ofNat i).toNatClampNeg) := by
  rw [own_cl (by omega)]
  rintro (q | q)
  · have := Int32.lt_iff_toInt_lt.mp q
    rw [own_nat (by omega)] at this
    have z : (0 : Int32).toInt = 0 := rfl
    omega
  · omega
theorem IA.set {c : Cell} (A : Arr Z h a c ty) (S : c.slots.size = n) (M : n < 2 ^ 31) (H : ∀ i, i < n → c.slots[i]? = some (.int (f i)) ∧ fits ty (.int (f i)) = true) {i : Nat} (hi : i < n) {x : Int32} (hx : fits ty (.int x) = true) (W : Wr h h' a i (.int x)) : IA Z h' a ty n (upd f i x) := by
  refine ⟨c.setSlot i (.int x), A.same W, by rw [sz_set]; exact S, M, fun k hk => ?_⟩
  by_cases q : k = i
  · subst q
    simp only [upd, if_pos]
    exact ⟨by simp [Cell.setSlot, S, hk], hx⟩
  · simp only [upd, if_neg q]
    refine ⟨?_, (H k hk).2⟩
    rw [← (H k hk).1]
    simp only [Cell.setSlot]
    exact Array.getElem?_setIfInBounds_ne (Ne.symm q)
theorem own_newA (X : Stand p l e R s m args below meth c T locs cells slots) (hx : p.tables.exec = Jvm.exec) (hZ : Z.Warmed39 s.vm) {aty : ArrayType} (w : (Cond.arrayClass (newarray.typeOf aty)).before a0 Z = true) (eT : T.heap = h) {g : JFrame} (hg : g.method = m) (hd : decode c.code g.pc = .ok (.newarray aty, 2)) {z : Int32} {rest : List Value} (hs : g.stack = .int z :: rest)
    {n : Nat} (hz : z = Int32.ofNat n) {cap : Nat} (hcap : n ≤ cap) (hb : cap * 8 ≤ 536870912) (hc : cells + 1 ≤ R.cells) (hl : slots + cap ≤ R.slots) (hdv : defaultValue (newarray.typeOf aty) = .int 0) (hft : fits (newarray.typeOf aty) (.int 0) = true) {ad : String} (had : "[" ++ (newarray.typeOf aty).toString = ad) :
    ∃ T' h', Stand p l e R s m args below meth c T' locs (cells + 1) (slots + cap) ∧ T'.heap = h' ∧ Ext h h' ∧ IA Z h' h.size (newarray.typeOf aty) n (fun _ => 0) ∧ Exa Z h' h.size ad ∧
      ∀ target, Steps p.tables e below (T'.setTop { g with pc := g.pc + 2, stack := .ref h.size :: rest }) target → Steps p.tables e below (T.setTop g) target := by
  have hn31 : n < 2 ^ 31 := by omega
  have hcl : z.toNatClampNeg = n := by rw [hz]; exact own_cl hn31
  have hneg : ¬ z < 0 := by
    rw [hz]; intro q
    have := Int32.lt_iff_toInt_lt.mp q
    rw [own_nat hn31] at this
    have z : (0 : Int32).toInt = 0 := rfl
    omega
  obtain ⟨T', h', cA, X', e', E, A, EX, st⟩ := newPE X hx hZ w eT hg hd hs hneg (cap := cap) (by rw [hcl]; exact hcap) hb hc hl had
  refine ⟨T', h', X', e', E, ⟨_, A, by rw [sz_new]; exact hcl, hn31, fun i hi => ⟨?_, hft⟩⟩, EX, st⟩
  have := get_new (cA := cA) (ty := newarray.typeOf aty) (n := z) (k := Int32.ofNat i) (by rw [hcl]; exact own_in hi hn31)
  rw [own_cl (by omega), hdv] at this
  exact this
theorem own_stI (X : Stand p l e R s m args below meth c T locs cells slots) (hx : p.tables.exec = Jvm.exec) (hZ : Z.Warmed39 s.vm) (eT : T.heap = h) (A : IA Z h a .int n f) {j x : Int32} {i : Nat} (hj : j = Int32.ofNat i) (hi : i < n) {g : JFrame} (hg : g.method = m) {rest : List Value} (hs : g.stack = .int x :: .int j :: .ref a :: rest) (hd : decode c.code g.pc = .ok (.iastore, 1)) :
    ∃ T' h', Stand p l e R s m args below meth c T' (locs ++ [⟨a, i⟩]) cells slots ∧ T'.heap = h' ∧ Wr h h' a i (.int x) ∧ IA Z h' a .int n (upd f i x) ∧ ∀ target, Steps p.tables e below (T'.setTop { g with pc := g.pc + 1, stack := rest }) target → Steps p.tables e below (T.setTop g) target := by
  obtain ⟨cl, A, S, M, H⟩ := A
  subst hj
  obtain ⟨T', h', X', e', W, st⟩ := stI X hx hZ eT A (j := Int32.ofNat i) (by rw [S]; exact own_in hi M) hg hs hd
  rw [own_cl (by omega)] at X' W
  exact ⟨T', h', X', e', W, IA.set A S M H hi rfl W, st⟩
theorem own_stB (X : Stand p l e R s m args below meth c T locs cells slots) (hx : p.tables.exec = Jvm.exec) (hZ : Z.Warmed39 s.vm) (eT : T.heap = h) (A : IA Z h a .byte n f) {j x : Int32} {i : Nat} (hj : j = Int32.ofNat i) (hi : i < n) {g : JFrame} (hg : g.method = m) {rest : List Value} (hs : g.stack = .int x :: .int j :: .ref a :: rest) (hd : decode c.code g.pc = .ok (.bastore, 1)) :
    ∃ T' h', Stand p l e R s m args below meth c T' (locs ++ [⟨a, i⟩]) cells slots ∧ T'.heap = h' ∧ Wr h h' a i (.int (nar .byte x)) ∧ IA Z h' a .byte n (upd f i (nar .byte x)) ∧ ∀ target, Steps p.tables e below (T'.setTop { g with pc := g.pc + 1, stack := rest }) target → Steps p.tables e below (T.setTop g) target := by
  obtain ⟨cl, A, S, M, H⟩ := A
  subst hj
  obtain ⟨T', h', X', e', W, st⟩ := stB X hx hZ eT A (j := Int32.ofNat i) (by rw [S]; exact own_in hi M) hg hs hd
  rw [own_cl (by omega)] at X' W
  exact ⟨T', h', X', e', W, IA.set A S M H hi (fits_nar_byte _) W, st⟩
theorem own_stC (X : Stand p l e R s m args below meth c T locs cells slots) (hx : p.tables.exec = Jvm.exec) (hZ : Z.Warmed39 s.vm) (eT : T.heap = h) (A : IA Z h a .char n f) {j x : Int32} {i : Nat} (hj : j = Int32.ofNat i) (hi : i < n) {g : JFrame} (hg : g.method = m) {rest : List Value} (hs : g.stack = .int x :: .int j :: .ref a :: rest) (hd : decode c.code g.pc = .ok (.castore, 1)) :
    ∃ T' h', Stand p l e R s m args below meth c T' (locs ++ [⟨a, i⟩]) cells slots ∧ T'.heap = h' ∧ Wr h h' a i (.int (nar .char x)) ∧ IA Z h' a .char n (upd f i (nar .char x)) ∧ ∀ target, Steps p.tables e below (T'.setTop { g with pc := g.pc + 1, stack := rest }) target → Steps p.tables e below (T.setTop g) target := by
  obtain ⟨cl, A, S, M, H⟩ := A
  subst hj
  obtain ⟨T', h', X', e', W, st⟩ := stC X hx hZ eT A (j := Int32.ofNat i) (by rw [S]; exact own_in hi M) hg hs hd
  rw [own_cl (by omega)] at X' W
  exact ⟨T', h', X', e', W, IA.set A S M H hi (fits_nar_char _) W, st⟩
theorem own_stZ (X : Stand p l e R s m args below meth c T locs cells slots) (hx : p.tables.exec = Jvm.exec) (hZ : Z.Warmed39 s.vm) (eT : T.heap = h) (A : IA Z h a .boolean n f) {j x : Int32} {i : Nat} (hj : j = Int32.ofNat i) (hi : i < n) {g : JFrame} (hg : g.method = m) {rest : List Value} (hs : g.stack = .int x :: .int j :: .ref a :: rest) (hd : decode c.code g.pc = .ok (.bastore, 1)) :
    ∃ T' h', Stand p l e R s m args below meth c T' (locs ++ [⟨a, i⟩]) cells slots ∧ T'.heap = h' ∧ Wr h h' a i (.int (nar .boolean x)) ∧ IA Z h' a .boolean n (upd f i (nar .boolean x)) ∧ ∀ target, Steps p.tables e below (T'.setTop { g with pc := g.pc + 1, stack := rest }) target → Steps p.tables e below (T.setTop g) target := by
  obtain ⟨cl, A, S, M, H⟩ := A
  subst hj
  obtain ⟨T', h', X', e', W, st⟩ := stZ X hx hZ eT A (j := Int32.ofNat i) (by rw [S]; exact own_in hi M) hg hs hd
  rw [own_cl (by omega)] at X' W
  exact ⟨T', h', X', e', W, IA.set A S M H hi (fits_nar_bool _) W, st⟩
theorem own_ldI (X : Stand p l e R s m args below meth c T locs cells slots) (hx : p.tables.exec = Jvm.exec) (hZ : Z.Warmed39 s.vm) (eT : T.heap = h) (A : IA Z h a .int n f) {j : Int32} {i : Nat} (hj : j = Int32.ofNat i) (hi : i < n) {g : JFrame} (hg : g.method = m) {rest : List Value} (hs : g.stack = .int j :: .ref a :: rest) (hd : decode c.code g.pc = .ok (.iaload, 1)) :
    ∀ target, Steps p.tables e below (T.setTop { g with pc := g.pc + 1, stack := .int (f i) :: rest }) target → Steps p.tables e below (T.setTop g) target := by
  obtain ⟨cl, A, S, M, H⟩ := A
  subst hj
  exact X.iaload hx (j := Int32.ofNat i) (v := .int (f i)) (by rw [eT]; exact A.1) (State.isArrayOf_alike hZ.alike A.2.1) A.2.2 (by rw [S]; exact own_in hi M) (by rw [own_cl (by omega)]; exact (H i hi).1) hg hs hd
theorem own_ldB (X : Stand p l e R s m args below meth c T locs cells slots) (hx : p.tables.exec = Jvm.exec) (hZ : Z.Warmed39 s.vm) (eT : T.heap = h) (A : IA Z h a .byte n f) {j : Int32} {i : Nat} (hj : j = Int32.ofNat i) (hi : i < n) {g : JFrame} (hg : g.method = m) {rest : List Value} (hs : g.stack = .int j :: .ref a :: rest) (hd : decode c.code g.pc = .ok (.baload, 1)) :
    ∀ target, Steps p.tables e below (T.setTop { g with pc := g.pc + 1, stack := .int (f i) :: rest }) target → Steps p.tables e below (T.setTop g) target := by
  obtain ⟨cl, A, S, M, H⟩ := A
  subst hj
  exact X.baloadBytes hx (j := Int32.ofNat i) (v := .int (f i)) (by rw [eT]; exact A.1) (State.isArrayOf_alike hZ.alike A.2.1) A.2.2 (by rw [S]; exact own_in hi M) (by rw [own_cl (by omega)]; exact (H i hi).1) hg hs hd
theorem own_ldZ (X : Stand p l e R s m args below meth c T locs cells slots) (hx : p.tables.exec = Jvm.exec) (hZ : Z.Warmed39 s.vm) (eT : T.heap = h) (A : IA Z h a .boolean n f) {j : Int32} {i : Nat} (hj : j = Int32.ofNat i) (hi : i < n) {g : JFrame} (hg : g.method = m) {rest : List Value} (hs : g.stack = .int j :: .ref a :: rest) (hd : decode c.code g.pc = .ok (.baload, 1)) :
    ∀ target, Steps p.tables e below (T.setTop { g with pc := g.pc + 1, stack := .int (f i) :: rest }) target → Steps p.tables e below (T.setTop g) target := by
  obtain ⟨cl, A, S, M, H⟩ := A
  subst hj
  exact X.baloadBooleans hx (j := Int32.ofNat i) (v := .int (f i)) (by rw [eT]; exact A.1) (State.isArrayOf_alike hZ.alike A.2.1) A.2.2 (by rw [S]; exact own_in hi M) (by rw [own_cl (by omega)]; exact (H i hi).1) hg hs hd
theorem own_ldC (X : Stand p l e R s m args below meth c T locs cells slots) (hx : p.tables.exec = Jvm.exec) (hZ : Z.Warmed39 s.vm) (eT : T.heap = h) (A : IA Z h a .char n f) {j : Int32} {i : Nat} (hj : j = Int32.ofNat i) (hi : i < n) {g : JFrame} (hg : g.method = m) {rest : List Value} (hs : g.stack = .int j :: .ref a :: rest) (hd : decode c.code g.pc = .ok (.caload, 1)) :
    ∀ target, Steps p.tables e below (T.setTop { g with pc := g.pc + 1, stack := .int (f i) :: rest }) target → Steps p.tables e below (T.setTop g) target := by
  obtain ⟨cl, A, S, M, H⟩ := A
  subst hj
  exact X.caload hx (j := Int32.ofNat i) (v := .int (f i)) (by rw [eT]; exact A.1) (State.isArrayOf_alike hZ.alike A.2.1) A.2.2 (by rw [S]; exact own_in hi M) (by rw [own_cl (by omega)]; exact (H i hi).1) hg hs hd
theorem own_len (X : Stand p l e R s m args below meth c T locs cells slots) (hx : p.tables.exec = Jvm.exec) (hZ : Z.Warmed39 s.vm) (eT : T.heap = h) (A : IA Z h a ty n f) {g : JFrame} (hg : g.method = m) {rest : List Value} (hs : g.stack = .ref a :: rest) (hd : decode c.code g.pc = .ok (.arraylength, 1)) :
    ∀ target, Steps p.tables e below (T.setTop { g with pc := g.pc + 1, stack := .int (Int32.ofNat n) :: rest }) target → Steps p.tables e below (T.setTop g) target := by
  obtain ⟨cl, A, S, M, H⟩ := A
  subst S
  exact X.arraylength hx (by rw [eT]; exact A.1) (State.isArrayOf_alike hZ.alike A.2.1) hg hs hd
end IAs
end Jvm.RoadKit
namespace Jvm.RoadKit
open Sem ClassFile Op Lib Jvm.Stand Jvm.Free Jvm.LawKit
theorem own_eqNat {x : Int32} {n : Nat} (h : x.toInt = n) : x = Int32.ofNat n := Int32.toInt_inj.mp (by rw [h, own_nat (by have := x.toInt_lt; omega)])
theorem own_andN (x m : Int32) (k : Nat) (hk : k < 32) (hm : m.toBitVec.toNat = 2 ^ k - 1) : ∃ n : Nat, n < 2 ^ k ∧ x &&& m = Int32.ofNat n := by
  have h := Jvm.Kit.i32_mask x m hk hm
  have hpos : (0 : Int) < 2 ^ k := Int.pow_pos (by decide)
  have h1 := Int.emod_nonneg x.toInt (Int.ne_of_gt hpos)
  have h2 := Int.emod_lt_of_pos x.toInt hpos
  refine ⟨(x.toInt % 2 ^ k).toNat, ?_, own_eqNat ?_⟩
  · have e : ((2 ^ k : Nat) : Int) = (2 : Int) ^ k := by rw [Int.natCast_pow]; rfl
    omega
  · rw [h]; omega
theorem own_modN (x : Int32) (d : Nat) (h0 : 0 < d) (hd : d < 2 ^ 31) : ∃ n : Nat, n < d ∧ (x &&& 2147483647) % Int32.ofNat d = Int32.ofNat n := by
  have h := Jvm.Kit.i32_mask x 2147483647 (k := 31) (by decide) (by decide)
  have h1 := Int.emod_nonneg x.toInt (show (2 : Int) ^ 31 ≠ 0 by decide)
  have e := Jvm.Kit.i32_rem_nonneg (x := x &&& 2147483647) (y := Int32.ofNat d) (by rw [h]; exact h1)
  rw [own_nat hd] at e
  have h2 := Int.emod_nonneg (x &&& 2147483647).toInt (show (d : Int) ≠ 0 by omega)
  have h3 := Int.emod_lt_of_pos (x &&& 2147483647).toInt (show (0 : Int) < d by omega)
  exact ⟨((x &&& 2147483647).toInt % d).toNat, by omega, own_eqNat (by rw [e]; omega)⟩
theorem own_lt {i n : Nat} (hi : i < 2 ^ 31) (hn : n < 2 ^ 31) : Int32.ofNat i < Int32.ofNat n ↔ i < n := by
  rw [Int32.lt_iff_toInt_lt, own_nat hi, own_nat hn]; omega
theorem own_inj {i n : Nat} (hi : i < 2 ^ 31) (hn : n < 2 ^ 31) : Int32.ofNat i = Int32.ofNat n ↔ i = n := by
  rw [← Int32.toInt_inj, own_nat hi, own_nat hn]; omega
theorem own_add {i n : Nat} (h : i + n < 2 ^ 31) : Int32.ofNat i + Int32.ofNat n = Int32.ofNat (i + n) :=
  own_eqNat (by rw [Jvm.Kit.i32_add (by rw [own_nat (by omega), own_nat (by omega)]; omega) (by rw [own_nat (by omega), own_nat (by omega)]; omega), own_nat (by omega), own_nat (by omega)]; omega)
end Jvm.RoadKit
namespace Jvm.RoadKit
open Sem ClassFile Op Lib Jvm.Stand Jvm.Free Jvm.LawKit
section Switch
variable {p : Program} {l : Launch} {e : Env} {R : Room} {s : State} {m : MethodId} {args : Array Value} {below : List Frame} {meth : Method} {c : Code} {T : State} {locs : List Loc} {cells slots : Nat}
theorem own_lswH (X : Stand p l e R s m args below meth c T locs cells slots) (hx : p.tables.exec = Jvm.exec) {g : JFrame} (hg : g.method = m) {k : Int32} {rest : List Value} {pc0 pc' : Nat} (hpc : g.pc = pc0)
    (hs : g.stack = .int k :: rest) {dflt : Int} {pairs : Array (Int × Int)} {len : Nat} (hd : decode c.code g.pc = .ok (.lookupswitch dflt pairs, len))
    (hsorted : (pairs.toList.zip (pairs.toList.drop 1)).all (fun (a, next) => a.1 < next.1) = true) {a off : Int} (hfind : pairs.find? (·.1 == k.toInt) = some (a, off)) (ho : 0 ≤ (pc0 : Int) + off) (hp : ((pc0 : Int) + off).toNat = pc')
    (target : State) (hr : Steps p.tables e below (T.setTop { g with pc := pc', stack := rest }) target) : Steps p.tables e below (T.setTop g) target := by
  subst hpc hp
  exact X.lookupswitchHit hx hg hs hd hsorted hfind ho target hr
theorem own_lswM (X : Stand p l e R s m args below meth c T locs cells slots) (hx : p.tables.exec = Jvm.exec) {g : JFrame} (hg : g.method = m) {k : Int32} {rest : List Value} {pc0 pc' : Nat} (hpc : g.pc = pc0)
    (hs : g.stack = .int k :: rest) {dflt : Int} {pairs : Array (Int × Int)} {len : Nat} (hd : decode c.code g.pc = .ok (.lookupswitch dflt pairs, len))
    (hsorted : (pairs.toList.zip (pairs.toList.drop 1)).all (fun (a, next) => a.1 < next.1) = true) (hfind : ∀ q ∈ pairs.toList, q.1 ≠ k.toInt) (ho : 0 ≤ (pc0 : Int) + dflt) (hp : ((pc0 : Int) + dflt).toNat = pc')
    (target : State) (hr : Steps p.tables e below (T.setTop { g with pc := pc', stack := rest }) target) : Steps p.tables e below (T.setTop g) target := by
  subst hpc hp
  exact X.lookupswitchMiss hx hg hs hd hsorted (find_miss hfind) ho target hr
theorem own_nk {x y : Int32} {z : Int} (hz : y.toInt = z) (h : ¬ x = y) : z ≠ x.toInt := fun q => h (Int32.toInt_inj.mp (q.symm.trans hz.symm))
end Switch
end Jvm.RoadKit
namespace Jvm.RoadKit
open Sem ClassFile Op Lib Jvm.Stand Jvm.Free Jvm.LawKit
section Statics
variable {Z : State} {args : Array Value} {C n d K : String} {t : Term} {a : Addr}
theorem own_sta (h : (Cond.exactly (.static C n d) K).value args Z none Z [] = some true) (hi : (Cond.initialized C).before args Z = true) (hl : (Cond.laysStatic C n d).before args Z = true) : ∃ a, (Term.static C n d).eval args Z none [] Z = some (.ref a) ∧ Sta Z Z.heap C n d (.ref a) ∧ Exa Z Z.heap a K := by
  obtain ⟨a, e⟩ := exa_v h
  exact ⟨a, e, Sta.start e (Or.inr ⟨hi, hl⟩), Exa.start e h⟩
theorem own_stfI {k : Int32} (e : t.eval args Z none [] Z = some (.ref a)) (h : (Cond.eq (.field t C n d) (.int k)).value args Z none Z [] = some true) : Fld Z Z.heap a C n d (.int k) := by
  apply Fld.start
  simp only [Cond.value, Term.eval, e, Option.bind_eq_bind, Option.bind_some] at h
  cases hf : Z.fieldOf? a C n d with
  | none => simp [hf] at h
  | some x => cases x <;> simp [hf] at h ⊢; exact h
theorem own_stfJ {k : Int64} (e : t.eval args Z none [] Z = some (.ref a)) (h : (Cond.eq (.field t C n d) (.long k)).value args Z none Z [] = some true) : Fld Z Z.heap a C n d (.long k) := by
  apply Fld.start
  simp only [Cond.value, Term.eval, e, Option.bind_eq_bind, Option.bind_some] at h
  cases hf : Z.fieldOf? a C n d with
  | none => simp [hf] at h
  | some x => cases x <;> simp [hf] at h ⊢; exact h
end Statics
end Jvm.RoadKit
namespace Jvm.RoadKit
open Sem ClassFile Op Lib Jvm.Stand Jvm.Free Jvm.LawKit
theorem own_lrem {tb : Tables} [Ours tb] {e : Env} {below : List Frame} {T target : State} {m : MethodId} {c : Code} {g : JFrame} (h : At T m c below) (hx : tb.exec = Jvm.exec) (hg : g.method = m) {x y : Int64} {rest : List Value} (hd : decode c.code g.pc = .ok (.lrem, 1)) (hs : g.stack = .long y :: .long x :: rest) (hy : y ≠ 0)
    (hr : Steps tb e below (T.setTop { g with pc := g.pc + 1, stack := .long (x % y) :: rest }) target) : Steps tb e below (T.setTop g) target :=
  XS.lrem h hx hg hd hs hy (by rw [lrem_mod]; exact hr)
theorem own_div1 (x : Int64) : x / 1 = x := Int64.toInt_inj.mp (by
  rw [Jvm.Kit.i64_div (fun q => by have := q.2; revert this; decide)]
  show x.toInt.tdiv 1 = x.toInt
  exact Int.tdiv_one _)
end Jvm.RoadKit
namespace Jvm.RoadKit
open Sem ClassFile Op Lib Jvm.Stand Jvm.Free Jvm.LawKit
theorem own_kx {h h' : Heap} (K : Keep h h' []) : Ext h h' := ⟨K.1, fun a c q => K.2.1 a c q nin0⟩
section Unlike
variable {Z : State} {a0 : Array Value}
theorem own_nsroot {O K : String} {n : Nat} (w : (Cond.noSuperclass O).before a0 Z = true) (wk : (Cond.instantiable K n).before a0 Z = true) (hn : O ≠ K) : NS Z O K := by
  obtain ⟨c, k, h1, h2, h3, -, -⟩ := Cond.noSuperclass_spec w
  obtain ⟨t, k', g1, g2, -⟩ := Cond.instantiable_spec wk
  have ne := ids_ne h1 g1 hn
  refine ⟨c, t, h1, g1, fun fuel => ?_⟩
  cases fuel with
  | zero => rfl
  | succ f => simp [Vm.isSubclassAux, ne, h2, h3]
theorem own_nsno {C S K : String} {n : Nat} (w : (Cond.superclass C S).before a0 Z = true) (wk : (Cond.instantiable K n).before a0 Z = true) (N : NS Z C K) (hn : C ≠ K) : ∃ c t, Z.vm.findClass C = some c ∧ Z.vm.findClass K = some t ∧ Z.vm.assignable c t = false := by
  obtain ⟨c, t, h0, g0, n3⟩ := N
  obtain ⟨p, k, kp, h1, h2, h3, h4, h5, -, h7⟩ := Cond.superclass_spec h0 w
  obtain ⟨t', k', g1, g2, g3, g4, -⟩ := Cond.instantiable_spec wk
  cases g0.symm.trans g1
  have g7 : k'.isInterface = false := by
    cases hq : k'.isInterface with
    | false => rfl
    | true => rw [hq] at g4; simp at g4
  have ne := ids_ne h0 g0 hn
  refine ⟨c, t, h0, g0, ?_⟩
  show Z.vm.assignableAux (255 + 1) c t = false
  simp [Vm.assignableAux, ne, h2, g2, h5, g3, g7, Vm.isSubclass, n3]
end Unlike
end Jvm.RoadKit
namespace Jvm.RoadKit
open Sem ClassFile Op Lib Jvm.Stand Jvm.Free Jvm.LawKit
section Clone
variable {p : Program} {l : Launch} {e : Env} {R : Room} {s : State} {m : MethodId} {args : Array Value} {below : List Frame} {meth : Method} {c : Code} {T : State} {locs : List Loc} {cells slots : Nat} {Z : State} {a0 : Array Value} {h : Heap} {a : Addr} {ty : FieldType} {n : Nat} {f : Nat → Int32}
theorem own_clone (X : Stand p l e R s m args below meth c T locs cells slots) (hx : p.tables.exec = Jvm.exec) (hZ : Z.Warmed39 s.vm) {own ad : String} {index : Nat} (hown : s.vm.findClass own = some m.cls)
    (w1 : (Cond.methodLink own index ⟨ad, "clone", "()Ljava/lang/Object;"⟩).before a0 Z = true) (w2 : (Cond.sameMethod ad "java/lang/Object" "clone" "()Ljava/lang/Object;").before a0 Z = true) (w3 : (Cond.native ⟨"java/lang/Object", "clone", "()Ljava/lang/Object;"⟩).before a0 Z = true)
    (w4 : (Cond.instanceMethod ⟨"java/lang/Object", "clone", "()Ljava/lang/Object;"⟩).before a0 Z = true) (w5 : (Cond.selects ad ⟨ad, "clone", "()Ljava/lang/Object;"⟩ ⟨"java/lang/Object", "clone", "()Ljava/lang/Object;"⟩).before a0 Z = true) (w6 : (Cond.castable ad "java/lang/Cloneable").before a0 Z = true)
    (eT : T.heap = h) (A : IA Z h a ty n f) (E : Exa Z h a ad) {g : JFrame} (hg : g.method = m) (hsize : g.locals.size = c.maxLocals) {rest : List Value} (hs : g.stack = .ref a :: rest) (hd : decode c.code g.pc = .ok (.invokevirtual index, 3))
    (hf : 1 ≤ R.frames) {W cap : Nat} (hW : 2 * g.monitorRoom + (rest.map fun v => v.category).sum ≤ W) (hl : W + 14 ≤ R.locals) (hcap : n ≤ cap) (hc : cells + 1 ≤ R.cells) (hsl : slots + cap ≤ R.slots) :
    ∃ T' h', Stand p l e R s m args below meth c T' locs (cells + 1) (slots + cap) ∧ T'.heap = h' ∧ Ext h h' ∧ IA Z h' h.size ty n f ∧ Exa Z h' h.size ad ∧
      ∀ target, Steps p.tables e below (T'.setTop { g with pc := g.pc + 3, stack := .ref h.size :: rest }) target → Steps p.tables e below (T.setTop g) target := by
  obtain ⟨cl, A, S, M, H⟩ := A
  have FC : FitC Z cl := fitC_of A fun i hi v hv => by
    rw [S] at hi
    rw [(H i hi).1] at hv
    cases hv
    exact (H i hi).2
  obtain ⟨T', h', X', e', ex, A', E', st⟩ := cloneA X hx hZ hown w1 w2 w3 w4 w5 w6 eT A E FC hg hsize hs hd hf hW hl (by rw [S]; exact hcap) hc hsl
  exact ⟨T', h', X', e', ex, ⟨cloneOf cl, A', S, M, H⟩, E', st⟩
end Clone
theorem own_sub {i n : Nat} (h : n ≤ i) (hi : i < 2 ^ 31) : Int32.ofNat i - Int32.ofNat n = Int32.ofNat (i - n) :=
  own_eqNat (by rw [Jvm.Kit.i32_sub (by rw [own_nat (by omega), own_nat (by omega)]; omega) (by rw [own_nat (by omega), own_nat (by omega)]; omega), own_nat (by omega), own_nat (by omega)]; omega)
end Jvm.RoadKit
namespace Jvm.RoadKit
open Sem ClassFile Op Lib Jvm.Stand Jvm.Free Jvm.LawKit
theorem own_stak {Z : State} {h h' : Heap} {C n d D : String} {v : Value} {a : Addr} (F : Sta Z h C n d v) (K : Keep h h' [a]) (E : Exa Z h a D) : Sta Z h' C n d v := by
  obtain ⟨cf, i, k, f, st, cell, h1, h2, h3, h4, h5, h6, h7⟩ := F
  obtain ⟨cell', k', e1, -, -, e4, -⟩ := E
  have ne : st ≠ a := fun q => by
    subst q
    cases h5.symm.trans e1
    rw [e4] at h6
    cases h6
  exact ⟨cf, i, k, f, st, cell, h1, h2, h3, h4, K.2.1 _ _ h5 (ninS ne nin0), h6, h7⟩
end Jvm.RoadKit
namespace Jvm.Pilot.@@N@@
open Jvm Jvm.ClassFile Sem Op Lib Jvm.Free Jvm.Stand Jvm.LawKit Jvm.RoadKit Bundle Jvm.Pilot.@@N@@.Jvm.D
theorem pd_0 : parseMethodDescriptor "(I)Z" = some ⟨[.int], some .boolean⟩ := by decide +kernel
theorem d1_0 : decode prog_101_method_5_code 0 = .ok (.iload_n 0, 1) := by decide +kernel
theorem d1_1 : decode prog_101_method_5_code 1 = .ok (.bipush 97, 2) := by decide +kernel
theorem d1_3 : decode prog_101_method_5_code 3 = .ok (.if_icmp .lt 9, 3) := by decide +kernel
theorem d1_6 : decode prog_101_method_5_code 6 = .ok (.iload_n 0, 1) := by decide +kernel
theorem d1_7 : decode prog_101_method_5_code 7 = .ok (.bipush 122, 2) := by decide +kernel
theorem d1_9 : decode prog_101_method_5_code 9 = .ok (.if_icmp .le 39, 3) := by decide +kernel
theorem d1_12 : decode prog_101_method_5_code 12 = .ok (.iload_n 0, 1) := by decide +kernel
theorem d1_13 : decode prog_101_method_5_code 13 = .ok (.bipush 65, 2) := by decide +kernel
theorem d1_15 : decode prog_101_method_5_code 15 = .ok (.if_icmp .lt 9, 3) := by decide +kernel
theorem d1_18 : decode prog_101_method_5_code 18 = .ok (.iload_n 0, 1) := by decide +kernel
theorem d1_19 : decode prog_101_method_5_code 19 = .ok (.bipush 90, 2) := by decide +kernel
theorem d1_21 : decode prog_101_method_5_code 21 = .ok (.if_icmp .le 27, 3) := by decide +kernel
theorem d1_24 : decode prog_101_method_5_code 24 = .ok (.iload_n 0, 1) := by decide +kernel
theorem d1_25 : decode prog_101_method_5_code 25 = .ok (.bipush 48, 2) := by decide +kernel
theorem d1_27 : decode prog_101_method_5_code 27 = .ok (.if_icmp .lt 9, 3) := by decide +kernel
theorem d1_30 : decode prog_101_method_5_code 30 = .ok (.iload_n 0, 1) := by decide +kernel
theorem d1_31 : decode prog_101_method_5_code 31 = .ok (.bipush 57, 2) := by decide +kernel
theorem d1_33 : decode prog_101_method_5_code 33 = .ok (.if_icmp .le 15, 3) := by decide +kernel
theorem d1_36 : decode prog_101_method_5_code 36 = .ok (.iload_n 0, 1) := by decide +kernel
theorem d1_37 : decode prog_101_method_5_code 37 = .ok (.bipush 45, 2) := by decide +kernel
theorem d1_39 : decode prog_101_method_5_code 39 = .ok (.if_icmp .eq 9, 3) := by decide +kernel
theorem d1_42 : decode prog_101_method_5_code 42 = .ok (.iload_n 0, 1) := by decide +kernel
theorem d1_43 : decode prog_101_method_5_code 43 = .ok (.bipush 46, 2) := by decide +kernel
theorem d1_45 : decode prog_101_method_5_code 45 = .ok (.if_icmp .ne 7, 3) := by decide +kernel
theorem d1_48 : decode prog_101_method_5_code 48 = .ok (.iconst 1, 1) := by decide +kernel
theorem d1_49 : decode prog_101_method_5_code 49 = .ok (.goto 4, 3) := by decide +kernel
theorem d1_52 : decode prog_101_method_5_code 52 = .ok (.iconst 0, 1) := by decide +kernel
theorem d1_53 : decode prog_101_method_5_code 53 = .ok (.ireturn, 1) := by decide +kernel
theorem pn_1 : plainName "com/example/brisk_sieve/brisksieve/text/HostName" = true := by first | (simp [plainName, overriddenIn]; done) | decide +kernel
theorem ef_rm1 (m : MethodId) (x0 : Int32) : entryFrame m #[(.int x0)] 1 = mkF m 0 #[.val (.int x0)] [] := by first | (simp [entryFrame, mkF, argsToLocals, Value.category]; done) | rfl
def f1_48 (p0 : Int32) : Int32 := (1 : Int32)
def f1_36 (p0 : Int32) : Int32 := (nar .boolean (if p0 = (45 : Int32) then (1 : Int32) else (if p0 = (46 : Int32) then (1 : Int32) else (0 : Int32))))
def f1_24 (p0 : Int32) : Int32 := (if p0 < (48 : Int32) then (f1_36 p0) else (nar .boolean (if (57 : Int32) < p0 then (if p0 = (45 : Int32) then (1 : Int32) else (if p0 = (46 : Int32) then (1 : Int32) else (0 : Int32))) else (1 : Int32))))
def f1_12 (p0 : Int32) : Int32 := (if p0 < (65 : Int32) then (f1_24 p0) else (if (90 : Int32) < p0 then (f1_24 p0) else (f1_48 p0)))
def f1 (p0 : Int32) : Int32 := (if p0 < (97 : Int32) then (f1_12 p0) else (if (122 : Int32) < p0 then (f1_12 p0) else (f1_48 p0)))
set_option maxRecDepth 65536 in
set_option maxHeartbeats 40000000 in
theorem rm1 (l : Launch) (Z : State) (a0 : Array Value) (hw : ∀ d ∈ tables_1, d.before a0 Z = true) (ws : List Jvm.Cond) (p0 : Int32) (h0 : Heap) (n0 : Nat) (Z0 : n0 ≤ h0.size) :
    MetFree l (⟨"com/example/brisk_sieve/brisksieve/text/HostName", "isDomainByte", "(I)Z"⟩ : MethodName) (head1 (Jvm.Cond.code (⟨"com/example/brisk_sieve/brisksieve/text/HostName", "isDomainByte", "(I)Z"⟩ : MethodName) prog_101_method_5_code 1 (some .boolean) :: ws) ({ frames := 0, cells := 0, slots := 0, locals := 0 } : Room)) (fun a U => a = #[(.int p0)] ∧ Z.Warmed39 U.vm ∧ U.heap = h0) (fun _ _ _ _ _ => True) (fun _ U o U' => ∃ v L, o = .returned v ∧ Qp (.int (f1 p0)) h0 n0 v U'.heap L ∧ FrameEnd U o U' L ({ frames := 0, cells := 0, slots := 0, locals := 0 } : Room).cells ({ frames := 0, cells := 0, slots := 0, locals := 0 } : Room).slots) := by
  refine MetFree.of_bodySF (plainFor_of_name pn_1) hisR ?_
  intro p e s m args below meth c s₁ Bd hml0 hP hK
  obtain ⟨rfl, hZ, hh⟩ := hP
  have hx := Bd.exec
  have hby := Bd.bytes
  have hml : c.maxLocals = 1 := hml0
  have hown : s.vm.findClass "com/example/brisk_sieve/brisksieve/text/HostName" = some m.cls := findClass_of_methodNamed Bd.named
  have hnm := (name_of_methodNamed Bd.named Bd.method).1
  have hlk : meth.locks = false := BodyLoose.notSynchronized Bd
  have X0 : Stand p l e ({ frames := 0, cells := 0, slots := 0, locals := 0 } : Room) s m #[(.int p0)] below meth c s₁ [] 0 0 := Stand.of_body Bd
  have e0 : s₁.heap = h0 := by rw [← hh, Bd.state]; rfl
  have N0 := Fr.nil n0
  have K0 : Keep h0 h0 [] := Keep.refl _ _
  show Goes p e below s (Qp (.int (f1 p0)) h0 n0) ({ frames := 0, cells := 0, slots := 0, locals := 0 } : Room).cells ({ frames := 0, cells := 0, slots := 0, locals := 0 } : Room).slots (s₁.setTop (entryFrame m #[(.int p0)] 1))
  rw [ef_rm1]
  have J48 : ∀ {TJ : State} {lj : List Loc} (XJ : Stand p l e ({ frames := 0, cells := 0, slots := 0, locals := 0 } : Room) s m #[(.int p0)] below meth c TJ lj 0 0) (eJ : TJ.heap = h0) (NJ : Fr n0 lj), Goes p e below s (Qp (.int (f1_48 p0)) h0 n0) ({ frames := 0, cells := 0, slots := 0, locals := 0 } : Room).cells ({ frames := 0, cells := 0, slots := 0, locals := 0 } : Room).slots (TJ.setTop (mkF m 48 #[.val (.int p0)] [])) := by
    intro TJ lj XJ eJ NJ
    show Goes p e below s _ _ _ (TJ.setTop (mkF m 48 #[.val (.int p0)] []))
    refine Goes.go (fun _ k => XS.iconst XJ.here hx rfl (hb hby d1_48) k) ?_
    show Goes p e below s _ _ _ (TJ.setTop (mkF m 49 #[.val (.int p0)] [(.int (1 : Int32))]))
    refine Goes.go (fun _ k => XS.goto XJ.here hx rfl (pc0 := 49) (pc' := 53) rfl (hb hby d1_49) (by decide) (by decide) k) ?_
    show Goes p e below s _ _ _ (TJ.setTop (mkF m 53 #[.val (.int p0)] [(.int (1 : Int32))]))
    refine Goes.retN .boolean XJ hx hlk Bd.returns (by simp) (hb hby d1_53) ?_ (by decide) (by decide)
    exact ⟨by rfl, NJ, eJ⟩
  have J36 : ∀ {TJ : State} {lj : List Loc} (XJ : Stand p l e ({ frames := 0, cells := 0, slots := 0, locals := 0 } : Room) s m #[(.int p0)] below meth c TJ lj 0 0) (eJ : TJ.heap = h0) (NJ : Fr n0 lj), Goes p e below s (Qp (.int (f1_36 p0)) h0 n0) ({ frames := 0, cells := 0, slots := 0, locals := 0 } : Room).cells ({ frames := 0, cells := 0, slots := 0, locals := 0 } : Room).slots (TJ.setTop (mkF m 36 #[.val (.int p0)] [])) := by
    intro TJ lj XJ eJ NJ
    show Goes p e below s _ _ _ (TJ.setTop (mkF m 36 #[.val (.int p0)] []))
    refine Goes.go (fun _ k => XS.iloadN XJ.here hx rfl (hb hby d1_36) rfl  k) ?_
    show Goes p e below s _ _ _ (TJ.setTop (mkF m 37 #[.val (.int p0)] [(.int p0)]))
    refine Goes.go (fun _ k => XS.bipush XJ.here hx rfl (hb hby d1_37) k) ?_
    show Goes p e below s _ _ _ (TJ.setTop (mkF m 39 #[.val (.int p0)] [(.int (45 : Int32)), (.int p0)]))
    obtain ⟨z1_s0, hz1_s0⟩ : ∃ z : Int32, z = if p0 = (45 : Int32) then (1 : Int32) else (if p0 = (46 : Int32) then (1 : Int32) else (0 : Int32)) := ⟨_, rfl⟩
    have sm1 : ∀ t, Steps p.tables e below (TJ.setTop (mkF m 53 #[.val (.int p0)] [(.int z1_s0)])) t → Steps p.tables e below (TJ.setTop (mkF m 39 #[.val (.int p0)] [(.int (45 : Int32)), (.int p0)])) t := by
      intro t k
      by_cases hc39_1 : p0 = (45 : Int32)
      · have k2 : Steps p.tables e below (TJ.setTop (mkF m 53 #[.val (.int p0)] [(.int (1 : Int32))])) t := by simpa only [hz1_s0, if_pos hc39_1] using k
        show Steps p.tables e below (TJ.setTop (mkF m 39 #[.val (.int p0)] [(.int (45 : Int32)), (.int p0)])) _
        refine XS.icmpYes XJ.here hx rfl (pc0 := 39) (pc' := 48) rfl (hb hby d1_39) rfl (teq hc39_1).1 (by decide) (by decide) ?_
        show Steps p.tables e below (TJ.setTop (mkF m 48 #[.val (.int p0)] [])) _
        refine XS.iconst XJ.here hx rfl (hb hby d1_48) ?_
        show Steps p.tables e below (TJ.setTop (mkF m 49 #[.val (.int p0)] [(.int (1 : Int32))])) _
        refine XS.goto XJ.here hx rfl (pc0 := 49) (pc' := 53) rfl (hb hby d1_49) (by decide) (by decide) ?_
        exact k2
      · have k2 : Steps p.tables e below (TJ.setTop (mkF m 53 #[.val (.int p0)] [(.int (if p0 = (46 : Int32) then (1 : Int32) else (0 : Int32)))])) t := by simpa only [hz1_s0, if_neg hc39_1] using k
        show Steps p.tables e below (TJ.setTop (mkF m 39 #[.val (.int p0)] [(.int (45 : Int32)), (.int p0)])) _
        refine XS.icmpNo XJ.here hx rfl (hb hby d1_39) rfl (feq hc39_1).1 ?_
        show Steps p.tables e below (TJ.setTop (mkF m 42 #[.val (.int p0)] [])) _
        refine XS.iloadN XJ.here hx rfl (hb hby d1_42) rfl  ?_
        show Steps p.tables e below (TJ.setTop (mkF m 43 #[.val (.int p0)] [(.int p0)])) _
        refine XS.bipush XJ.here hx rfl (hb hby d1_43) ?_
        show Steps p.tables e below (TJ.setTop (mkF m 45 #[.val (.int p0)] [(.int (46 : Int32)), (.int p0)])) _
        have sm2 : ∀ t, Steps p.tables e below (TJ.setTop (mkF m 53 #[.val (.int p0)] [(.int (if p0 = (46 : Int32) then (1 : Int32) else (0 : Int32)))])) t → Steps p.tables e below (TJ.setTop (mkF m 45 #[.val (.int p0)] [(.int (46 : Int32)), (.int p0)])) t := by
          intro t k
          by_cases hc45_2 : p0 = (46 : Int32)
          · have k2 : Steps p.tables e below (TJ.setTop (mkF m 53 #[.val (.int p0)] [(.int (1 : Int32))])) t := by simpa only [if_pos hc45_2] using k
            show Steps p.tables e below (TJ.setTop (mkF m 45 #[.val (.int p0)] [(.int (46 : Int32)), (.int p0)])) _
            refine XS.icmpNo XJ.here hx rfl (hb hby d1_45) rfl (teq hc45_2).2 ?_
            show Steps p.tables e below (TJ.setTop (mkF m 48 #[.val (.int p0)] [])) _
            refine XS.iconst XJ.here hx rfl (hb hby d1_48) ?_
            show Steps p.tables e below (TJ.setTop (mkF m 49 #[.val (.int p0)] [(.int (1 : Int32))])) _
            refine XS.goto XJ.here hx rfl (pc0 := 49) (pc' := 53) rfl (hb hby d1_49) (by decide) (by decide) ?_
            exact k2
          · have k2 : Steps p.tables e below (TJ.setTop (mkF m 53 #[.val (.int p0)] [(.int (0 : Int32))])) t := by simpa only [if_neg hc45_2] using k
            show Steps p.tables e below (TJ.setTop (mkF m 45 #[.val (.int p0)] [(.int (46 : Int32)), (.int p0)])) _
            refine XS.icmpYes XJ.here hx rfl (pc0 := 45) (pc' := 52) rfl (hb hby d1_45) rfl (feq hc45_2).2 (by decide) (by decide) ?_
            show Steps p.tables e below (TJ.setTop (mkF m 52 #[.val (.int p0)] [])) _
            refine XS.iconst XJ.here hx rfl (hb hby d1_52) ?_
            exact k2
        refine sm2 _ ?_
        exact k2
    refine Goes.go sm1 ?_
    show Goes p e below s _ _ _ (TJ.setTop (mkF m 53 #[.val (.int p0)] [(.int z1_s0)]))
    refine Goes.retN .boolean XJ hx hlk Bd.returns (by simp) (hb hby d1_53) ?_ (by decide) (by decide)
    exact ⟨by subst hz1_s0; rfl, NJ, eJ⟩
  have J24 : ∀ {TJ : State} {lj : List Loc} (XJ : Stand p l e ({ frames := 0, cells := 0, slots := 0, locals := 0 } : Room) s m #[(.int p0)] below meth c TJ lj 0 0) (eJ : TJ.heap = h0) (NJ : Fr n0 lj), Goes p e below s (Qp (.int (f1_24 p0)) h0 n0) ({ frames := 0, cells := 0, slots := 0, locals := 0 } : Room).cells ({ frames := 0, cells := 0, slots := 0, locals := 0 } : Room).slots (TJ.setTop (mkF m 24 #[.val (.int p0)] [])) := by
    intro TJ lj XJ eJ NJ
    show Goes p e below s _ _ _ (TJ.setTop (mkF m 24 #[.val (.int p0)] []))
    refine Goes.go (fun _ k => XS.iloadN XJ.here hx rfl (hb hby d1_24) rfl  k) ?_
    show Goes p e below s _ _ _ (TJ.setTop (mkF m 25 #[.val (.int p0)] [(.int p0)]))
    refine Goes.go (fun _ k => XS.bipush XJ.here hx rfl (hb hby d1_25) k) ?_
    show Goes p e below s _ _ _ (TJ.setTop (mkF m 27 #[.val (.int p0)] [(.int (48 : Int32)), (.int p0)]))
    by_cases hc27_3 : p0 < (48 : Int32)
    · skip
      refine Goes.qi (if_pos hc27_3) ?_
      refine Goes.go (fun _ k => XS.icmpYes XJ.here hx rfl (pc0 := 27) (pc' := 36) rfl (hb hby d1_27) rfl (tlt hc27_3).1 (by decide) (by decide) k) ?_
      exact J36 XJ eJ NJ
    · skip
      refine Goes.qi (if_neg hc27_3) ?_
      refine Goes.go (fun _ k => XS.icmpNo XJ.here hx rfl (hb hby d1_27) rfl (flt hc27_3).1 k) ?_
      show Goes p e below s _ _ _ (TJ.setTop (mkF m 30 #[.val (.int p0)] []))
      refine Goes.go (fun _ k => XS.iloadN XJ.here hx rfl (hb hby d1_30) rfl  k) ?_
      show Goes p e below s _ _ _ (TJ.setTop (mkF m 31 #[.val (.int p0)] [(.int p0)]))
      refine Goes.go (fun _ k => XS.bipush XJ.here hx rfl (hb hby d1_31) k) ?_
      show Goes p e below s _ _ _ (TJ.setTop (mkF m 33 #[.val (.int p0)] [(.int (57 : Int32)), (.int p0)]))
      obtain ⟨z4_s0, hz4_s0⟩ : ∃ z : Int32, z = if (57 : Int32) < p0 then (if p0 = (45 : Int32) then (1 : Int32) else (if p0 = (46 : Int32) then (1 : Int32) else (0 : Int32))) else (1 : Int32) := ⟨_, rfl⟩
      have sm4 : ∀ t, Steps p.tables e below (TJ.setTop (mkF m 53 #[.val (.int p0)] [(.int z4_s0)])) t → Steps p.tables e below (TJ.setTop (mkF m 33 #[.val (.int p0)] [(.int (57 : Int32)), (.int p0)])) t := by
        intro t k
        by_cases hc33_4 : (57 : Int32) < p0
        · have k2 : Steps p.tables e below (TJ.setTop (mkF m 53 #[.val (.int p0)] [(.int (if p0 = (45 : Int32) then (1 : Int32) else (if p0 = (46 : Int32) then (1 : Int32) else (0 : Int32))))])) t := by simpa only [hz4_s0, if_pos hc33_4] using k
          show Steps p.tables e below (TJ.setTop (mkF m 33 #[.val (.int p0)] [(.int (57 : Int32)), (.int p0)])) _
          refine XS.icmpNo XJ.here hx rfl (hb hby d1_33) rfl (tlt hc33_4).2.2.2 ?_
          show Steps p.tables e below (TJ.setTop (mkF m 36 #[.val (.int p0)] [])) _
          refine XS.iloadN XJ.here hx rfl (hb hby d1_36) rfl  ?_
          show Steps p.tables e below (TJ.setTop (mkF m 37 #[.val (.int p0)] [(.int p0)])) _
          refine XS.bipush XJ.here hx rfl (hb hby d1_37) ?_
          show Steps p.tables e below (TJ.setTop (mkF m 39 #[.val (.int p0)] [(.int (45 : Int32)), (.int p0)])) _
          have sm5 : ∀ t, Steps p.tables e below (TJ.setTop (mkF m 53 #[.val (.int p0)] [(.int (if p0 = (45 : Int32) then (1 : Int32) else (if p0 = (46 : Int32) then (1 : Int32) else (0 : Int32))))])) t → Steps p.tables e below (TJ.setTop (mkF m 39 #[.val (.int p0)] [(.int (45 : Int32)), (.int p0)])) t := by
            intro t k
            by_cases hc39_5 : p0 = (45 : Int32)
            · have k2 : Steps p.tables e below (TJ.setTop (mkF m 53 #[.val (.int p0)] [(.int (1 : Int32))])) t := by simpa only [if_pos hc39_5] using k
              show Steps p.tables e below (TJ.setTop (mkF m 39 #[.val (.int p0)] [(.int (45 : Int32)), (.int p0)])) _
              refine XS.icmpYes XJ.here hx rfl (pc0 := 39) (pc' := 48) rfl (hb hby d1_39) rfl (teq hc39_5).1 (by decide) (by decide) ?_
              show Steps p.tables e below (TJ.setTop (mkF m 48 #[.val (.int p0)] [])) _
              refine XS.iconst XJ.here hx rfl (hb hby d1_48) ?_
              show Steps p.tables e below (TJ.setTop (mkF m 49 #[.val (.int p0)] [(.int (1 : Int32))])) _
              refine XS.goto XJ.here hx rfl (pc0 := 49) (pc' := 53) rfl (hb hby d1_49) (by decide) (by decide) ?_
              exact k2
            · have k2 : Steps p.tables e below (TJ.setTop (mkF m 53 #[.val (.int p0)] [(.int (if p0 = (46 : Int32) then (1 : Int32) else (0 : Int32)))])) t := by simpa only [if_neg hc39_5] using k
              show Steps p.tables e below (TJ.setTop (mkF m 39 #[.val (.int p0)] [(.int (45 : Int32)), (.int p0)])) _
              refine XS.icmpNo XJ.here hx rfl (hb hby d1_39) rfl (feq hc39_5).1 ?_
              show Steps p.tables e below (TJ.setTop (mkF m 42 #[.val (.int p0)] [])) _
              refine XS.iloadN XJ.here hx rfl (hb hby d1_42) rfl  ?_
              show Steps p.tables e below (TJ.setTop (mkF m 43 #[.val (.int p0)] [(.int p0)])) _
              refine XS.bipush XJ.here hx rfl (hb hby d1_43) ?_
              show Steps p.tables e below (TJ.setTop (mkF m 45 #[.val (.int p0)] [(.int (46 : Int32)), (.int p0)])) _
              have sm6 : ∀ t, Steps p.tables e below (TJ.setTop (mkF m 53 #[.val (.int p0)] [(.int (if p0 = (46 : Int32) then (1 : Int32) else (0 : Int32)))])) t → Steps p.tables e below (TJ.setTop (mkF m 45 #[.val (.int p0)] [(.int (46 : Int32)), (.int p0)])) t := by
                intro t k
                by_cases hc45_6 : p0 = (46 : Int32)
                · have k2 : Steps p.tables e below (TJ.setTop (mkF m 53 #[.val (.int p0)] [(.int (1 : Int32))])) t := by simpa only [if_pos hc45_6] using k
                  show Steps p.tables e below (TJ.setTop (mkF m 45 #[.val (.int p0)] [(.int (46 : Int32)), (.int p0)])) _
                  refine XS.icmpNo XJ.here hx rfl (hb hby d1_45) rfl (teq hc45_6).2 ?_
                  show Steps p.tables e below (TJ.setTop (mkF m 48 #[.val (.int p0)] [])) _
                  refine XS.iconst XJ.here hx rfl (hb hby d1_48) ?_
                  show Steps p.tables e below (TJ.setTop (mkF m 49 #[.val (.int p0)] [(.int (1 : Int32))])) _
                  refine XS.goto XJ.here hx rfl (pc0 := 49) (pc' := 53) rfl (hb hby d1_49) (by decide) (by decide) ?_
                  exact k2
                · have k2 : Steps p.tables e below (TJ.setTop (mkF m 53 #[.val (.int p0)] [(.int (0 : Int32))])) t := by simpa only [if_neg hc45_6] using k
                  show Steps p.tables e below (TJ.setTop (mkF m 45 #[.val (.int p0)] [(.int (46 : Int32)), (.int p0)])) _
                  refine XS.icmpYes XJ.here hx rfl (pc0 := 45) (pc' := 52) rfl (hb hby d1_45) rfl (feq hc45_6).2 (by decide) (by decide) ?_
                  show Steps p.tables e below (TJ.setTop (mkF m 52 #[.val (.int p0)] [])) _
                  refine XS.iconst XJ.here hx rfl (hb hby d1_52) ?_
                  exact k2
              refine sm6 _ ?_
              exact k2
          refine sm5 _ ?_
          exact k2
        · have k2 : Steps p.tables e below (TJ.setTop (mkF m 53 #[.val (.int p0)] [(.int (1 : Int32))])) t := by simpa only [hz4_s0, if_neg hc33_4] using k
          show Steps p.tables e below (TJ.setTop (mkF m 33 #[.val (.int p0)] [(.int (57 : Int32)), (.int p0)])) _
          refine XS.icmpYes XJ.here hx rfl (pc0 := 33) (pc' := 48) rfl (hb hby d1_33) rfl (flt hc33_4).2.2.2 (by decide) (by decide) ?_
          show Steps p.tables e below (TJ.setTop (mkF m 48 #[.val (.int p0)] [])) _
          refine XS.iconst XJ.here hx rfl (hb hby d1_48) ?_
          show Steps p.tables e below (TJ.setTop (mkF m 49 #[.val (.int p0)] [(.int (1 : Int32))])) _
          refine XS.goto XJ.here hx rfl (pc0 := 49) (pc' := 53) rfl (hb hby d1_49) (by decide) (by decide) ?_
          exact k2
      refine Goes.go sm4 ?_
      show Goes p e below s _ _ _ (TJ.setTop (mkF m 53 #[.val (.int p0)] [(.int z4_s0)]))
      refine Goes.retN .boolean XJ hx hlk Bd.returns (by simp) (hb hby d1_53) ?_ (by decide) (by decide)
      exact ⟨by subst hz4_s0; rfl, NJ, eJ⟩
  have J12 : ∀ {TJ : State} {lj : List Loc} (XJ : Stand p l e ({ frames := 0, cells := 0, slots := 0, locals := 0 } : Room) s m #[(.int p0)] below meth c TJ lj 0 0) (eJ : TJ.heap = h0) (NJ : Fr n0 lj), Goes p e below s (Qp (.int (f1_12 p0)) h0 n0) ({ frames := 0, cells := 0, slots := 0, locals := 0 } : Room).cells ({ frames := 0, cells := 0, slots := 0, locals := 0 } : Room).slots (TJ.setTop (mkF m 12 #[.val (.int p0)] [])) := by
    intro TJ lj XJ eJ NJ
    show Goes p e below s _ _ _ (TJ.setTop (mkF m 12 #[.val (.int p0)] []))
    refine Goes.go (fun _ k => XS.iloadN XJ.here hx rfl (hb hby d1_12) rfl  k) ?_
    show Goes p e below s _ _ _ (TJ.setTop (mkF m 13 #[.val (.int p0)] [(.int p0)]))
    refine Goes.go (fun _ k => XS.bipush XJ.here hx rfl (hb hby d1_13) k) ?_
    show Goes p e below s _ _ _ (TJ.setTop (mkF m 15 #[.val (.int p0)] [(.int (65 : Int32)), (.int p0)]))
    by_cases hc15_7 : p0 < (65 : Int32)
    · skip
      refine Goes.qi (if_pos hc15_7) ?_
      refine Goes.go (fun _ k => XS.icmpYes XJ.here hx rfl (pc0 := 15) (pc' := 24) rfl (hb hby d1_15) rfl (tlt hc15_7).1 (by decide) (by decide) k) ?_
      exact J24 XJ eJ NJ
    · skip
      refine Goes.qi (if_neg hc15_7) ?_
      refine Goes.go (fun _ k => XS.icmpNo XJ.here hx rfl (hb hby d1_15) rfl (flt hc15_7).1 k) ?_
      show Goes p e below s _ _ _ (TJ.setTop (mkF m 18 #[.val (.int p0)] []))
      refine Goes.go (fun _ k => XS.iloadN XJ.here hx rfl (hb hby d1_18) rfl  k) ?_
      show Goes p e below s _ _ _ (TJ.setTop (mkF m 19 #[.val (.int p0)] [(.int p0)]))
      refine Goes.go (fun _ k => XS.bipush XJ.here hx rfl (hb hby d1_19) k) ?_
      show Goes p e below s _ _ _ (TJ.setTop (mkF m 21 #[.val (.int p0)] [(.int (90 : Int32)), (.int p0)]))
      by_cases hc21_8 : (90 : Int32) < p0
      · skip
        refine Goes.qi (if_pos hc21_8) ?_
        refine Goes.go (fun _ k => XS.icmpNo XJ.here hx rfl (hb hby d1_21) rfl (tlt hc21_8).2.2.2 k) ?_
        exact J24 XJ eJ NJ
      · skip
        refine Goes.qi (if_neg hc21_8) ?_
        refine Goes.go (fun _ k => XS.icmpYes XJ.here hx rfl (pc0 := 21) (pc' := 48) rfl (hb hby d1_21) rfl (flt hc21_8).2.2.2 (by decide) (by decide) k) ?_
        exact J48 XJ eJ NJ
  show Goes p e below s _ _ _ (s₁.setTop (mkF m 0 #[.val (.int p0)] []))
  refine Goes.go (fun _ k => XS.iloadN X0.here hx rfl (hb hby d1_0) rfl  k) ?_
  show Goes p e below s _ _ _ (s₁.setTop (mkF m 1 #[.val (.int p0)] [(.int p0)]))
  refine Goes.go (fun _ k => XS.bipush X0.here hx rfl (hb hby d1_1) k) ?_
  show Goes p e below s _ _ _ (s₁.setTop (mkF m 3 #[.val (.int p0)] [(.int (97 : Int32)), (.int p0)]))
  by_cases hc3_9 : p0 < (97 : Int32)
  · skip
    refine Goes.qi (if_pos hc3_9) ?_
    refine Goes.go (fun _ k => XS.icmpYes X0.here hx rfl (pc0 := 3) (pc' := 12) rfl (hb hby d1_3) rfl (tlt hc3_9).1 (by decide) (by decide) k) ?_
    exact J12 X0 e0 N0
  · skip
    refine Goes.qi (if_neg hc3_9) ?_
    refine Goes.go (fun _ k => XS.icmpNo X0.here hx rfl (hb hby d1_3) rfl (flt hc3_9).1 k) ?_
    show Goes p e below s _ _ _ (s₁.setTop (mkF m 6 #[.val (.int p0)] []))
    refine Goes.go (fun _ k => XS.iloadN X0.here hx rfl (hb hby d1_6) rfl  k) ?_
    show Goes p e below s _ _ _ (s₁.setTop (mkF m 7 #[.val (.int p0)] [(.int p0)]))
    refine Goes.go (fun _ k => XS.bipush X0.here hx rfl (hb hby d1_7) k) ?_
    show Goes p e below s _ _ _ (s₁.setTop (mkF m 9 #[.val (.int p0)] [(.int (122 : Int32)), (.int p0)]))
    by_cases hc9_10 : (122 : Int32) < p0
    · skip
      refine Goes.qi (if_pos hc9_10) ?_
      refine Goes.go (fun _ k => XS.icmpNo X0.here hx rfl (hb hby d1_9) rfl (tlt hc9_10).2.2.2 k) ?_
      exact J12 X0 e0 N0
    · skip
      refine Goes.qi (if_neg hc9_10) ?_
      refine Goes.go (fun _ k => XS.icmpYes X0.here hx rfl (pc0 := 9) (pc' := 48) rfl (hb hby d1_9) rfl (flt hc9_10).2.2.2 (by decide) (by decide) k) ?_
      exact J48 X0 e0 N0
theorem d2_0 : decode method_2_code 0 = .ok (.iload_n 0, 1) := by decide +kernel
theorem d2_1 : decode method_2_code 1 = .ok (.ifCond .lt 10, 3) := by decide +kernel
theorem d2_4 : decode method_2_code 4 = .ok (.iload_n 0, 1) := by decide +kernel
theorem d2_5 : decode method_2_code 5 = .ok (.sipush 255, 3) := by decide +kernel
theorem d2_8 : decode method_2_code 8 = .ok (.if_icmp .le 5, 3) := by decide +kernel
theorem d2_11 : decode method_2_code 11 = .ok (.iconst 0, 1) := by decide +kernel
theorem d2_12 : decode method_2_code 12 = .ok (.ireturn, 1) := by decide +kernel
theorem d2_13 : decode method_2_code 13 = .ok (.iload_n 0, 1) := by decide +kernel
theorem d2_14 : decode method_2_code 14 = .ok (.bipush 32, 2) := by decide +kernel
theorem d2_16 : decode method_2_code 16 = .ok (.ior, 1) := by decide +kernel
theorem d2_17 : decode method_2_code 17 = .ok (.istore_n 1, 1) := by decide +kernel
theorem d2_18 : decode method_2_code 18 = .ok (.iload_n 1, 1) := by decide +kernel
theorem d2_19 : decode method_2_code 19 = .ok (.bipush 97, 2) := by decide +kernel
theorem d2_21 : decode method_2_code 21 = .ok (.if_icmp .lt 11, 3) := by decide +kernel
theorem d2_24 : decode method_2_code 24 = .ok (.iload_n 1, 1) := by decide +kernel
theorem d2_25 : decode method_2_code 25 = .ok (.bipush 122, 2) := by decide +kernel
theorem d2_27 : decode method_2_code 27 = .ok (.if_icmp .gt 5, 3) := by decide +kernel
theorem d2_30 : decode method_2_code 30 = .ok (.iconst 1, 1) := by decide +kernel
theorem d2_31 : decode method_2_code 31 = .ok (.ireturn, 1) := by decide +kernel
theorem d2_32 : decode method_2_code 32 = .ok (.iload_n 0, 1) := by decide +kernel
theorem d2_33 : decode method_2_code 33 = .ok (.bipush 48, 2) := by decide +kernel
theorem d2_35 : decode method_2_code 35 = .ok (.if_icmp .lt 11, 3) := by decide +kernel
theorem d2_38 : decode method_2_code 38 = .ok (.iload_n 0, 1) := by decide +kernel
theorem d2_39 : decode method_2_code 39 = .ok (.bipush 57, 2) := by decide +kernel
theorem d2_41 : decode method_2_code 41 = .ok (.if_icmp .gt 5, 3) := by decide +kernel
theorem d2_44 : decode method_2_code 44 = .ok (.iconst 1, 1) := by decide +kernel
theorem d2_45 : decode method_2_code 45 = .ok (.ireturn, 1) := by decide +kernel
theorem d2_46 : decode method_2_code 46 = .ok (.iload_n 0, 1) := by decide +kernel
theorem d2_47 : decode method_2_code 47 = .ok (.bipush 45, 2) := by decide +kernel
theorem d2_49 : decode method_2_code 49 = .ok (.if_icmp .eq 9, 3) := by decide +kernel
theorem d2_52 : decode method_2_code 52 = .ok (.iload_n 0, 1) := by decide +kernel
theorem d2_53 : decode method_2_code 53 = .ok (.bipush 46, 2) := by decide +kernel
theorem d2_55 : decode method_2_code 55 = .ok (.if_icmp .ne 7, 3) := by decide +kernel
theorem d2_58 : decode method_2_code 58 = .ok (.iconst 1, 1) := by decide +kernel
theorem d2_59 : decode method_2_code 59 = .ok (.goto 4, 3) := by decide +kernel
theorem d2_62 : decode method_2_code 62 = .ok (.iconst 0, 1) := by decide +kernel
theorem d2_63 : decode method_2_code 63 = .ok (.ireturn, 1) := by decide +kernel
theorem pn_2 : plainName "com/example/brisk_sieve/brisksieve/text/HostNameIsDomainBytePinLaw" = true := by first | (simp [plainName, overriddenIn]; done) | decide +kernel
theorem ef_rm2 (m : MethodId) (x0 : Int32) : entryFrame m #[(.int x0)] 2 = mkF m 0 #[.val (.int x0), .unset] [] := by first | (simp [entryFrame, mkF, argsToLocals, Value.category]; done) | rfl
def f2_46 (p0 : Int32) : Int32 := (nar .boolean (if p0 = (45 : Int32) then (1 : Int32) else (if p0 = (46 : Int32) then (1 : Int32) else (0 : Int32))))
def f2_32 (p0 : Int32) : Int32 := (if p0 < (48 : Int32) then (f2_46 p0) else (if (57 : Int32) < p0 then (f2_46 p0) else (1 : Int32)))
def f2_11 (p0 : Int32) : Int32 := (0 : Int32)
def f2 (p0 : Int32) : Int32 := (if p0 < (0 : Int32) then (f2_11 p0) else (if (255 : Int32) < p0 then (f2_11 p0) else (if (p0 ||| (32 : Int32)) < (97 : Int32) then (f2_32 p0) else (if (122 : Int32) < (p0 ||| (32 : Int32)) then (f2_32 p0) else (1 : Int32)))))
set_option maxRecDepth 65536 in
set_option maxHeartbeats 40000000 in
theorem rm2 (l : Launch) (Z : State) (a0 : Array Value) (hw : ∀ d ∈ tables_1, d.before a0 Z = true) (ws : List Jvm.Cond) (p0 : Int32) (h0 : Heap) (n0 : Nat) (Z0 : n0 ≤ h0.size) :
    MetFree l (⟨"com/example/brisk_sieve/brisksieve/text/HostNameIsDomainBytePinLaw", "ref", "(I)Z"⟩ : MethodName) (head1 (Jvm.Cond.code (⟨"com/example/brisk_sieve/brisksieve/text/HostNameIsDomainBytePinLaw", "ref", "(I)Z"⟩ : MethodName) method_2_code 2 (some .boolean) :: ws) ({ frames := 0, cells := 0, slots := 0, locals := 0 } : Room)) (fun a U => a = #[(.int p0)] ∧ Z.Warmed39 U.vm ∧ U.heap = h0) (fun _ _ _ _ _ => True) (fun _ U o U' => ∃ v L, o = .returned v ∧ Qp (.int (f2 p0)) h0 n0 v U'.heap L ∧ FrameEnd U o U' L ({ frames := 0, cells := 0, slots := 0, locals := 0 } : Room).cells ({ frames := 0, cells := 0, slots := 0, locals := 0 } : Room).slots) := by
  refine MetFree.of_bodySF (plainFor_of_name pn_2) hisR ?_
  intro p e s m args below meth c s₁ Bd hml0 hP hK
  obtain ⟨rfl, hZ, hh⟩ := hP
  have hx := Bd.exec
  have hby := Bd.bytes
  have hml : c.maxLocals = 2 := hml0
  have hown : s.vm.findClass "com/example/brisk_sieve/brisksieve/text/HostNameIsDomainBytePinLaw" = some m.cls := findClass_of_methodNamed Bd.named
  have hnm := (name_of_methodNamed Bd.named Bd.method).1
  have hlk : meth.locks = false := BodyLoose.notSynchronized Bd
  have X0 : Stand p l e ({ frames := 0, cells := 0, slots := 0, locals := 0 } : Room) s m #[(.int p0)] below meth c s₁ [] 0 0 := Stand.of_body Bd
  have e0 : s₁.heap = h0 := by rw [← hh, Bd.state]; rfl
  have N0 := Fr.nil n0
  have K0 : Keep h0 h0 [] := Keep.refl _ _
  show Goes p e below s (Qp (.int (f2 p0)) h0 n0) ({ frames := 0, cells := 0, slots := 0, locals := 0 } : Room).cells ({ frames := 0, cells := 0, slots := 0, locals := 0 } : Room).slots (s₁.setTop (entryFrame m #[(.int p0)] 2))
  rw [ef_rm2]
  have J46 : ∀ {TJ : State} {lj : List Loc} (XJ : Stand p l e ({ frames := 0, cells := 0, slots := 0, locals := 0 } : Room) s m #[(.int p0)] below meth c TJ lj 0 0) (eJ : TJ.heap = h0) (NJ : Fr n0 lj), Goes p e below s (Qp (.int (f2_46 p0)) h0 n0) ({ frames := 0, cells := 0, slots := 0, locals := 0 } : Room).cells ({ frames := 0, cells := 0, slots := 0, locals := 0 } : Room).slots (TJ.setTop (mkF m 46 #[.val (.int p0), .val (.int (p0 ||| (32 : Int32)))] [])) := by
    intro TJ lj XJ eJ NJ
    show Goes p e below s _ _ _ (TJ.setTop (mkF m 46 #[.val (.int p0), .val (.int (p0 ||| (32 : Int32)))] []))
    refine Goes.go (fun _ k => XS.iloadN XJ.here hx rfl (hb hby d2_46) rfl  k) ?_
    show Goes p e below s _ _ _ (TJ.setTop (mkF m 47 #[.val (.int p0), .val (.int (p0 ||| (32 : Int32)))] [(.int p0)]))
    refine Goes.go (fun _ k => XS.bipush XJ.here hx rfl (hb hby d2_47) k) ?_
    show Goes p e below s _ _ _ (TJ.setTop (mkF m 49 #[.val (.int p0), .val (.int (p0 ||| (32 : Int32)))] [(.int (45 : Int32)), (.int p0)]))
    obtain ⟨z1_s0, hz1_s0⟩ : ∃ z : Int32, z = if p0 = (45 : Int32) then (1 : Int32) else (if p0 = (46 : Int32) then (1 : Int32) else (0 : Int32)) := ⟨_, rfl⟩
    have sm1 : ∀ t, Steps p.tables e below (TJ.setTop (mkF m 63 #[.val (.int p0), .val (.int (p0 ||| (32 : Int32)))] [(.int z1_s0)])) t → Steps p.tables e below (TJ.setTop (mkF m 49 #[.val (.int p0), .val (.int (p0 ||| (32 : Int32)))] [(.int (45 : Int32)), (.int p0)])) t := by
      intro t k
      by_cases hc49_1 : p0 = (45 : Int32)
      · have k2 : Steps p.tables e below (TJ.setTop (mkF m 63 #[.val (.int p0), .val (.int (p0 ||| (32 : Int32)))] [(.int (1 : Int32))])) t := by simpa only [hz1_s0, if_pos hc49_1] using k
        show Steps p.tables e below (TJ.setTop (mkF m 49 #[.val (.int p0), .val (.int (p0 ||| (32 : Int32)))] [(.int (45 : Int32)), (.int p0)])) _
        refine XS.icmpYes XJ.here hx rfl (pc0 := 49) (pc' := 58) rfl (hb hby d2_49) rfl (teq hc49_1).1 (by decide) (by decide) ?_
        show Steps p.tables e below (TJ.setTop (mkF m 58 #[.val (.int p0), .val (.int (p0 ||| (32 : Int32)))] [])) _
        refine XS.iconst XJ.here hx rfl (hb hby d2_58) ?_
        show Steps p.tables e below (TJ.setTop (mkF m 59 #[.val (.int p0), .val (.int (p0 ||| (32 : Int32)))] [(.int (1 : Int32))])) _
        refine XS.goto XJ.here hx rfl (pc0 := 59) (pc' := 63) rfl (hb hby d2_59) (by decide) (by decide) ?_
        exact k2
      · have k2 : Steps p.tables e below (TJ.setTop (mkF m 63 #[.val (.int p0), .val (.int (p0 ||| (32 : Int32)))] [(.int (if p0 = (46 : Int32) then (1 : Int32) else (0 : Int32)))])) t := by simpa only [hz1_s0, if_neg hc49_1] using k
        show Steps p.tables e below (TJ.setTop (mkF m 49 #[.val (.int p0), .val (.int (p0 ||| (32 : Int32)))] [(.int (45 : Int32)), (.int p0)])) _
        refine XS.icmpNo XJ.here hx rfl (hb hby d2_49) rfl (feq hc49_1).1 ?_
        show Steps p.tables e below (TJ.setTop (mkF m 52 #[.val (.int p0), .val (.int (p0 ||| (32 : Int32)))] [])) _
        refine XS.iloadN XJ.here hx rfl (hb hby d2_52) rfl  ?_
        show Steps p.tables e below (TJ.setTop (mkF m 53 #[.val (.int p0), .val (.int (p0 ||| (32 : Int32)))] [(.int p0)])) _
        refine XS.bipush XJ.here hx rfl (hb hby d2_53) ?_
        show Steps p.tables e below (TJ.setTop (mkF m 55 #[.val (.int p0), .val (.int (p0 ||| (32 : Int32)))] [(.int (46 : Int32)), (.int p0)])) _
        have sm2 : ∀ t, Steps p.tables e below (TJ.setTop (mkF m 63 #[.val (.int p0), .val (.int (p0 ||| (32 : Int32)))] [(.int (if p0 = (46 : Int32) then (1 : Int32) else (0 : Int32)))])) t → Steps p.tables e below (TJ.setTop (mkF m 55 #[.val (.int p0), .val (.int (p0 ||| (32 : Int32)))] [(.int (46 : Int32)), (.int p0)])) t := by
          intro t k
          by_cases hc55_2 : p0 = (46 : Int32)
          · have k2 : Steps p.tables e below (TJ.setTop (mkF m 63 #[.val (.int p0), .val (.int (p0 ||| (32 : Int32)))] [(.int (1 : Int32))])) t := by simpa only [if_pos hc55_2] using k
            show Steps p.tables e below (TJ.setTop (mkF m 55 #[.val (.int p0), .val (.int (p0 ||| (32 : Int32)))] [(.int (46 : Int32)), (.int p0)])) _
            refine XS.icmpNo XJ.here hx rfl (hb hby d2_55) rfl (teq hc55_2).2 ?_
            show Steps p.tables e below (TJ.setTop (mkF m 58 #[.val (.int p0), .val (.int (p0 ||| (32 : Int32)))] [])) _
            refine XS.iconst XJ.here hx rfl (hb hby d2_58) ?_
            show Steps p.tables e below (TJ.setTop (mkF m 59 #[.val (.int p0), .val (.int (p0 ||| (32 : Int32)))] [(.int (1 : Int32))])) _
            refine XS.goto XJ.here hx rfl (pc0 := 59) (pc' := 63) rfl (hb hby d2_59) (by decide) (by decide) ?_
            exact k2
          · have k2 : Steps p.tables e below (TJ.setTop (mkF m 63 #[.val (.int p0), .val (.int (p0 ||| (32 : Int32)))] [(.int (0 : Int32))])) t := by simpa only [if_neg hc55_2] using k
            show Steps p.tables e below (TJ.setTop (mkF m 55 #[.val (.int p0), .val (.int (p0 ||| (32 : Int32)))] [(.int (46 : Int32)), (.int p0)])) _
            refine XS.icmpYes XJ.here hx rfl (pc0 := 55) (pc' := 62) rfl (hb hby d2_55) rfl (feq hc55_2).2 (by decide) (by decide) ?_
            show Steps p.tables e below (TJ.setTop (mkF m 62 #[.val (.int p0), .val (.int (p0 ||| (32 : Int32)))] [])) _
            refine XS.iconst XJ.here hx rfl (hb hby d2_62) ?_
            exact k2
        refine sm2 _ ?_
        exact k2
    refine Goes.go sm1 ?_
    show Goes p e below s _ _ _ (TJ.setTop (mkF m 63 #[.val (.int p0), .val (.int (p0 ||| (32 : Int32)))] [(.int z1_s0)]))
    refine Goes.retN .boolean XJ hx hlk Bd.returns (by simp) (hb hby d2_63) ?_ (by decide) (by decide)
    exact ⟨by subst hz1_s0; rfl, NJ, eJ⟩
  have J32 : ∀ {TJ : State} {lj : List Loc} (XJ : Stand p l e ({ frames := 0, cells := 0, slots := 0, locals := 0 } : Room) s m #[(.int p0)] below meth c TJ lj 0 0) (eJ : TJ.heap = h0) (NJ : Fr n0 lj), Goes p e below s (Qp (.int (f2_32 p0)) h0 n0) ({ frames := 0, cells := 0, slots := 0, locals := 0 } : Room).cells ({ frames := 0, cells := 0, slots := 0, locals := 0 } : Room).slots (TJ.setTop (mkF m 32 #[.val (.int p0), .val (.int (p0 ||| (32 : Int32)))] [])) := by
    intro TJ lj XJ eJ NJ
    show Goes p e below s _ _ _ (TJ.setTop (mkF m 32 #[.val (.int p0), .val (.int (p0 ||| (32 : Int32)))] []))
    refine Goes.go (fun _ k => XS.iloadN XJ.here hx rfl (hb hby d2_32) rfl  k) ?_
    show Goes p e below s _ _ _ (TJ.setTop (mkF m 33 #[.val (.int p0), .val (.int (p0 ||| (32 : Int32)))] [(.int p0)]))
    refine Goes.go (fun _ k => XS.bipush XJ.here hx rfl (hb hby d2_33) k) ?_
    show Goes p e below s _ _ _ (TJ.setTop (mkF m 35 #[.val (.int p0), .val (.int (p0 ||| (32 : Int32)))] [(.int (48 : Int32)), (.int p0)]))
    by_cases hc35_3 : p0 < (48 : Int32)
    · skip
      refine Goes.qi (if_pos hc35_3) ?_
      refine Goes.go (fun _ k => XS.icmpYes XJ.here hx rfl (pc0 := 35) (pc' := 46) rfl (hb hby d2_35) rfl (tlt hc35_3).1 (by decide) (by decide) k) ?_
      exact J46 XJ eJ NJ
    · skip
      refine Goes.qi (if_neg hc35_3) ?_
      refine Goes.go (fun _ k => XS.icmpNo XJ.here hx rfl (hb hby d2_35) rfl (flt hc35_3).1 k) ?_
      show Goes p e below s _ _ _ (TJ.setTop (mkF m 38 #[.val (.int p0), .val (.int (p0 ||| (32 : Int32)))] []))
      refine Goes.go (fun _ k => XS.iloadN XJ.here hx rfl (hb hby d2_38) rfl  k) ?_
      show Goes p e below s _ _ _ (TJ.setTop (mkF m 39 #[.val (.int p0), .val (.int (p0 ||| (32 : Int32)))] [(.int p0)]))
      refine Goes.go (fun _ k => XS.bipush XJ.here hx rfl (hb hby d2_39) k) ?_
      show Goes p e below s _ _ _ (TJ.setTop (mkF m 41 #[.val (.int p0), .val (.int (p0 ||| (32 : Int32)))] [(.int (57 : Int32)), (.int p0)]))
      by_cases hc41_4 : (57 : Int32) < p0
      · skip
        refine Goes.qi (if_pos hc41_4) ?_
        refine Goes.go (fun _ k => XS.icmpYes XJ.here hx rfl (pc0 := 41) (pc' := 46) rfl (hb hby d2_41) rfl (tlt hc41_4).2.2.1 (by decide) (by decide) k) ?_
        exact J46 XJ eJ NJ
      · skip
        refine Goes.qi (if_neg hc41_4) ?_
        refine Goes.go (fun _ k => XS.icmpNo XJ.here hx rfl (hb hby d2_41) rfl (flt hc41_4).2.2.1 k) ?_
        show Goes p e below s _ _ _ (TJ.setTop (mkF m 44 #[.val (.int p0), .val (.int (p0 ||| (32 : Int32)))] []))
        refine Goes.go (fun _ k => XS.iconst XJ.here hx rfl (hb hby d2_44) k) ?_
        show Goes p e below s _ _ _ (TJ.setTop (mkF m 45 #[.val (.int p0), .val (.int (p0 ||| (32 : Int32)))] [(.int (1 : Int32))]))
        refine Goes.retN .boolean XJ hx hlk Bd.returns (by simp) (hb hby d2_45) ?_ (by decide) (by decide)
        exact ⟨by rfl, NJ, eJ⟩
  have J11 : ∀ {TJ : State} {lj : List Loc} (XJ : Stand p l e ({ frames := 0, cells := 0, slots := 0, locals := 0 } : Room) s m #[(.int p0)] below meth c TJ lj 0 0) (eJ : TJ.heap = h0) (NJ : Fr n0 lj), Goes p e below s (Qp (.int (f2_11 p0)) h0 n0) ({ frames := 0, cells := 0, slots := 0, locals := 0 } : Room).cells ({ frames := 0, cells := 0, slots := 0, locals := 0 } : Room).slots (TJ.setTop (mkF m 11 #[.val (.int p0), .unset] [])) := by
    intro TJ lj XJ eJ NJ
    show Goes p e below s _ _ _ (TJ.setTop (mkF m 11 #[.val (.int p0), .unset] []))
    refine Goes.go (fun _ k => XS.iconst XJ.here hx rfl (hb hby d2_11) k) ?_
    show Goes p e below s _ _ _ (TJ.setTop (mkF m 12 #[.val (.int p0), .unset] [(.int (0 : Int32))]))
    refine Goes.retN .boolean XJ hx hlk Bd.returns (by simp) (hb hby d2_12) ?_ (by decide) (by decide)
    exact ⟨by rfl, NJ, eJ⟩
  show Goes p e below s _ _ _ (s₁.setTop (mkF m 0 #[.val (.int p0), .unset] []))
  refine Goes.go (fun _ k => XS.iloadN X0.here hx rfl (hb hby d2_0) rfl  k) ?_
  show Goes p e below s _ _ _ (s₁.setTop (mkF m 1 #[.val (.int p0), .unset] [(.int p0)]))
  by_cases hc1_5 : p0 < (0 : Int32)
  · skip
    refine Goes.qi (if_pos hc1_5) ?_
    refine Goes.go (fun _ k => XS.ifYes X0.here hx rfl (pc0 := 1) (pc' := 11) rfl (hb hby d2_1) rfl ((if0 _ _).trans (tlt hc1_5).1) (by decide) (by decide) k) ?_
    exact J11 X0 e0 N0
  · skip
    refine Goes.qi (if_neg hc1_5) ?_
    refine Goes.go (fun _ k => XS.ifNo X0.here hx rfl (hb hby d2_1) rfl ((if0 _ _).trans (flt hc1_5).1) k) ?_
    show Goes p e below s _ _ _ (s₁.setTop (mkF m 4 #[.val (.int p0), .unset] []))
    refine Goes.go (fun _ k => XS.iloadN X0.here hx rfl (hb hby d2_4) rfl  k) ?_
    show Goes p e below s _ _ _ (s₁.setTop (mkF m 5 #[.val (.int p0), .unset] [(.int p0)]))
    refine Goes.go (fun _ k => XS.sipush X0.here hx rfl (hb hby d2_5) k) ?_
    show Goes p e below s _ _ _ (s₁.setTop (mkF m 8 #[.val (.int p0), .unset] [(.int (255 : Int32)), (.int p0)]))
    by_cases hc8_6 : (255 : Int32) < p0
    · skip
      refine Goes.qi (if_pos hc8_6) ?_
      refine Goes.go (fun _ k => XS.icmpNo X0.here hx rfl (hb hby d2_8) rfl (tlt hc8_6).2.2.2 k) ?_
      exact J11 X0 e0 N0
    · skip
      refine Goes.qi (if_neg hc8_6) ?_
      refine Goes.go (fun _ k => XS.icmpYes X0.here hx rfl (pc0 := 8) (pc' := 13) rfl (hb hby d2_8) rfl (flt hc8_6).2.2.2 (by decide) (by decide) k) ?_
      show Goes p e below s _ _ _ (s₁.setTop (mkF m 13 #[.val (.int p0), .unset] []))
      refine Goes.go (fun _ k => XS.iloadN X0.here hx rfl (hb hby d2_13) rfl  k) ?_
      show Goes p e below s _ _ _ (s₁.setTop (mkF m 14 #[.val (.int p0), .unset] [(.int p0)]))
      refine Goes.go (fun _ k => XS.bipush X0.here hx rfl (hb hby d2_14) k) ?_
      show Goes p e below s _ _ _ (s₁.setTop (mkF m 16 #[.val (.int p0), .unset] [(.int (32 : Int32)), (.int p0)]))
      refine Goes.go (fun _ k => XS.ior X0.here hx rfl (hb hby d2_16) rfl k) ?_
      show Goes p e below s _ _ _ (s₁.setTop (mkF m 17 #[.val (.int p0), .unset] [(.int (p0 ||| (32 : Int32)))]))
      refine Goes.go (fun _ k => XS.istoreN X0.here hx rfl (hb hby d2_17) rfl (l' := #[.val (.int p0), .val (.int (p0 ||| (32 : Int32)))]) rfl k) ?_
      show Goes p e below s _ _ _ (s₁.setTop (mkF m 18 #[.val (.int p0), .val (.int (p0 ||| (32 : Int32)))] []))
      refine Goes.go (fun _ k => XS.iloadN X0.here hx rfl (hb hby d2_18) rfl  k) ?_
      show Goes p e below s _ _ _ (s₁.setTop (mkF m 19 #[.val (.int p0), .val (.int (p0 ||| (32 : Int32)))] [(.int (p0 ||| (32 : Int32)))]))
      refine Goes.go (fun _ k => XS.bipush X0.here hx rfl (hb hby d2_19) k) ?_
      show Goes p e below s _ _ _ (s₁.setTop (mkF m 21 #[.val (.int p0), .val (.int (p0 ||| (32 : Int32)))] [(.int (97 : Int32)), (.int (p0 ||| (32 : Int32)))]))
      by_cases hc21_7 : (p0 ||| (32 : Int32)) < (97 : Int32)
      · skip
        refine Goes.qi (if_pos hc21_7) ?_
        refine Goes.go (fun _ k => XS.icmpYes X0.here hx rfl (pc0 := 21) (pc' := 32) rfl (hb hby d2_21) rfl (tlt hc21_7).1 (by decide) (by decide) k) ?_
        exact J32 X0 e0 N0
      · skip
        refine Goes.qi (if_neg hc21_7) ?_
        refine Goes.go (fun _ k => XS.icmpNo X0.here hx rfl (hb hby d2_21) rfl (flt hc21_7).1 k) ?_
        show Goes p e below s _ _ _ (s₁.setTop (mkF m 24 #[.val (.int p0), .val (.int (p0 ||| (32 : Int32)))] []))
        refine Goes.go (fun _ k => XS.iloadN X0.here hx rfl (hb hby d2_24) rfl  k) ?_
        show Goes p e below s _ _ _ (s₁.setTop (mkF m 25 #[.val (.int p0), .val (.int (p0 ||| (32 : Int32)))] [(.int (p0 ||| (32 : Int32)))]))
        refine Goes.go (fun _ k => XS.bipush X0.here hx rfl (hb hby d2_25) k) ?_
        show Goes p e below s _ _ _ (s₁.setTop (mkF m 27 #[.val (.int p0), .val (.int (p0 ||| (32 : Int32)))] [(.int (122 : Int32)), (.int (p0 ||| (32 : Int32)))]))
        by_cases hc27_8 : (122 : Int32) < (p0 ||| (32 : Int32))
        · skip
          refine Goes.qi (if_pos hc27_8) ?_
          refine Goes.go (fun _ k => XS.icmpYes X0.here hx rfl (pc0 := 27) (pc' := 32) rfl (hb hby d2_27) rfl (tlt hc27_8).2.2.1 (by decide) (by decide) k) ?_
          exact J32 X0 e0 N0
        · skip
          refine Goes.qi (if_neg hc27_8) ?_
          refine Goes.go (fun _ k => XS.icmpNo X0.here hx rfl (hb hby d2_27) rfl (flt hc27_8).2.2.1 k) ?_
          show Goes p e below s _ _ _ (s₁.setTop (mkF m 30 #[.val (.int p0), .val (.int (p0 ||| (32 : Int32)))] []))
          refine Goes.go (fun _ k => XS.iconst X0.here hx rfl (hb hby d2_30) k) ?_
          show Goes p e below s _ _ _ (s₁.setTop (mkF m 31 #[.val (.int p0), .val (.int (p0 ||| (32 : Int32)))] [(.int (1 : Int32))]))
          refine Goes.retN .boolean X0 hx hlk Bd.returns (by simp) (hb hby d2_31) ?_ (by decide) (by decide)
          exact ⟨by rfl, N0, e0⟩
theorem own_small (b : Int32) (h0 : ¬ b < 0) (h1 : ¬ (255 : Int32) < b) : ∃ n : Fin 256, b = Int32.ofNat n.val := by
  have e0 : ¬ b.toInt < 0 := fun h => h0 (Int32.lt_iff_toInt_lt.mpr (by simpa using h))
  have e1 : ¬ 255 < b.toInt := fun h => h1 (Int32.lt_iff_toInt_lt.mpr (by simpa using h))
  refine ⟨⟨b.toInt.toNat, by omega⟩, ?_⟩
  apply Int32.toInt_inj.mp
  rw [Int32.toInt_ofNat_of_lt (by show b.toInt.toNat < _; omega)]
  show b.toInt = ((b.toInt.toNat : Nat) : Int)
  omega
set_option maxRecDepth 65536 in
theorem own_tab : ∀ n : Fin 256, f1 (Int32.ofNat n.val) = f2 (Int32.ofNat n.val) := by decide +kernel
theorem own_eq (b : Int32) : f1 b = f2 b := by
  by_cases h0 : b < 0
  · have q : f2 b = 0 := by simp [f2, f2_11, h0]
    rw [q]
    have e0 := Int32.lt_iff_toInt_lt.mp h0
    have a1 : b < 97 := Int32.lt_iff_toInt_lt.mpr (by have : (97 : Int32).toInt = 97 := rfl; have : (0 : Int32).toInt = 0 := rfl; omega)
    have a2 : b < 65 := Int32.lt_iff_toInt_lt.mpr (by have : (65 : Int32).toInt = 65 := rfl; have : (0 : Int32).toInt = 0 := rfl; omega)
    have a3 : b < 48 := Int32.lt_iff_toInt_lt.mpr (by have : (48 : Int32).toInt = 48 := rfl; have : (0 : Int32).toInt = 0 := rfl; omega)
    have a4 : ¬ b = 45 := by rintro rfl; revert h0; decide
    have a5 : ¬ b = 46 := by rintro rfl; revert h0; decide
    simp [f1, f1_12, f1_24, f1_36, a1, a2, a3, a4, a5, nar]
  · by_cases h1 : (255 : Int32) < b
    · have q : f2 b = 0 := by simp [f2, f2_11, h0, h1]
      rw [q]
      have e1 := Int32.lt_iff_toInt_lt.mp h1
      have k255 : (255 : Int32).toInt = 255 := rfl
      have a1 : ¬ b < 97 := fun h => by have := Int32.lt_iff_toInt_lt.mp h; have : (97 : Int32).toInt = 97 := rfl; omega
      have a1' : (122 : Int32) < b := Int32.lt_iff_toInt_lt.mpr (by have : (122 : Int32).toInt = 122 := rfl; omega)
      have a2 : ¬ b < 65 := fun h => by have := Int32.lt_iff_toInt_lt.mp h; have : (65 : Int32).toInt = 65 := rfl; omega
      have a2' : (90 : Int32) < b := Int32.lt_iff_toInt_lt.mpr (by have : (90 : Int32).toInt = 90 := rfl; omega)
      have a3 : ¬ b < 48 := fun h => by have := Int32.lt_iff_toInt_lt.mp h; have : (48 : Int32).toInt = 48 := rfl; omega
      have a3' : (57 : Int32) < b := Int32.lt_iff_toInt_lt.mpr (by have : (57 : Int32).toInt = 57 := rfl; omega)
      have a4 : ¬ b = 45 := by rintro rfl; revert h1; decide
      have a5 : ¬ b = 46 := by rintro rfl; revert h1; decide
      simp [f1, f1_12, f1_24, f1_36, a1, a2, a3, a4, a5, a1', a2', a3', nar]
    · obtain ⟨n, rfl⟩ := own_small b h0 h1
      exact own_tab n
theorem pn_0 : plainName "com/example/brisk_sieve/brisksieve/text/HostNameIsDomainBytePinLaw" = true := by first | (simp [plainName, overriddenIn]; done) | decide +kernel
theorem ef_rm0 (m : MethodId) (x0 : Int32) : entryFrame m #[(.int x0)] maxLocals = mkF m 0 #[.val (.int x0), .unset, .unset, .unset] [] := by first | (simp [entryFrame, mkF, argsToLocals, Value.category, maxLocals]; done) | rfl
def Q0 (n0 : Nat) (v : Option Value) (h : Heap) (L : List Loc) : Prop := v = some (.int 1) ∧ Fr n0 L
set_option maxRecDepth 65536 in
set_option maxHeartbeats 40000000 in
theorem rm0 (l : Launch) (Z : State) (a0 : Array Value) (hw : ∀ d ∈ tables_1, d.before a0 Z = true) (ws : List Jvm.Cond) (p0 : Int32) (h0 : Heap) (n0 : Nat) (Z0 : n0 ≤ h0.size) :
    MetFree l x (head1 (Jvm.Cond.code x code maxLocals ret :: ws) room_1) (fun a U => a = #[(.int p0)] ∧ Z.Warmed39 U.vm ∧ U.heap = h0) (fun _ _ _ _ _ => True) (fun _ U o U' => ∃ v L, o = .returned v ∧ Q0 n0 v U'.heap L ∧ FrameEnd U o U' L room_1.cells room_1.slots) := by
  refine MetFree.of_bodySF (plainFor_of_name pn_0) hisR ?_
  intro p e s m args below meth c s₁ Bd hml0 hP hK
  obtain ⟨rfl, hZ, hh⟩ := hP
  have hx := Bd.exec
  have hby := Bd.bytes
  have hml : c.maxLocals = 4 := hml0
  have hown : s.vm.findClass "com/example/brisk_sieve/brisksieve/text/HostNameIsDomainBytePinLaw" = some m.cls := findClass_of_methodNamed Bd.named
  have hnm := (name_of_methodNamed Bd.named Bd.method).1
  have hlk : meth.locks = false := BodyLoose.notSynchronized Bd
  have X0 : Stand p l e room_1 s m #[(.int p0)] below meth c s₁ [] 0 0 := Stand.of_body Bd
  have e0 : s₁.heap = h0 := by rw [← hh, Bd.state]; rfl
  have N0 := Fr.nil n0
  have K0 : Keep h0 h0 [] := Keep.refl _ _
  show Goes p e below s (Q0 n0) room_1.cells room_1.slots (s₁.setTop (entryFrame m #[(.int p0)] maxLocals))
  rw [ef_rm0]
  show Goes p e below s _ _ _ (s₁.setTop (mkF m 0 #[.val (.int p0), .unset, .unset, .unset] []))
  refine Goes.go (fun _ k => XS.iloadN X0.here hx rfl (hb hby at_0) rfl  k) ?_
  show Goes p e below s _ _ _ (s₁.setTop (mkF m 1 #[.val (.int p0), .unset, .unset, .unset] [(.int p0)]))
  refine Goes.go (fun _ k => XS.istoreN X0.here hx rfl (hb hby at_1) rfl (l' := #[.val (.int p0), .val (.int p0), .unset, .unset]) rfl k) ?_
  show Goes p e below s _ _ _ (s₁.setTop (mkF m 2 #[.val (.int p0), .val (.int p0), .unset, .unset] []))
  refine Goes.go (fun _ k => XS.iloadN X0.here hx rfl (hb hby at_2) rfl  k) ?_
  show Goes p e below s _ _ _ (s₁.setTop (mkF m 3 #[.val (.int p0), .val (.int p0), .unset, .unset] [(.int p0)]))
  refine Goes.go (fun _ k => XS.sipush X0.here hx rfl (hb hby at_3) k) ?_
  show Goes p e below s _ _ _ (s₁.setTop (mkF m 6 #[.val (.int p0), .val (.int p0), .unset, .unset] [(.int (255 : Int32)), (.int p0)]))
  refine Goes.go (fun _ k => XS.iand X0.here hx rfl (hb hby at_6) rfl k) ?_
  show Goes p e below s _ _ _ (s₁.setTop (mkF m 7 #[.val (.int p0), .val (.int p0), .unset, .unset] [(.int (p0 &&& (255 : Int32)))]))
  refine Goes.go (fun _ k => XS.istoreN X0.here hx rfl (hb hby at_7) rfl (l' := #[.val (.int p0), .val (.int p0), .val (.int (p0 &&& (255 : Int32))), .unset]) rfl k) ?_
  show Goes p e below s _ _ _ (s₁.setTop (mkF m 8 #[.val (.int p0), .val (.int p0), .val (.int (p0 &&& (255 : Int32))), .unset] []))
  refine Goes.go (fun _ k => XS.iloadN X0.here hx rfl (hb hby at_8) rfl  k) ?_
  show Goes p e below s _ _ _ (s₁.setTop (mkF m 9 #[.val (.int p0), .val (.int p0), .val (.int (p0 &&& (255 : Int32))), .unset] [(.int p0)]))
  refine Goes.go (fun _ k => XS.bipush X0.here hx rfl (hb hby at_9) k) ?_
  show Goes p e below s _ _ _ (s₁.setTop (mkF m 11 #[.val (.int p0), .val (.int p0), .val (.int (p0 &&& (255 : Int32))), .unset] [(.int (127 : Int32)), (.int p0)]))
  refine Goes.go (fun _ k => XS.iand X0.here hx rfl (hb hby at_11) rfl k) ?_
  show Goes p e below s _ _ _ (s₁.setTop (mkF m 12 #[.val (.int p0), .val (.int p0), .val (.int (p0 &&& (255 : Int32))), .unset] [(.int (p0 &&& (127 : Int32)))]))
  refine Goes.go (fun _ k => XS.istoreN X0.here hx rfl (hb hby at_12) rfl (l' := #[.val (.int p0), .val (.int p0), .val (.int (p0 &&& (255 : Int32))), .val (.int (p0 &&& (127 : Int32)))]) rfl k) ?_
  show Goes p e below s _ _ _ (s₁.setTop (mkF m 13 #[.val (.int p0), .val (.int p0), .val (.int (p0 &&& (255 : Int32))), .val (.int (p0 &&& (127 : Int32)))] []))
  refine Goes.go (fun _ k => XS.iloadN X0.here hx rfl (hb hby at_13) rfl  k) ?_
  show Goes p e below s _ _ _ (s₁.setTop (mkF m 14 #[.val (.int p0), .val (.int p0), .val (.int (p0 &&& (255 : Int32))), .val (.int (p0 &&& (127 : Int32)))] [(.int p0)]))
  obtain ⟨_, _, ⟨T1, L1, k1, n1⟩, -, X1, ⟨Lc1, hQ1, l1, y1, z1⟩, st1⟩ := Jvm.LawKit.callS X0 hx (y := (⟨"com/example/brisk_sieve/brisksieve/text/HostName", "isDomainByte", "(I)Z"⟩ : MethodName)) hown (mvT hZ (hw _ (List.mem_of_getElem? (i := 0) rfl))) (mvT hZ (hw _ (List.mem_of_getElem? (i := 1) rfl))) (mvT hZ (hw _ (List.mem_of_getElem? (i := 2) rfl))) (mvT hZ (hw _ (List.mem_of_getElem? (i := 3) rfl))) (by decide) (backOf (W := 0) (rm1 l Z a0 hw [] p0 h0 n0 Z0 ) hZ (hw _ (List.mem_of_getElem? (i := 3) rfl)) (hw _ (List.mem_of_getElem? (i := 2) rfl)) (by decide) (by decide)) (g := (mkF m 14 #[.val (.int p0), .val (.int p0), .val (.int (p0 &&& (255 : Int32))), .val (.int (p0 &&& (127 : Int32)))] [(.int p0)])) rfl (by rw [hml]; rfl) (argsL := [(.int p0)]) (rest := []) (lenOf pd_0 rfl) rfl (by show 2 * 0 + _ ≤ _; exact Nat.le_of_eq rfl) (hb hby at_14) (fun _ _ => ⟨rfl, e0, (by decide : 0 + 0 ≤ _), (by decide : 0 + 0 ≤ _)⟩)
  dsimp only [Pt.U, Pt.locs, Pt.cells, Pt.slots] at X1 l1 y1 z1 st1 hQ1
  subst l1 y1 z1
  obtain ⟨rfl, N1q, e1⟩ := hQ1
  have N1 := Fr.app N0 N1q
  refine Goes.go st1 ?_
  show Goes p e below s _ _ _ (T1.setTop (mkF m 17 #[.val (.int p0), .val (.int p0), .val (.int (p0 &&& (255 : Int32))), .val (.int (p0 &&& (127 : Int32)))] [(.int (f1 p0))]))
  refine Goes.go (fun _ k => XS.iloadN X1.here hx rfl (hb hby at_17) rfl  k) ?_
  show Goes p e below s _ _ _ (T1.setTop (mkF m 18 #[.val (.int p0), .val (.int p0), .val (.int (p0 &&& (255 : Int32))), .val (.int (p0 &&& (127 : Int32)))] [(.int p0), (.int (f1 p0))]))
  obtain ⟨_, _, ⟨T2, L2, k2, n2⟩, -, X2, ⟨Lc2, hQ2, l2, y2, z2⟩, st2⟩ := Jvm.LawKit.callS X1 hx (y := (⟨"com/example/brisk_sieve/brisksieve/text/HostNameIsDomainBytePinLaw", "ref", "(I)Z"⟩ : MethodName)) hown (mvT hZ (hw _ (List.mem_of_getElem? (i := 4) rfl))) (mvT hZ (hw _ (List.mem_of_getElem? (i := 5) rfl))) (mvT hZ (hw _ (List.mem_of_getElem? (i := 6) rfl))) (mvT hZ (hw _ (List.mem_of_getElem? (i := 7) rfl))) (by decide) (backOf (W := 1) (rm2 l Z a0 hw [] p0 h0 n0 Z0 ) hZ (hw _ (List.mem_of_getElem? (i := 7) rfl)) (hw _ (List.mem_of_getElem? (i := 6) rfl)) (by decide) (by decide)) (g := (mkF m 18 #[.val (.int p0), .val (.int p0), .val (.int (p0 &&& (255 : Int32))), .val (.int (p0 &&& (127 : Int32)))] [(.int p0), (.int (f1 p0))])) rfl (by rw [hml]; rfl) (argsL := [(.int p0)]) (rest := [(.int (f1 p0))]) (lenOf pd_0 rfl) rfl (by show 2 * 0 + _ ≤ _; exact Nat.le_of_eq rfl) (hb hby at_18) (fun _ _ => ⟨rfl, e1, (by decide : 0 + 0 ≤ _), (by decide : 0 + 0 ≤ _)⟩)
  dsimp only [Pt.U, Pt.locs, Pt.cells, Pt.slots] at X2 l2 y2 z2 st2 hQ2
  subst l2 y2 z2
  obtain ⟨rfl, N2q, e2⟩ := hQ2
  have N2 := Fr.app N1 N2q
  refine Goes.go st2 ?_
  show Goes p e below s _ _ _ (T2.setTop (mkF m 21 #[.val (.int p0), .val (.int p0), .val (.int (p0 &&& (255 : Int32))), .val (.int (p0 &&& (127 : Int32)))] [(.int (f2 p0)), (.int (f1 p0))]))
  have hc21_3 : (f1 p0) = (f2 p0) := own_eq _
  refine Goes.go (fun _ k => XS.icmpNo X2.here hx rfl (hb hby at_21) rfl (teq hc21_3).2 k) ?_
  show Goes p e below s _ _ _ (T2.setTop (mkF m 24 #[.val (.int p0), .val (.int p0), .val (.int (p0 &&& (255 : Int32))), .val (.int (p0 &&& (127 : Int32)))] []))
  refine Goes.go (fun _ k => XS.iloadN X2.here hx rfl (hb hby at_24) rfl  k) ?_
  show Goes p e below s _ _ _ (T2.setTop (mkF m 25 #[.val (.int p0), .val (.int p0), .val (.int (p0 &&& (255 : Int32))), .val (.int (p0 &&& (127 : Int32)))] [(.int (p0 &&& (255 : Int32)))]))
  obtain ⟨_, _, ⟨T4, L4, k4, n4⟩, -, X4, ⟨Lc4, hQ4, l4, y4, z4⟩, st4⟩ := Jvm.LawKit.callS X2 hx (y := (⟨"com/example/brisk_sieve/brisksieve/text/HostName", "isDomainByte", "(I)Z"⟩ : MethodName)) hown (mvT hZ (hw _ (List.mem_of_getElem? (i := 0) rfl))) (mvT hZ (hw _ (List.mem_of_getElem? (i := 1) rfl))) (mvT hZ (hw _ (List.mem_of_getElem? (i := 2) rfl))) (mvT hZ (hw _ (List.mem_of_getElem? (i := 3) rfl))) (by decide) (backOf (W := 0) (rm1 l Z a0 hw [] (p0 &&& (255 : Int32)) h0 n0 Z0 ) hZ (hw _ (List.mem_of_getElem? (i := 3) rfl)) (hw _ (List.mem_of_getElem? (i := 2) rfl)) (by decide) (by decide)) (g := (mkF m 25 #[.val (.int p0), .val (.int p0), .val (.int (p0 &&& (255 : Int32))), .val (.int (p0 &&& (127 : Int32)))] [(.int (p0 &&& (255 : Int32)))])) rfl (by rw [hml]; rfl) (argsL := [(.int (p0 &&& (255 : Int32)))]) (rest := []) (lenOf pd_0 rfl) rfl (by show 2 * 0 + _ ≤ _; exact Nat.le_of_eq rfl) (hb hby at_25) (fun _ _ => ⟨rfl, e2, (by decide : 0 + 0 ≤ _), (by decide : 0 + 0 ≤ _)⟩)
  dsimp only [Pt.U, Pt.locs, Pt.cells, Pt.slots] at X4 l4 y4 z4 st4 hQ4
  subst l4 y4 z4
  obtain ⟨rfl, N4q, e4⟩ := hQ4
  have N4 := Fr.app N2 N4q
  refine Goes.go st4 ?_
  show Goes p e below s _ _ _ (T4.setTop (mkF m 28 #[.val (.int p0), .val (.int p0), .val (.int (p0 &&& (255 : Int32))), .val (.int (p0 &&& (127 : Int32)))] [(.int (f1 (p0 &&& (255 : Int32))))]))
  refine Goes.go (fun _ k => XS.iloadN X4.here hx rfl (hb hby at_28) rfl  k) ?_
  show Goes p e below s _ _ _ (T4.setTop (mkF m 29 #[.val (.int p0), .val (.int p0), .val (.int (p0 &&& (255 : Int32))), .val (.int (p0 &&& (127 : Int32)))] [(.int (p0 &&& (255 : Int32))), (.int (f1 (p0 &&& (255 : Int32))))]))
  obtain ⟨_, _, ⟨T5, L5, k5, n5⟩, -, X5, ⟨Lc5, hQ5, l5, y5, z5⟩, st5⟩ := Jvm.LawKit.callS X4 hx (y := (⟨"com/example/brisk_sieve/brisksieve/text/HostNameIsDomainBytePinLaw", "ref", "(I)Z"⟩ : MethodName)) hown (mvT hZ (hw _ (List.mem_of_getElem? (i := 4) rfl))) (mvT hZ (hw _ (List.mem_of_getElem? (i := 5) rfl))) (mvT hZ (hw _ (List.mem_of_getElem? (i := 6) rfl))) (mvT hZ (hw _ (List.mem_of_getElem? (i := 7) rfl))) (by decide) (backOf (W := 1) (rm2 l Z a0 hw [] (p0 &&& (255 : Int32)) h0 n0 Z0 ) hZ (hw _ (List.mem_of_getElem? (i := 7) rfl)) (hw _ (List.mem_of_getElem? (i := 6) rfl)) (by decide) (by decide)) (g := (mkF m 29 #[.val (.int p0), .val (.int p0), .val (.int (p0 &&& (255 : Int32))), .val (.int (p0 &&& (127 : Int32)))] [(.int (p0 &&& (255 : Int32))), (.int (f1 (p0 &&& (255 : Int32))))])) rfl (by rw [hml]; rfl) (argsL := [(.int (p0 &&& (255 : Int32)))]) (rest := [(.int (f1 (p0 &&& (255 : Int32))))]) (lenOf pd_0 rfl) rfl (by show 2 * 0 + _ ≤ _; exact Nat.le_of_eq rfl) (hb hby at_29) (fun _ _ => ⟨rfl, e4, (by decide : 0 + 0 ≤ _), (by decide : 0 + 0 ≤ _)⟩)
  dsimp only [Pt.U, Pt.locs, Pt.cells, Pt.slots] at X5 l5 y5 z5 st5 hQ5
  subst l5 y5 z5
  obtain ⟨rfl, N5q, e5⟩ := hQ5
  have N5 := Fr.app N4 N5q
  refine Goes.go st5 ?_
  show Goes p e below s _ _ _ (T5.setTop (mkF m 32 #[.val (.int p0), .val (.int p0), .val (.int (p0 &&& (255 : Int32))), .val (.int (p0 &&& (127 : Int32)))] [(.int (f2 (p0 &&& (255 : Int32)))), (.int (f1 (p0 &&& (255 : Int32))))]))
  have hc32_6 : (f1 (p0 &&& (255 : Int32))) = (f2 (p0 &&& (255 : Int32))) := own_eq _
  refine Goes.go (fun _ k => XS.icmpNo X5.here hx rfl (hb hby at_32) rfl (teq hc32_6).2 k) ?_
  show Goes p e below s _ _ _ (T5.setTop (mkF m 35 #[.val (.int p0), .val (.int p0), .val (.int (p0 &&& (255 : Int32))), .val (.int (p0 &&& (127 : Int32)))] []))
  refine Goes.go (fun _ k => XS.iloadN X5.here hx rfl (hb hby at_35) rfl  k) ?_
  show Goes p e below s _ _ _ (T5.setTop (mkF m 36 #[.val (.int p0), .val (.int p0), .val (.int (p0 &&& (255 : Int32))), .val (.int (p0 &&& (127 : Int32)))] [(.int (p0 &&& (127 : Int32)))]))
  obtain ⟨_, _, ⟨T7, L7, k7, n7⟩, -, X7, ⟨Lc7, hQ7, l7, y7, z7⟩, st7⟩ := Jvm.LawKit.callS X5 hx (y := (⟨"com/example/brisk_sieve/brisksieve/text/HostName", "isDomainByte", "(I)Z"⟩ : MethodName)) hown (mvT hZ (hw _ (List.mem_of_getElem? (i := 0) rfl))) (mvT hZ (hw _ (List.mem_of_getElem? (i := 1) rfl))) (mvT hZ (hw _ (List.mem_of_getElem? (i := 2) rfl))) (mvT hZ (hw _ (List.mem_of_getElem? (i := 3) rfl))) (by decide) (backOf (W := 0) (rm1 l Z a0 hw [] (p0 &&& (127 : Int32)) h0 n0 Z0 ) hZ (hw _ (List.mem_of_getElem? (i := 3) rfl)) (hw _ (List.mem_of_getElem? (i := 2) rfl)) (by decide) (by decide)) (g := (mkF m 36 #[.val (.int p0), .val (.int p0), .val (.int (p0 &&& (255 : Int32))), .val (.int (p0 &&& (127 : Int32)))] [(.int (p0 &&& (127 : Int32)))])) rfl (by rw [hml]; rfl) (argsL := [(.int (p0 &&& (127 : Int32)))]) (rest := []) (lenOf pd_0 rfl) rfl (by show 2 * 0 + _ ≤ _; exact Nat.le_of_eq rfl) (hb hby at_36) (fun _ _ => ⟨rfl, e5, (by decide : 0 + 0 ≤ _), (by decide : 0 + 0 ≤ _)⟩)
  dsimp only [Pt.U, Pt.locs, Pt.cells, Pt.slots] at X7 l7 y7 z7 st7 hQ7
  subst l7 y7 z7
  obtain ⟨rfl, N7q, e7⟩ := hQ7
  have N7 := Fr.app N5 N7q
  refine Goes.go st7 ?_
  show Goes p e below s _ _ _ (T7.setTop (mkF m 39 #[.val (.int p0), .val (.int p0), .val (.int (p0 &&& (255 : Int32))), .val (.int (p0 &&& (127 : Int32)))] [(.int (f1 (p0 &&& (127 : Int32))))]))
  refine Goes.go (fun _ k => XS.iloadN X7.here hx rfl (hb hby at_39) rfl  k) ?_
  show Goes p e below s _ _ _ (T7.setTop (mkF m 40 #[.val (.int p0), .val (.int p0), .val (.int (p0 &&& (255 : Int32))), .val (.int (p0 &&& (127 : Int32)))] [(.int (p0 &&& (127 : Int32))), (.int (f1 (p0 &&& (127 : Int32))))]))
  obtain ⟨_, _, ⟨T8, L8, k8, n8⟩, -, X8, ⟨Lc8, hQ8, l8, y8, z8⟩, st8⟩ := Jvm.LawKit.callS X7 hx (y := (⟨"com/example/brisk_sieve/brisksieve/text/HostNameIsDomainBytePinLaw", "ref", "(I)Z"⟩ : MethodName)) hown (mvT hZ (hw _ (List.mem_of_getElem? (i := 4) rfl))) (mvT hZ (hw _ (List.mem_of_getElem? (i := 5) rfl))) (mvT hZ (hw _ (List.mem_of_getElem? (i := 6) rfl))) (mvT hZ (hw _ (List.mem_of_getElem? (i := 7) rfl))) (by decide) (backOf (W := 1) (rm2 l Z a0 hw [] (p0 &&& (127 : Int32)) h0 n0 Z0 ) hZ (hw _ (List.mem_of_getElem? (i := 7) rfl)) (hw _ (List.mem_of_getElem? (i := 6) rfl)) (by decide) (by decide)) (g := (mkF m 40 #[.val (.int p0), .val (.int p0), .val (.int (p0 &&& (255 : Int32))), .val (.int (p0 &&& (127 : Int32)))] [(.int (p0 &&& (127 : Int32))), (.int (f1 (p0 &&& (127 : Int32))))])) rfl (by rw [hml]; rfl) (argsL := [(.int (p0 &&& (127 : Int32)))]) (rest := [(.int (f1 (p0 &&& (127 : Int32))))]) (lenOf pd_0 rfl) rfl (by show 2 * 0 + _ ≤ _; exact Nat.le_of_eq rfl) (hb hby at_40) (fun _ _ => ⟨rfl, e7, (by decide : 0 + 0 ≤ _), (by decide : 0 + 0 ≤ _)⟩)
  dsimp only [Pt.U, Pt.locs, Pt.cells, Pt.slots] at X8 l8 y8 z8 st8 hQ8
  subst l8 y8 z8
  obtain ⟨rfl, N8q, e8⟩ := hQ8
  have N8 := Fr.app N7 N8q
  refine Goes.go st8 ?_
  show Goes p e below s _ _ _ (T8.setTop (mkF m 43 #[.val (.int p0), .val (.int p0), .val (.int (p0 &&& (255 : Int32))), .val (.int (p0 &&& (127 : Int32)))] [(.int (f2 (p0 &&& (127 : Int32)))), (.int (f1 (p0 &&& (127 : Int32))))]))
  have hc43_9 : (f1 (p0 &&& (127 : Int32))) = (f2 (p0 &&& (127 : Int32))) := own_eq _
  refine Goes.go (fun _ k => XS.icmpNo X8.here hx rfl (hb hby at_43) rfl (teq hc43_9).2 k) ?_
  show Goes p e below s _ _ _ (T8.setTop (mkF m 46 #[.val (.int p0), .val (.int p0), .val (.int (p0 &&& (255 : Int32))), .val (.int (p0 &&& (127 : Int32)))] []))
  refine Goes.go (fun _ k => XS.iconst X8.here hx rfl (hb hby at_46) k) ?_
  show Goes p e below s _ _ _ (T8.setTop (mkF m 47 #[.val (.int p0), .val (.int p0), .val (.int (p0 &&& (255 : Int32))), .val (.int (p0 &&& (127 : Int32)))] [(.int (1 : Int32))]))
  refine Goes.go (fun _ k => XS.goto X8.here hx rfl (pc0 := 47) (pc' := 51) rfl (hb hby at_47) (by decide) (by decide) k) ?_
  show Goes p e below s _ _ _ (T8.setTop (mkF m 51 #[.val (.int p0), .val (.int p0), .val (.int (p0 &&& (255 : Int32))), .val (.int (p0 &&& (127 : Int32)))] [(.int (1 : Int32))]))
  refine Goes.retN .boolean X8 hx hlk Bd.returns (by simp) (hb hby at_51) ?_ (by decide) (by decide)
  exact ⟨rfl, N8⟩
set_option maxRecDepth 65536 in
set_option maxHeartbeats 40000000 in
theorem comes_1 {Post : Tables → Env → Array Value → State → Outcome → State → Prop} (hpost : ∀ tb e args s v u, (limb_1_1.after args s (.returned v) u = true ∧ limb_1_2.after args s (.returned v) u = true ∧ True) → FrameEnd s (.returned v) u (Jvm.fieldLocs frame_1_writes args s ++ Jvm.arrayLocs frame_1_arrays args s ++ Jvm.staticLocs frame_1_statics s) 0 0 → Post tb e args s (.returned v) u) :
    ArmFor flags0 classFile x code maxLocals ret World_1 tables_1 room_1 Calls_1 rest_1 Pre_1 Post := by
  intro l hfl _ _ p e ha hc hk s m args below hf hA hF happ hP
  obtain ⟨hcalls, hrest, hpre⟩ := hP
  obtain ⟨-, -, -, hnamed, -, -, -, hat⟩ := (Spec.applies_iff hf).mp happ
  obtain ⟨hg, hn⟩ := and_e (Cond.before_iff.mp (show (Jvm.Cond.and given_1 narrow_1).before args s = true from hpre))
  obtain ⟨gc, gr0⟩ := and_e hg
  obtain ⟨w0, rfl⟩ : ∃ w0 : Value, args = #[w0] := by
    have hs : args.size = 1 := by simpa [Cond.value, given_1] using gc
    obtain ⟨L⟩ := args
    match L, hs with
    | [w0], _ => exact ⟨w0, rfl⟩
  have hw := fun d (hd : d ∈ tables_1) => atoms_spec (ws := Jvm.Cond.code x code maxLocals ret :: tables_1) hat d (List.mem_cons_of_mem _ hd)
  have hfit : Fit s := fun {y c} hc i hi => by
    obtain ⟨ha, rfl⟩ := Array.getElem?_eq_some_iff.mp hc
    have q := List.all_eq_true.mp ((Array.all_eq_true_iff_forall_mem.mp hF) _ (Array.getElem_mem ha)) i (List.mem_range.mpr hi)
    simpa [Array.getElem?_eq_getElem hi] using q
  obtain ⟨i0, ei0⟩ := is_v gr0
  obtain rfl : w0 = (.int i0) := Option.some.inj ei0
  obtain ⟨n, o, h1, h2, h3, _, L, rfl, ⟨rfl, N⟩, hq⟩ := rm0 l s _ hw tables_1 i0 s.heap s.heap.size (Nat.le_refl _) p e ha hc hk s m _ below hf ((Spec.applies_iff_loose hf).mp happ).1 ⟨rfl, State.Warmed39.refl s, rfl⟩ trivial
  refine ⟨n, _, h1, h2, h3, hpost _ _ _ _ _ _ ⟨Cond.after_iff.mpr rfl, Cond.after_iff.mpr (eq_i res_at (Term.int_eval (1)) rfl), trivial⟩ ⟨hq.1, hq.2.1, (hq.2.2.sift fun y hy => Or.inr (N y hy)).mono (by decide) (by decide)⟩⟩
theorem main_1_1 : Claimed_1_1 := comes_1 fun _ _ _ _ _ _ h hF => ⟨h.1, hF⟩
theorem main_1_2 : Claimed_1_2 := comes_1 fun _ _ _ _ _ _ h hF => ⟨h.2.1, hF⟩
end Jvm.Pilot.@@N@@
namespace Jvm.Pilot.@@N@@
open Jvm Jvm.ClassFile Sem Op Lib Jvm.Free Jvm.Stand Jvm.Pilot.@@N@@.Jvm.D
/-! MADE BY PROGRAM (witnessworld.py) out of the Statement's table words and the real class files: 9 classes; the members and pool entries that the words name. The judged class is class 1, her method 2. -/
namespace start1
open Jvm.ClassFile
def u (s : String) : CpInfo := .utf8 (stringToUtf16 s)
/-- a pool by its gaps: so many unusable entries, then the entry; so many at the end -/
def gap : Nat → List CpInfo → List CpInfo
  | 0, r => r
  | n + 1, r => .unusable :: gap n r
def poolList (es : List (Nat × CpInfo)) (last : Nat) : List CpInfo := es.foldr (fun e r => gap e.1 (e.2 :: r)) (gap last [])
def pool (es : List (Nat × CpInfo)) (last : Nat) : Array CpInfo := ⟨poolList es last⟩
def fileOf (pool : Array CpInfo) (this : Nat) (attrs : Array Attribute := #[]) (ms : Array MethodInfo := #[]) (fl : Nat := 33) (sup : Nat := 0) (ifs : Array Nat := #[]) (fds : Array FieldInfo := #[]) : ClassFile where
  minorVersion := 0
  majorVersion := 65
  constantPool := pool
  accessFlags := fl
  thisClass := this
  superClass := sup
  interfaces := ifs
  fields := fds
  methods := ms
  attributes := attrs
def plain (name : String) (sup : Option ClassId) : Class where
  name := name
  kind := .ordinary
  loader := none
  accessFlags := 33
  super := sup
  interfaces := #[]
  cf := none
  fields := #[]
  methods := #[]
  instanceTypes := #[]
  staticTypes := #[]
  resolved := #[]
  callSites := []
  init := .initialized
  statics := none
  mirror := none

def pool0 : Array CpInfo := pool [(5, u "<init>"), (0, u "()V"), (1, .class_ 10), (1, u "java/lang/Object")] 113

def k0m0 : Method := { name := "<init>", desc := "()V", sig := { parameters := [], returnType := none }, accessFlags := 1, code := none }
/-- java/lang/Object -/
def k0 : Class := { plain "java/lang/Object" none with
  accessFlags := 33
  interfaces := #[]
  cf := some (fileOf pool0 8 #[] #[{ accessFlags := 1, nameIndex := 5, descriptorIndex := 6, attributes := #[] }] 33 0 #[] #[])
  fields := #[]
  methods := #[k0m0]
  instanceTypes := #[]
  staticTypes := #[]
  resolved := Array.replicate 124 none
  statics := none }

def pool1 : Array CpInfo := pool [(2, .class_ 4), (1, u "java/lang/Object"), (0, u "<init>"), (0, u "()V"), (0, .methodref 8 9), (0, .class_ 10), (0, .nameAndType 11 12), (0, u "com/example/brisk_sieve/brisksieve/text/HostName"), (0, u "isDomainByte"), (0, u "(I)Z"), (0, .methodref 14 15), (0, .class_ 16), (0, .nameAndType 17 12), (0, u "com/example/brisk_sieve/brisksieve/text/HostNameIsDomainBytePinLaw"), (0, u "ref"), (3, u "law")] 2

def k1m0 : Method := { name := "<init>", desc := "()V", sig := { parameters := [], returnType := none }, accessFlags := 2, code := none }
def k1c1 : Code := { maxStack := 2, maxLocals := 2, code := method_2_code, exceptionTable := #[], attributes := #[] }
def k1m1 : Method := { name := "ref", desc := "(I)Z", sig := { parameters := [.int], returnType := some .boolean }, accessFlags := 10, code := some k1c1 }
def k1c2 : Code := { maxStack := 2, maxLocals := 4, code := code, exceptionTable := #[], attributes := #[] }
def k1m2 : Method := { name := "law", desc := "(I)Z", sig := { parameters := [.int], returnType := some .boolean }, accessFlags := 9, code := some k1c2 }
/-- com/example/brisk_sieve/brisksieve/text/HostNameIsDomainBytePinLaw -/
def k1 : Class := { plain "com/example/brisk_sieve/brisksieve/text/HostNameIsDomainBytePinLaw" (some 0) with
  accessFlags := 49
  interfaces := #[]
  cf := some (fileOf pool1 14 #[] #[{ accessFlags := 2, nameIndex := 5, descriptorIndex := 6, attributes := #[] }, { accessFlags := 10, nameIndex := 17, descriptorIndex := 12, attributes := #[] }, { accessFlags := 9, nameIndex := 21, descriptorIndex := 12, attributes := #[] }] 49 2 #[] #[])
  fields := #[]
  methods := #[k1m0, k1m1, k1m2]
  instanceTypes := #[]
  staticTypes := #[]
  resolved := Array.replicate 24 none
  statics := none }

def pool2 : Array CpInfo := pool [(2, .class_ 4), (1, u "java/lang/Object"), (0, u "<init>"), (0, u "()V"), (6, .class_ 14), (0, u "com/example/brisk_sieve/brisksieve/text/HostName"), (2, u "SLASH"), (0, u "C"), (2, u "COLON"), (1, u "AT"), (9, u "isDomainByte"), (0, u "(I)Z")] 2

def k2m0 : Method := { name := "<init>", desc := "()V", sig := { parameters := [], returnType := none }, accessFlags := 2, code := none }
def k2c1 : Code := { maxStack := 2, maxLocals := 1, code := prog_101_method_5_code, exceptionTable := #[], attributes := #[] }
def k2m1 : Method := { name := "isDomainByte", desc := "(I)Z", sig := { parameters := [.int], returnType := some .boolean }, accessFlags := 9, code := some k2c1 }
/-- com/example/brisk_sieve/brisksieve/text/HostName -/
def k2 : Class := { plain "com/example/brisk_sieve/brisksieve/text/HostName" (some 0) with
  accessFlags := 49
  interfaces := #[]
  cf := some (fileOf pool2 13 #[] #[{ accessFlags := 2, nameIndex := 5, descriptorIndex := 6, attributes := #[] }, { accessFlags := 9, nameIndex := 33, descriptorIndex := 34, attributes := #[] }] 49 2 #[] #[{ accessFlags := 26, nameIndex := 17, descriptorIndex := 18, attributes := #[] }, { accessFlags := 26, nameIndex := 21, descriptorIndex := 18, attributes := #[] }, { accessFlags := 26, nameIndex := 23, descriptorIndex := 18, attributes := #[] }])
  fields := #[{ name := "SLASH", type := .char, accessFlags := 26, slot := 0, constantValue := 0 }, { name := "COLON", type := .char, accessFlags := 26, slot := 1, constantValue := 0 }, { name := "AT", type := .char, accessFlags := 26, slot := 2, constantValue := 0 }]
  methods := #[k2m0, k2m1]
  instanceTypes := #[]
  staticTypes := #[.char, .char, .char]
  resolved := Array.replicate 37 none
  statics := none }

def pool3 : Array CpInfo := pool [(1, u "java/lang/Cloneable"), (0, .class_ 1), (0, u "java/lang/Object"), (0, .class_ 3)] 3

/-- java/lang/Cloneable -/
def k3 : Class := { plain "java/lang/Cloneable" (some 0) with
  accessFlags := 1537
  interfaces := #[]
  cf := some (fileOf pool3 2 #[] #[] 1537 4 #[] #[])
  fields := #[]
  methods := #[]
  instanceTypes := #[]
  staticTypes := #[]
  resolved := Array.replicate 8 none
  statics := none }

def pool4 : Array CpInfo := pool [(1, u "java/io/Serializable"), (0, .class_ 1), (0, u "java/lang/Object"), (0, .class_ 3)] 3

/-- java/io/Serializable -/
def k4 : Class := { plain "java/io/Serializable" (some 0) with
  accessFlags := 1537
  interfaces := #[]
  cf := some (fileOf pool4 2 #[] #[] 1537 4 #[] #[])
  fields := #[]
  methods := #[]
  instanceTypes := #[]
  staticTypes := #[]
  resolved := Array.replicate 8 none
  statics := none }

/-- the primitive byte -/
def k5 : Class := { plain "byte" none with kind := .primitive 'B', accessFlags := 0x411 }
/-- [B -/
def k6 : Class := { plain "[B" (some 0) with kind := .array 5 .byte, interfaces := #[3, 4], accessFlags := 1041 }

/-- the primitive int -/
def k7 : Class := { plain "int" none with kind := .primitive 'I', accessFlags := 0x411 }
/-- [I -/
def k8 : Class := { plain "[I" (some 0) with kind := .array 7 .int, interfaces := #[3, 4], accessFlags := 1041 }

def heap : Heap := #[]
def classes : Array Class := #[k0, k1, k2, k3, k4, k5, k6, k7, k8]
def interned : List (Array UInt16 × Addr) := []
def slotsUsed : Nat := 0
def theMethod : MethodId := ⟨1, 2⟩
def args0 : Array Value := #[.int 5]
def aboutOver (below : List Frame) : State where
  vm := { classes := classes, interned := interned.toArray }
  heap := heap
  slotsUsed := slotsUsed
  threads := #[{ frames := .invoking theMethod args0 :: below }]
def below0 : List Frame := [.native { method := ⟨0, 0⟩, args := #[] }]
def about1 : State := aboutOver below0
def p0 : Program := .bare "" "" ""
def e0 : Env := launch0.env 0 0 0
theorem w_frames : about1.frames = Frame.invoking theMethod args0 :: below0 := rfl
set_option maxRecDepth 65536 in
theorem w_args : argsFit about1.vm theMethod args0 = true := by decide +kernel
set_option maxRecDepth 65536 in
theorem w_heap : heapFits about1 = true := by decide +kernel
set_option maxRecDepth 65536 in
theorem w_runnable : about1.curStatus? = some .runnable := by decide +kernel
set_option maxRecDepth 65536 in
theorem w_alone : about1.alone = true := by decide +kernel
set_option maxRecDepth 65536 in
theorem w_named : about1.methodNamed? x = some theMethod := by decide +kernel
set_option maxRecDepth 65536 in
theorem w_hears : about1.hears theMethod below0 = true := by decide +kernel
set_option maxRecDepth 65536 in
theorem w_ripe : about1.ripe theMethod args0 below0 = true := by decide +kernel
theorem w_running : about1.status = .running := rfl
set_option maxRecDepth 65536 in
theorem w_room : about1.hasRoom e0.platform room_1 = true :=
  launch0.hasRoom_least _ room_1 (by decide +kernel) (by decide +kernel) (by decide +kernel) (by decide +kernel) (by decide +kernel) (by decide +kernel)
theorem allAtoms_all (ts : List Jvm.Cond) (a : Array Jvm.Value) (st : Jvm.State) : (allAtoms ts).before a st = ts.all (fun c => c.before a st) := by
  induction ts with
  | nil => rfl
  | cons c t ih =>
    show (Jvm.Cond.and c (allAtoms t)).before a st = _
    rw [Jvm.Cond.before_and, ih, List.all_cons]
def words1 : List Jvm.Cond := Jvm.Cond.code x code maxLocals ret :: tables_1
/-- a 'code' word, met by the world's own term for the bytes: nothing is compared byte by byte -/
theorem code_word {y : MethodName} {bytes : ByteArray} {mx : Nat} {rt : Option FieldType} {a : Array Value} {s : State} {m : MethodId} {meth : Method} {c : Code} (h1 : s.methodNamed? y = some m) (h2 : s.vm.method? m = some meth) (h3 : meth.code = some c) (h4 : c.code = bytes)
    (h5 : (c.maxLocals == mx && c.exceptionTable.isEmpty && decide (c.maxStack ≤ mostOperands) && decide (meth.sig.returnType = rt) && !meth.locks && decide (parseMethodDescriptor y.desc = some meth.sig)) = true) : (Jvm.Cond.code y bytes mx rt).before a s = true := by
  simp only [Bool.and_eq_true, beq_iff_eq, Bool.not_eq_true', decide_eq_true_eq] at h5
  obtain ⟨⟨⟨⟨⟨g1, g2⟩, g3⟩, g4⟩, g5⟩, g6⟩ := h5
  simp [Cond.before, Cond.holds, Cond.value, h1, h2, h3, h4, g1, g2, g3, g4, g5, g6]
def isCode : Jvm.Cond → Bool
  | .code _ _ _ _ => true
  | _ => false
theorem all_split {L : List Jvm.Cond} {P : Jvm.Cond → Bool} (h1 : L.all (fun c => isCode c || P c) = true) (h2 : ∀ c ∈ L.filter isCode, P c = true) : L.all P = true := by
  refine List.all_eq_true.mpr fun c hc => ?_
  have h := List.all_eq_true.mp h1 c hc
  rcases Bool.eq_false_or_eq_true (isCode c) with hi | hi
  · exact h2 c (List.mem_filter.mpr ⟨hc, hi⟩)
  · simpa [hi] using h
set_option maxRecDepth 65536 in
theorem w_c0 : (Jvm.Cond.code x code maxLocals ret).before args0 about1 = true := code_word (m := ⟨1, 2⟩) (meth := k1m2) (c := k1c2) (by decide +kernel) rfl rfl rfl (by decide +kernel)
set_option maxRecDepth 65536 in
theorem w_c1 : (Jvm.Cond.code ({ cls := "com/example/brisk_sieve/brisksieve/text/HostName", name := "isDomainByte", desc := "(I)Z" } : Jvm.MethodName) prog_101_method_5_code (1 : Nat) (Option.some Jvm.ClassFile.FieldType.boolean)).before args0 about1 = true := code_word (m := ⟨2, 1⟩) (meth := k2m1) (c := k2c1) (by decide +kernel) rfl rfl rfl (by decide +kernel)
set_option maxRecDepth 65536 in
theorem w_c2 : (Jvm.Cond.code ({ cls := "com/example/brisk_sieve/brisksieve/text/HostNameIsDomainBytePinLaw", name := "ref", desc := "(I)Z" } : Jvm.MethodName) method_2_code (2 : Nat) (Option.some Jvm.ClassFile.FieldType.boolean)).before args0 about1 = true := code_word (m := ⟨1, 1⟩) (meth := k1m1) (c := k1c1) (by decide +kernel) rfl rfl rfl (by decide +kernel)
def codes1 : List Jvm.Cond := [Jvm.Cond.code x code maxLocals ret, Jvm.Cond.code ({ cls := "com/example/brisk_sieve/brisksieve/text/HostName", name := "isDomainByte", desc := "(I)Z" } : Jvm.MethodName) prog_101_method_5_code (1 : Nat) (Option.some Jvm.ClassFile.FieldType.boolean), Jvm.Cond.code ({ cls := "com/example/brisk_sieve/brisksieve/text/HostNameIsDomainBytePinLaw", name := "ref", desc := "(I)Z" } : Jvm.MethodName) method_2_code (2 : Nat) (Option.some Jvm.ClassFile.FieldType.boolean)]
set_option maxRecDepth 65536 in
theorem codes_eq : words1.filter isCode = codes1 := rfl
theorem w_codes : ∀ c ∈ words1.filter isCode, c.before args0 about1 = true := by
  rw [codes_eq]
  intro c hc
  simp only [codes1, List.mem_cons, List.not_mem_nil, or_false] at hc
  rcases hc with rfl | rfl | rfl
  · exact w_c0
  · exact w_c1
  · exact w_c2
set_option maxRecDepth 65536 in
theorem w_t1 : words1.all (fun c => isCode c || c.before args0 about1) = true := by decide +kernel
theorem w_tables : (allAtoms (Jvm.Cond.code x code maxLocals ret :: tables_1)).before args0 about1 = true := by
  rw [allAtoms_all]
  show words1.all (fun c => c.before args0 about1) = true
  refine all_split ?_ w_codes
  rw [w_t1]
set_option maxRecDepth 65536 in
theorem w_case : (Jvm.Cond.and given_1 narrow_1).before args0 about1 = true := by decide +kernel
theorem w_applies : (headSpec (Jvm.Cond.code x code maxLocals ret :: tables_1) room_1).applies x e0.platform about1 = true :=
  (Spec.applies_iff w_frames).mpr ⟨w_running, w_runnable, w_alone, w_named, w_hears, w_ripe, w_room, w_tables⟩
theorem atStart : AtStart classFile x code maxLocals ret World_1 tables_1 room_1 Calls_1 rest_1 Pre_1 launch0 p0 e0 about1 theMethod args0 below0 :=
  ⟨lists_1, trivial, launch0.admits_env _ _ _, launch0.least_env, fairChoices_fair.cas, fairChoices_fair.clock, w_frames, w_args, w_heap, w_applies, trivial, trivial, w_case⟩
end start1
theorem witness_1 : WitnessClaimed_1 := ⟨start1.p0, start1.e0, start1.about1, start1.theMethod, start1.args0, start1.below0, start1.atStart⟩
end Jvm.Pilot.@@N@@
