import JvmDerived
import JvmDerived.Pilot.@@N@@Statement
import JvmDerived.Pilot.@@N@@Code
set_option linter.unusedVariables false
set_option linter.unusedSimpArgs false
@@BLOCK:NumsL.lean.txt@@
namespace Jvm.RoadKit
open Sem ClassFile Op Lib Jvm.Stand Jvm.Free Jvm.LawKit
section Goes
variable {p : Program} {l : Launch} {e : Env} {R : Room} {s : State} {m : MethodId} {args : Array Value} {below : List Frame} {meth : Method} {c : Code} {T : State} {locs : List Loc} {cells slots : Nat}
/-- from here the run comes to its return, and Q holds there -/
def Goes (p : Program) (e : Env) (below : List Frame) (s : State) (Q : Option Value → Heap → List Loc → Prop) (kc ks : Nat) (S : State) : Prop :=
  ∃ s₂ o, Steps p.tables e below S s₂ ∧ s₂.status = .running ∧ Ended s₂ below o ∧ ∃ v L, o = .returned v ∧ Q v s₂.heap L ∧ FrameEnd s o s₂ L kc ks
variable {Q Q' : Option Value → Heap → List Loc → Prop} {kc ks : Nat} {A B : State}
theorem Goes.go (h : ∀ t, Steps p.tables e below A t → Steps p.tables e below B t) (g : Goes p e below s Q kc ks A) : Goes p e below s Q kc ks B := by
  obtain ⟨s2, o, h1, h2⟩ := g
  exact ⟨s2, o, h _ h1, h2⟩
theorem Goes.tr (h : Steps p.tables e below B A) (g : Goes p e below s Q kc ks A) : Goes p e below s Q kc ks B := g.go fun _ k => h.trans k
theorem Goes.weaken (h : ∀ v hp L, Q' v hp L → Q v hp L) (g : Goes p e below s Q' kc ks A) : Goes p e below s Q kc ks A := by
  obtain ⟨s2, o, h1, h2, h3, v, L, h4, h5, h6⟩ := g
  exact ⟨s2, o, h1, h2, h3, v, L, h4, h _ _ _ h5, h6⟩
theorem Goes.castQ (h : Q = Q') (g : Goes p e below s Q' kc ks A) : Goes p e below s Q kc ks A := h ▸ g
theorem Goes.out (X : Stand p l e R s m args below meth c T locs cells slots) (hlk : meth.locks = false) {v : Option Value} (hv : meth.sig.returnType = none → v = none) {F : State}
    (hstep : ∀ fs, (∀ (f : JFrame) (acts : List Action), f.method = m → f.locked = none → f.entered = [] → (doReturn e (T.setTop f) acts v).1 = T.setFrames fs) → Steps p.tables e below F (T.setFrames fs))
    (hq : Q v T.heap locs) (hc : cells ≤ kc) (hs : slots ≤ ks) : Goes p e below s Q kc ks F := by
  obtain ⟨fs, hr, hrun, hended, hW, hsame⟩ := X.leave (v := v) hv hlk
  exact ⟨_, _, hstep fs hr, hrun, hended, _, _, rfl, hq, ⟨_, rfl⟩, hW, hsame.mono hc hs⟩
theorem retI (X : Stand p l e R s m args below meth c T locs cells slots) (hx : p.tables.exec = Jvm.exec) {pc : Nat} {Ls : Array Slot} {z : Int32} {rest : List Value} (hret : meth.sig.returnType = some .int) (hd : decode c.code pc = .ok (.ireturn, 1)) {fs : List Frame}
    (hl : ∀ (f : JFrame) (acts : List Action), f.method = m → f.locked = none → f.entered = [] → (doReturn e (T.setTop f) acts (some (.int z))).1 = T.setFrames fs) : Steps p.tables e below (T.setTop (mkF m pc Ls (.int z :: rest))) (T.setFrames fs) := by
  have hm' : T.vm.method? m = some meth := X.method'
  have hn : narrow .int (.int z) = .int z := rfl
  show Steps p.tables e below (T.setTop { method := m, pc := pc, locals := Ls, stack := _ :: rest, locked := none }) _
  jvm_step X.here [X.here.top, hx, hd, hm', hret, hn]
  first | (intro acts; rw [hl _ acts rfl rfl rfl]) | rw [hl _ _ rfl rfl rfl]
  exact Steps.refl _
theorem Goes.retI (X : Stand p l e R s m args below meth c T locs cells slots) (hx : p.tables.exec = Jvm.exec) (hlk : meth.locks = false) (hret : meth.sig.returnType = some .int) {pc : Nat} {Ls : Array Slot} {z : Int32} {rest : List Value} (hd : decode c.code pc = .ok (.ireturn, 1))
    (hq : Q (some (.int z)) T.heap locs) (hc : cells ≤ kc) (hs : slots ≤ ks) : Goes p e below s Q kc ks (T.setTop (mkF m pc Ls (.int z :: rest))) :=
  Goes.out X hlk (fun h => by rw [hret] at h; cases h) (fun fs hr => Jvm.RoadKit.retI X hx hret hd hr) hq hc hs
theorem Goes.retN (t : FieldType) (X : Stand p l e R s m args below meth c T locs cells slots) (hx : p.tables.exec = Jvm.exec) (hlk : meth.locks = false) (hret : meth.sig.returnType = some t) (ht : t = .boolean ∨ t = .byte ∨ t = .char ∨ t = .short) {pc : Nat} {Ls : Array Slot} {z : Int32} {rest : List Value} (hd : decode c.code pc = .ok (.ireturn, 1))
    (hq : Q (some (.int (nar t z))) T.heap locs) (hc : cells ≤ kc) (hs : slots ≤ ks) : Goes p e below s Q kc ks (T.setTop (mkF m pc Ls (.int z :: rest))) :=
  Goes.out X hlk (fun h => by rw [hret] at h; cases h) (fun fs hr => Jvm.RoadKit.retN X hx hret ht hd hr) hq hc hs
theorem Goes.ret0 (X : Stand p l e R s m args below meth c T locs cells slots) (hx : p.tables.exec = Jvm.exec) (hlk : meth.locks = false) (hret : meth.sig.returnType = none) {pc : Nat} {Ls : Array Slot} (hd : decode c.code pc = .ok (.return_, 1))
    (hq : Q none T.heap locs) (hc : cells ≤ kc) (hs : slots ≤ ks) : Goes p e below s Q kc ks (T.setTop (mkF m pc Ls [])) :=
  Goes.out X hlk (fun _ => rfl) (fun fs hr => X.returnOut hx hret hd hr) hq hc hs
theorem Goes.retJ (X : Stand p l e R s m args below meth c T locs cells slots) (hx : p.tables.exec = Jvm.exec) (hlk : meth.locks = false) (hret : meth.sig.returnType = some .long) {pc : Nat} {Ls : Array Slot} {z : Int64} (hd : decode c.code pc = .ok (.lreturn, 1))
    (hq : Q (some (.long z)) T.heap locs) (hc : cells ≤ kc) (hs : slots ≤ ks) : Goes p e below s Q kc ks (T.setTop (mkF m pc Ls [.long z])) :=
  Goes.out X hlk (fun h => by rw [hret] at h; cases h) (fun fs hr => X.lreturnOut hx hret hd hr) hq hc hs
theorem Goes.retA (X : Stand p l e R s m args below meth c T locs cells slots) (hx : p.tables.exec = Jvm.exec) (hlk : meth.locks = false) {w : Value} (hw : w.isRef = true) {t : FieldType} (hret : meth.sig.returnType = some t) (ht : t.isReference = true) {pc : Nat} {Ls : Array Slot} (hd : decode c.code pc = .ok (.areturn, 1))
    (hq : Q (some w) T.heap locs) (hc : cells ≤ kc) (hs : slots ≤ ks) : Goes p e below s Q kc ks (T.setTop (mkF m pc Ls [w])) :=
  Goes.out X hlk (fun h => by rw [hret] at h; cases h) (fun fs hr => X.areturnOut hx hw hret ht hd hr) hq hc hs
/-- the answer of a method that writes nothing -/
def Qp (z : Value) (h0 : Heap) (n0 : Nat) (v : Option Value) (h : Heap) (L : List Loc) : Prop := v = some z ∧ Fr n0 L ∧ h = h0
/-- the answer of a method that writes nothing and returns nothing -/
def Qn (h0 : Heap) (n0 : Nat) (v : Option Value) (h : Heap) (L : List Loc) : Prop := v = none ∧ Fr n0 L ∧ h = h0
theorem Goes.qi {z z' : Int32} {h0 : Heap} {n0 : Nat} (h : z = z') (g : Goes p e below s (Qp (.int z') h0 n0) kc ks A) : Goes p e below s (Qp (.int z) h0 n0) kc ks A := h ▸ g
theorem Goes.qj {z z' : Int64} {h0 : Heap} {n0 : Nat} (h : z = z') (g : Goes p e below s (Qp (.long z') h0 n0) kc ks A) : Goes p e below s (Qp (.long z) h0 n0) kc ks A := h ▸ g
end Goes
end Jvm.RoadKit
namespace Jvm.RoadKit
open Sem ClassFile Op Lib Jvm.Stand Jvm.Free Jvm.LawKit
/-- an array of ints (bytes, chars, booleans): its length and what each place holds -/
def IA (Z : State) (h : Heap) (a : Addr) (ty : FieldType) (n : Nat) (f : Nat → Int32) : Prop :=
  ∃ c : Cell, Arr Z h a c ty ∧ c.slots.size = n ∧ n < 2 ^ 31 ∧ ∀ i, i < n → c.slots[i]? = some (.int (f i)) ∧ fits ty (.int (f i)) = true
def own_upd (f : Nat → Int32) (i : Nat) (v : Int32) : Nat → Int32 := fun k => if k = i then v else f k
section IAs
variable {p : Program} {l : Launch} {e : Env} {R : Room} {s : State} {m : MethodId} {args : Array Value} {below : List Frame} {meth : Method} {c : Code} {T : State} {locs : List Loc} {cells slots : Nat} {Z : State} {a0 : Array Value} {h h' : Heap} {a b : Addr} {ty : FieldType} {n : Nat} {f f' : Nat → Int32} {sl : Nat} {v : Value} {ws : List Addr}
theorem IA.lt (F : IA Z h a ty n f) : a < h.size := by obtain ⟨c, A, -⟩ := F; exact A.lt
theorem IA.ext (F : IA Z h a ty n f) (E : Ext h h') : IA Z h' a ty n f := by obtain ⟨c, A, r⟩ := F; exact ⟨c, A.ext E, r⟩
theorem IA.other (F : IA Z h b ty n f) (W : Wr h h' a sl v) (q : b ≠ a) : IA Z h' b ty n f := by obtain ⟨c, A, r⟩ := F; exact ⟨c, A.other W q, r⟩
theorem IA.keep (F : IA Z h a ty n f) (K : Keep h h' ws) (q : a ∉ ws) : IA Z h' a ty n f := by obtain ⟨c, A, r⟩ := F; exact ⟨c, ⟨K.2.1 a c A.1 q, A.2⟩, r⟩
theorem IA.as (F : IA Z h a ty n f) (q : ∀ i, i < n → f i = f' i) : IA Z h a ty n f' := by
  obtain ⟨c, A, S, M, H⟩ := F
  exact ⟨c, A, S, M, fun i hi => by rw [← q i hi]; exact H i hi⟩
theorem IA.bound (F : IA Z h a ty n f) : n < 2 ^ 31 := by obtain ⟨c, A, S, M, H⟩ := F; exact M
theorem own_nat {i : Nat} (hi : i < 2 ^ 31) : (Int32.ofNat i).toInt = i := Int32.toInt_ofNat_of_lt (by omega)
theorem own_cl {i : Nat} (hi : i < 2 ^ 31) : (Int32.ofNat i).toNatClampNeg = i := by
  have := own_nat hi
  show (Int32.ofNat i).toInt.toNat = i
  omega
theorem own_in {i : Nat} (hi : i < n) (hn : n < 2 ^ 31) : ¬ (Int32.ofNat i < 0 ∨ n ≤ (Int32.ofNat i).toNatClampNeg) := by
  rw [own_cl (by omega)]
  rintro (q | q)
  · have := Int32.lt_iff_toInt_lt.mp q
    rw [own_nat (by omega)] at this
    have z : (0 : Int32).toInt = 0 := rfl
    omega
  · omega
theorem IA.set {c : Cell} (A : Arr Z h a c ty) (S : c.slots.size = n) (M : n < 2 ^ 31) (H : ∀ i, i < n → c.slots[i]? = some (.int (f i)) ∧ fits ty (.int (f i)) = true) {i : Nat} (hi : i < n) {x : Int32} (hx : fits ty (.int x) = true) (W : Wr h h' a i (.int x)) : IA Z h' a ty n (own_upd f i x) := by
  refine ⟨c.setSlot i (.int x), A.same W, by rw [sz_set]; exact S, M, fun k hk => ?_⟩
  by_cases q : k = i
  · subst q
    simp only [own_upd, if_pos]
    exact ⟨by simp [Cell.setSlot, S, hk], hx⟩
  · simp only [own_upd, if_neg q]
    refine ⟨?_, (H k hk).2⟩
    rw [← (H k hk).1]
    simp only [Cell.setSlot]
    exact Array.getElem?_setIfInBounds_ne (Ne.symm q)
theorem own_newA (X : Stand p l e R s m args below meth c T locs cells slots) (hx : p.tables.exec = Jvm.exec) (hZ : Z.Warmed39 s.vm) {aty : ArrayType} (w : (Cond.arrayClass (newarray.typeOf aty)).before a0 Z = true) (eT : T.heap = h) {g : JFrame} (hg : g.method = m) (hd : decode c.code g.pc = .ok (.newarray aty, 2)) {z : Int32} {rest : List Value} (hs : g.stack = .int z :: rest)
    {n : Nat} (hz : z = Int32.ofNat n) {cap : Nat} (hcap : n ≤ cap) (hb : cap * 8 ≤ 536870912) (hc : cells + 1 ≤ R.cells) (hl : slots + cap ≤ R.slots) (hdv : defaultValue (newarray.typeOf aty) = .int 0) (hft : fits (newarray.typeOf aty) (.int 0) = true) {ad : String} (had : "[" ++ (newarray.typeOf aty).toString = ad) :
    ∃ T' h', Stand p l e R s m args below meth c T' locs (cells + 1) (slots + cap) ∧ T'.heap = h' ∧ Ext h h' ∧ IA Z h' h.size (newarray.typeOf aty) n (fun _ => 0) ∧ Exa Z h' h.size ad ∧
      ∀ target, Steps p.tables e below (T'.setTop { g with pc := g.pc + 2, stack := .ref h.size :: rest }) target → Steps p.tables e below (T.setTop g) target := by
  have hn31 : n < 2 ^ 31 := by omega
  have hcl : z.toNatClampNeg = n := by rw [hz]; exact own_cl hn31
  have hneg : ¬ z < 0 := by
    rw [hz]; intro q
    have := Int32.lt_iff_toInt_lt.mp q
    rw [own_nat hn31] at this
    have z : (0 : Int32).toInt = 0 := rfl
    omega
  obtain ⟨T', h', cA, X', e', E, A, EX, st⟩ := newPE X hx hZ w eT hg hd hs hneg (cap := cap) (by rw [hcl]; exact hcap) hb hc hl had
  refine ⟨T', h', X', e', E, ⟨_, A, by rw [sz_new]; exact hcl, hn31, fun i hi => ⟨?_, hft⟩⟩, EX, st⟩
  have := get_new (cA := cA) (ty := newarray.typeOf aty) (n := z) (k := Int32.ofNat i) (by rw [hcl]; exact own_in hi hn31)
  rw [own_cl (by omega), hdv] at this
  exact this
theorem own_stI (X : Stand p l e R s m args below meth c T locs cells slots) (hx : p.tables.exec = Jvm.exec) (hZ : Z.Warmed39 s.vm) (eT : T.heap = h) (A : IA Z h a .int n f) {j x : Int32} {i : Nat} (hj : j = Int32.ofNat i) (hi : i < n) {g : JFrame} (hg : g.method = m) {rest : List Value} (hs : g.stack = .int x :: .int j :: .ref a :: rest) (hd : decode c.code g.pc = .ok (.iastore, 1)) :
    ∃ T' h', Stand p l e R s m args below meth c T' (locs ++ [⟨a, i⟩]) cells slots ∧ T'.heap = h' ∧ Wr h h' a i (.int x) ∧ IA Z h' a .int n (own_upd f i x) ∧ ∀ target, Steps p.tables e below (T'.setTop { g with pc := g.pc + 1, stack := rest }) target → Steps p.tables e below (T.setTop g) target := by
  obtain ⟨cl, A, S, M, H⟩ := A
  subst hj
  obtain ⟨T', h', X', e', W, st⟩ := stI X hx hZ eT A (j := Int32.ofNat i) (by rw [S]; exact own_in hi M) hg hs hd
  rw [own_cl (by omega)] at X' W
  exact ⟨T', h', X', e', W, IA.set A S M H hi rfl W, st⟩
theorem own_stB (X : Stand p l e R s m args below meth c T locs cells slots) (hx : p.tables.exec = Jvm.exec) (hZ : Z.Warmed39 s.vm) (eT : T.heap = h) (A : IA Z h a .byte n f) {j x : Int32} {i : Nat} (hj : j = Int32.ofNat i) (hi : i < n) {g : JFrame} (hg : g.method = m) {rest : List Value} (hs : g.stack = .int x :: .int j :: .ref a :: rest) (hd : decode c.code g.pc = .ok (.bastore, 1)) :
    ∃ T' h', Stand p l e R s m args below meth c T' (locs ++ [⟨a, i⟩]) cells slots ∧ T'.heap = h' ∧ Wr h h' a i (.int (nar .byte x)) ∧ IA Z h' a .byte n (own_upd f i (nar .byte x)) ∧ ∀ target, Steps p.tables e below (T'.setTop { g with pc := g.pc + 1, stack := rest }) target → Steps p.tables e below (T.setTop g) target := by
  obtain ⟨cl, A, S, M, H⟩ := A
  subst hj
  obtain ⟨T', h', X', e', W, st⟩ := stB X hx hZ eT A (j := Int32.ofNat i) (by rw [S]; exact own_in hi M) hg hs hd
  rw [own_cl (by omega)] at X' W
  exact ⟨T', h', X', e', W, IA.set A S M H hi (fits_nar_byte _) W, st⟩
theorem own_stC (X : Stand p l e R s m args below meth c T locs cells slots) (hx : p.tables.exec = Jvm.exec) (hZ : Z.Warmed39 s.vm) (eT : T.heap = h) (A : IA Z h a .char n f) {j x : Int32} {i : Nat} (hj : j = Int32.ofNat i) (hi : i < n) {g : JFrame} (hg : g.method = m) {rest : List Value} (hs : g.stack = .int x :: .int j :: .ref a :: rest) (hd : decode c.code g.pc = .ok (.castore, 1)) :
    ∃ T' h', Stand p l e R s m args below meth c T' (locs ++ [⟨a, i⟩]) cells slots ∧ T'.heap = h' ∧ Wr h h' a i (.int (nar .char x)) ∧ IA Z h' a .char n (own_upd f i (nar .char x)) ∧ ∀ target, Steps p.tables e below (T'.setTop { g with pc := g.pc + 1, stack := rest }) target → Steps p.tables e below (T.setTop g) target := by
  obtain ⟨cl, A, S, M, H⟩ := A
  subst hj
  obtain ⟨T', h', X', e', W, st⟩ := stC X hx hZ eT A (j := Int32.ofNat i) (by rw [S]; exact own_in hi M) hg hs hd
  rw [own_cl (by omega)] at X' W
  exact ⟨T', h', X', e', W, IA.set A S M H hi (fits_nar_char _) W, st⟩
theorem own_stZ (X : Stand p l e R s m args below meth c T locs cells slots) (hx : p.tables.exec = Jvm.exec) (hZ : Z.Warmed39 s.vm) (eT : T.heap = h) (A : IA Z h a .boolean n f) {j x : Int32} {i : Nat} (hj : j = Int32.ofNat i) (hi : i < n) {g : JFrame} (hg : g.method = m) {rest : List Value} (hs : g.stack = .int x :: .int j :: .ref a :: rest) (hd : decode c.code g.pc = .ok (.bastore, 1)) :
    ∃ T' h', Stand p l e R s m args below meth c T' (locs ++ [⟨a, i⟩]) cells slots ∧ T'.heap = h' ∧ Wr h h' a i (.int (nar .boolean x)) ∧ IA Z h' a .boolean n (own_upd f i (nar .boolean x)) ∧ ∀ target, Steps p.tables e below (T'.setTop { g with pc := g.pc + 1, stack := rest }) target → Steps p.tables e below (T.setTop g) target := by
  obtain ⟨cl, A, S, M, H⟩ := A
  subst hj
  obtain ⟨T', h', X', e', W, st⟩ := stZ X hx hZ eT A (j := Int32.ofNat i) (by rw [S]; exact own_in hi M) hg hs hd
  rw [own_cl (by omega)] at X' W
  exact ⟨T', h', X', e', W, IA.set A S M H hi (fits_nar_bool _) W, st⟩
theorem own_ldI (X : Stand p l e R s m args below meth c T locs cells slots) (hx : p.tables.exec = Jvm.exec) (hZ : Z.Warmed39 s.vm) (eT : T.heap = h) (A : IA Z h a .int n f) {j : Int32} {i : Nat} (hj : j = Int32.ofNat i) (hi : i < n) {g : JFrame} (hg : g.method = m) {rest : List Value} (hs : g.stack = .int j :: .ref a :: rest) (hd : decode c.code g.pc = .ok (.iaload, 1)) :
    ∀ target, Steps p.tables e below (T.setTop { g with pc := g.pc + 1, stack := .int (f i) :: rest }) target → Steps p.tables e below (T.setTop g) target := by
  obtain ⟨cl, A, S, M, H⟩ := A
  subst hj
  exact X.iaload hx (j := Int32.ofNat i) (v := .int (f i)) (by rw [eT]; exact A.1) (State.isArrayOf_alike hZ.alike A.2.1) A.2.2 (by rw [S]; exact own_in hi M) (by rw [own_cl (by omega)]; exact (H i hi).1) hg hs hd
theorem own_ldB (X : Stand p l e R s m args below meth c T locs cells slots) (hx : p.tables.exec = Jvm.exec) (hZ : Z.Warmed39 s.vm) (eT : T.heap = h) (A : IA Z h a .byte n f) {j : Int32} {i : Nat} (hj : j = Int32.ofNat i) (hi : i < n) {g : JFrame} (hg : g.method = m) {rest : List Value} (hs : g.stack = .int j :: .ref a :: rest) (hd : decode c.code g.pc = .ok (.baload, 1)) :
    ∀ target, Steps p.tables e below (T.setTop { g with pc := g.pc + 1, stack := .int (f i) :: rest }) target → Steps p.tables e below (T.setTop g) target := by
  obtain ⟨cl, A, S, M, H⟩ := A
  subst hj
  exact X.baloadBytes hx (j := Int32.ofNat i) (v := .int (f i)) (by rw [eT]; exact A.1) (State.isArrayOf_alike hZ.alike A.2.1) A.2.2 (by rw [S]; exact own_in hi M) (by rw [own_cl (by omega)]; exact (H i hi).1) hg hs hd
theorem own_ldZ (X : Stand p l e R s m args below meth c T locs cells slots) (hx : p.tables.exec = Jvm.exec) (hZ : Z.Warmed39 s.vm) (eT : T.heap = h) (A : IA Z h a .boolean n f) {j : Int32} {i : Nat} (hj : j = Int32.ofNat i) (hi : i < n) {g : JFrame} (hg : g.method = m) {rest : List Value} (hs : g.stack = .int j :: .ref a :: rest) (hd : decode c.code g.pc = .ok (.baload, 1)) :
    ∀ target, Steps p.tables e below (T.setTop { g with pc := g.pc + 1, stack := .int (f i) :: rest }) target → Steps p.tables e below (T.setTop g) target := by
  obtain ⟨cl, A, S, M, H⟩ := A
  subst hj
  exact X.baloadBooleans hx (j := Int32.ofNat i) (v := .int (f i)) (by rw [eT]; exact A.1) (State.isArrayOf_alike hZ.alike A.2.1) A.2.2 (by rw [S]; exact own_in hi M) (by rw [own_cl (by omega)]; exact (H i hi).1) hg hs hd
theorem own_ldC (X : Stand p l e R s m args below meth c T locs cells slots) (hx : p.tables.exec = Jvm.exec) (hZ : Z.Warmed39 s.vm) (eT : T.heap = h) (A : IA Z h a .char n f) {j : Int32} {i : Nat} (hj : j = Int32.ofNat i) (hi : i < n) {g : JFrame} (hg : g.method = m) {rest : List Value} (hs : g.stack = .int j :: .ref a :: rest) (hd : decode c.code g.pc = .ok (.caload, 1)) :
    ∀ target, Steps p.tables e below (T.setTop { g with pc := g.pc + 1, stack := .int (f i) :: rest }) target → Steps p.tables e below (T.setTop g) target := by
  obtain ⟨cl, A, S, M, H⟩ := A
  subst hj
  exact X.caload hx (j := Int32.ofNat i) (v := .int (f i)) (by rw [eT]; exact A.1) (State.isArrayOf_alike hZ.alike A.2.1) A.2.2 (by rw [S]; exact own_in hi M) (by rw [own_cl (by omega)]; exact (H i hi).1) hg hs hd
theorem own_len (X : Stand p l e R s m args below meth c T locs cells slots) (hx : p.tables.exec = Jvm.exec) (hZ : Z.Warmed39 s.vm) (eT : T.heap = h) (A : IA Z h a ty n f) {g : JFrame} (hg : g.method = m) {rest : List Value} (hs : g.stack = .ref a :: rest) (hd : decode c.code g.pc = .ok (.arraylength, 1)) :
    ∀ target, Steps p.tables e below (T.setTop { g with pc := g.pc + 1, stack := .int (Int32.ofNat n) :: rest }) target → Steps p.tables e below (T.setTop g) target := by
  obtain ⟨cl, A, S, M, H⟩ := A
  subst S
  exact X.arraylength hx (by rw [eT]; exact A.1) (State.isArrayOf_alike hZ.alike A.2.1) hg hs hd
end IAs
end Jvm.RoadKit
namespace Jvm.RoadKit
open Sem ClassFile Op Lib Jvm.Stand Jvm.Free Jvm.LawKit
theorem own_eqNat {x : Int32} {n : Nat} (h : x.toInt = n) : x = Int32.ofNat n := Int32.toInt_inj.mp (by rw [h, own_nat (by have := x.toInt_lt; omega)])
theorem own_andN (x m : Int32) (k : Nat) (hk : k < 32) (hm : m.toBitVec.toNat = 2 ^ k - 1) : ∃ n : Nat, n < 2 ^ k ∧ x &&& m = Int32.ofNat n := by
  have h := Jvm.Kit.i32_mask x m hk hm
  have hpos : (0 : Int) < 2 ^ k := Int.pow_pos (by decide)
  have h1 := Int.emod_nonneg x.toInt (Int.ne_of_gt hpos)
  have h2 := Int.emod_lt_of_pos x.toInt hpos
  refine ⟨(x.toInt % 2 ^ k).toNat, ?_, own_eqNat ?_⟩
  · have e : ((2 ^ k : Nat) : Int) = (2 : Int) ^ k := by rw [Int.natCast_pow]; rfl
    omega
  · rw [h]; omega
theorem own_modN (x : Int32) (d : Nat) (h0 : 0 < d) (hd : d < 2 ^ 31) : ∃ n : Nat, n < d ∧ (x &&& 2147483647) % Int32.ofNat d = Int32.ofNat n := by
  have h := Jvm.Kit.i32_mask x 2147483647 (k := 31) (by decide) (by decide)
  have h1 := Int.emod_nonneg x.toInt (show (2 : Int) ^ 31 ≠ 0 by decide)
  have e := Jvm.Kit.i32_rem_nonneg (x := x &&& 2147483647) (y := Int32.ofNat d) (by rw [h]; exact h1)
  rw [own_nat hd] at e
  have h2 := Int.emod_nonneg (x &&& 2147483647).toInt (show (d : Int) ≠ 0 by omega)
  have h3 := Int.emod_lt_of_pos (x &&& 2147483647).toInt (show (0 : Int) < d by omega)
  exact ⟨((x &&& 2147483647).toInt % d).toNat, by omega, own_eqNat (by rw [e]; omega)⟩
theorem own_lt {i n : Nat} (hi : i < 2 ^ 31) (hn : n < 2 ^ 31) : Int32.ofNat i < Int32.ofNat n ↔ i < n := by
  rw [Int32.lt_iff_toInt_lt, own_nat hi, own_nat hn]; omega
theorem own_inj {i n : Nat} (hi : i < 2 ^ 31) (hn : n < 2 ^ 31) : Int32.ofNat i = Int32.ofNat n ↔ i = n := by
  rw [← Int32.toInt_inj, own_nat hi, own_nat hn]; omega
theorem own_add {i n : Nat} (h : i + n < 2 ^ 31) : Int32.ofNat i + Int32.ofNat n = Int32.ofNat (i + n) :=
  own_eqNat (by rw [Jvm.Kit.i32_add (by rw [own_nat (by omega), own_nat (by omega)]; omega) (by rw [own_nat (by omega), own_nat (by omega)]; omega), own_nat (by omega), own_nat (by omega)]; omega)
end Jvm.RoadKit
namespace Jvm.RoadKit
open Sem ClassFile Op Lib Jvm.Stand Jvm.Free Jvm.LawKit
section Switch
variable {p : Program} {l : Launch} {e : Env} {R : Room} {s : State} {m : MethodId} {args : Array Value} {below : List Frame} {meth : Method} {c : Code} {T : State} {locs : List Loc} {cells slots : Nat}
theorem own_lswH (X : Stand p l e R s m args below meth c T locs cells slots) (hx : p.tables.exec = Jvm.exec) {g : JFrame} (hg : g.method = m) {k : Int32} {rest : List Value} {pc0 pc' : Nat} (hpc : g.pc = pc0)
    (hs : g.stack = .int k :: rest) {dflt : Int} {pairs : Array (Int × Int)} {len : Nat} (hd : decode c.code g.pc = .ok (.lookupswitch dflt pairs, len))
    (hsorted : (pairs.toList.zip (pairs.toList.drop 1)).all (fun (a, next) => a.1 < next.1) = true) {a off : Int} (hfind : pairs.find? (·.1 == k.toInt) = some (a, off)) (ho : 0 ≤ (pc0 : Int) + off) (hp : ((pc0 : Int) + off).toNat = pc')
    (target : State) (hr : Steps p.tables e below (T.setTop { g with pc := pc', stack := rest }) target) : Steps p.tables e below (T.setTop g) target := by
  subst hpc hp
  exact X.lookupswitchHit hx hg hs hd hsorted hfind ho target hr
theorem own_lswM (X : Stand p l e R s m args below meth c T locs cells slots) (hx : p.tables.exec = Jvm.exec) {g : JFrame} (hg : g.method = m) {k : Int32} {rest : List Value} {pc0 pc' : Nat} (hpc : g.pc = pc0)
    (hs : g.stack = .int k :: rest) {dflt : Int} {pairs : Array (Int × Int)} {len : Nat} (hd : decode c.code g.pc = .ok (.lookupswitch dflt pairs, len))
    (hsorted : (pairs.toList.zip (pairs.toList.drop 1)).all (fun (a, next) => a.1 < next.1) = true) (hfind : ∀ q ∈ pairs.toList, q.1 ≠ k.toInt) (ho : 0 ≤ (pc0 : Int) + dflt) (hp : ((pc0 : Int) + dflt).toNat = pc')
    (target : State) (hr : Steps p.tables e below (T.setTop { g with pc := pc', stack := rest }) target) : Steps p.tables e below (T.setTop g) target := by
  subst hpc hp
  exact X.lookupswitchMiss hx hg hs hd hsorted (find_miss hfind) ho target hr
theorem own_nk {x y : Int32} {z : Int} (hz : y.toInt = z) (h : ¬ x = y) : z ≠ x.toInt := fun q => h (Int32.toInt_inj.mp (q.symm.trans hz.symm))
end Switch
end Jvm.RoadKit
namespace Jvm.RoadKit
open Sem ClassFile Op Lib Jvm.Stand Jvm.Free Jvm.LawKit
section Statics
variable {Z : State} {args : Array Value} {C n d K : String} {t : Term} {a : Addr}
theorem own_sta (h : (Cond.exactly (.static C n d) K).value args Z none Z [] = some true) (hi : (Cond.initialized C).before args Z = true) (hl : (Cond.laysStatic C n d).before args Z = true) : ∃ a, (Term.static C n d).eval args Z none [] Z = some (.ref a) ∧ Sta Z Z.heap C n d (.ref a) ∧ Exa Z Z.heap a K := by
  obtain ⟨a, e⟩ := exa_v h
  exact ⟨a, e, Sta.start e (Or.inr ⟨hi, hl⟩), Exa.start e h⟩
theorem own_stfI {k : Int32} (e : t.eval args Z none [] Z = some (.ref a)) (h : (Cond.eq (.field t C n d) (.int k)).value args Z none Z [] = some true) : Fld Z Z.heap a C n d (.int k) := by
  apply Fld.start
  simp only [Cond.value, Term.eval, e, Option.bind_eq_bind, Option.bind_some] at h
  cases hf : Z.fieldOf? a C n d with
  | none => simp [hf] at h
  | some x => cases x <;> simp [hf] at h ⊢; exact h
theorem own_stfJ {k : Int64} (e : t.eval args Z none [] Z = some (.ref a)) (h : (Cond.eq (.field t C n d) (.long k)).value args Z none Z [] = some true) : Fld Z Z.heap a C n d (.long k) := by
  apply Fld.start
  simp only [Cond.value, Term.eval, e, Option.bind_eq_bind, Option.bind_some] at h
  cases hf : Z.fieldOf? a C n d with
  | none => simp [hf] at h
  | some x => cases x <;> simp [hf] at h ⊢; exact h
end Statics
end Jvm.RoadKit
namespace Jvm.RoadKit
open Sem ClassFile Op Lib Jvm.Stand Jvm.Free Jvm.LawKit
theorem own_lrem {tb : Tables} [Ours tb] {e : Env} {below : List Frame} {T target : State} {m : MethodId} {c : Code} {g : JFrame} (h : At T m c below) (hx : tb.exec = Jvm.exec) (hg : g.method = m) {x y : Int64} {rest : List Value} (hd : decode c.code g.pc = .ok (.lrem, 1)) (hs : g.stack = .long y :: .long x :: rest) (hy : y ≠ 0)
    (hr : Steps tb e below (T.setTop { g with pc := g.pc + 1, stack := .long (x % y) :: rest }) target) : Steps tb e below (T.setTop g) target :=
  XS.lrem h hx hg hd hs hy (by rw [lrem_mod]; exact hr)
theorem own_irem_mod (x y : Int32) : x - (x / y) * y = x % y := by
  apply Int32.toInt_inj.mp
  have h1 := Int32.le_toInt (x % y)
  have h2 := Int32.toInt_lt (x % y)
  rw [Int32.toInt_sub, Int32.toInt_mul, Int32.toInt_div, Int.bmod_mul_bmod, Int.sub_bmod_bmod, Int.mul_comm (x.toInt.tdiv y.toInt), ← Int.tmod_def, ← Int32.toInt_mod]
  exact Int.bmod_eq_of_le_mul_two (by omega) (by omega)
theorem own_irem {tb : Tables} [Ours tb] {e : Env} {below : List Frame} {T target : State} {m : MethodId} {c : Code} {g : JFrame} (h : At T m c below) (hx : tb.exec = Jvm.exec) (hg : g.method = m) {x y : Int32} {rest : List Value} (hd : decode c.code g.pc = .ok (.irem, 1)) (hs : g.stack = .int y :: .int x :: rest) (hy : y ≠ 0)
    (hr : Steps tb e below (T.setTop { g with pc := g.pc + 1, stack := .int (x % y) :: rest }) target) : Steps tb e below (T.setTop g) target :=
  XS.irem h hx hg hd hs hy (by rw [own_irem_mod]; exact hr)
theorem own_div1 (x : Int64) : x / 1 = x := Int64.toInt_inj.mp (by
  rw [Jvm.Kit.i64_div (fun q => by have := q.2; revert this; decide)]
  show x.toInt.tdiv 1 = x.toInt
  exact Int.tdiv_one _)
end Jvm.RoadKit
namespace Jvm.RoadKit
open Sem ClassFile Op Lib Jvm.Stand Jvm.Free Jvm.LawKit
theorem own_kx {h h' : Heap} (K : Keep h h' []) : Ext h h' := ⟨K.1, fun a c q => K.2.1 a c q nin0⟩
section Unlike
variable {Z : State} {a0 : Array Value}
theorem own_nsroot {O K : String} {n : Nat} (w : (Cond.noSuperclass O).before a0 Z = true) (wk : (Cond.instantiable K n).before a0 Z = true) (hn : O ≠ K) : NS Z O K := by
  obtain ⟨c, k, h1, h2, h3, -, -⟩ := Cond.noSuperclass_spec w
  obtain ⟨t, k', g1, g2, -⟩ := Cond.instantiable_spec wk
  have ne := ids_ne h1 g1 hn
  refine ⟨c, t, h1, g1, fun fuel => ?_⟩
  cases fuel with
  | zero => rfl
  | succ f => simp [Vm.isSubclassAux, ne, h2, h3]
theorem own_nsno {C S K : String} {n : Nat} (w : (Cond.superclass C S).before a0 Z = true) (wk : (Cond.instantiable K n).before a0 Z = true) (N : NS Z C K) (hn : C ≠ K) : ∃ c t, Z.vm.findClass C = some c ∧ Z.vm.findClass K = some t ∧ Z.vm.assignable c t = false := by
  obtain ⟨c, t, h0, g0, n3⟩ := N
  obtain ⟨p, k, kp, h1, h2, h3, h4, h5, -, h7⟩ := Cond.superclass_spec h0 w
  obtain ⟨t', k', g1, g2, g3, g4, -⟩ := Cond.instantiable_spec wk
  cases g0.symm.trans g1
  have g7 : k'.isInterface = false := by
    cases hq : k'.isInterface with
    | false => rfl
    | true => rw [hq] at g4; simp at g4
  have ne := ids_ne h0 g0 hn
  refine ⟨c, t, h0, g0, ?_⟩
  show Z.vm.assignableAux (255 + 1) c t = false
  simp [Vm.assignableAux, ne, h2, g2, h5, g3, g7, Vm.isSubclass, n3]
end Unlike
end Jvm.RoadKit
namespace Jvm.RoadKit
open Sem ClassFile Op Lib Jvm.Stand Jvm.Free Jvm.LawKit
section Clone
variable {p : Program} {l : Launch} {e : Env} {R : Room} {s : State} {m : MethodId} {args : Array Value} {below : List Frame} {meth : Method} {c : Code} {T : State} {locs : List Loc} {cells slots : Nat} {Z : State} {a0 : Array Value} {h : Heap} {a : Addr} {ty : FieldType} {n : Nat} {f : Nat → Int32}
theorem own_clone (X : Stand p l e R s m args below meth c T locs cells slots) (hx : p.tables.exec = Jvm.exec) (hZ : Z.Warmed39 s.vm) {own ad : String} {index : Nat} (hown : s.vm.findClass own = some m.cls)
    (w1 : (Cond.methodLink own index ⟨ad, "clone", "()Ljava/lang/Object;"⟩).before a0 Z = true) (w2 : (Cond.sameMethod ad "java/lang/Object" "clone" "()Ljava/lang/Object;").before a0 Z = true) (w3 : (Cond.native ⟨"java/lang/Object", "clone", "()Ljava/lang/Object;"⟩).before a0 Z = true)
    (w4 : (Cond.instanceMethod ⟨"java/lang/Object", "clone", "()Ljava/lang/Object;"⟩).before a0 Z = true) (w5 : (Cond.selects ad ⟨ad, "clone", "()Ljava/lang/Object;"⟩ ⟨"java/lang/Object", "clone", "()Ljava/lang/Object;"⟩).before a0 Z = true) (w6 : (Cond.castable ad "java/lang/Cloneable").before a0 Z = true)
    (eT : T.heap = h) (A : IA Z h a ty n f) (E : Exa Z h a ad) {g : JFrame} (hg : g.method = m) (hsize : g.locals.size = c.maxLocals) {rest : List Value} (hs : g.stack = .ref a :: rest) (hd : decode c.code g.pc = .ok (.invokevirtual index, 3))
    (hf : 1 ≤ R.frames) {W cap : Nat} (hW : 2 * g.monitorRoom + (rest.map fun v => v.category).sum ≤ W) (hl : W + 14 ≤ R.locals) (hcap : n ≤ cap) (hc : cells + 1 ≤ R.cells) (hsl : slots + cap ≤ R.slots) :
    ∃ T' h', Stand p l e R s m args below meth c T' locs (cells + 1) (slots + cap) ∧ T'.heap = h' ∧ Ext h h' ∧ IA Z h' h.size ty n f ∧ Exa Z h' h.size ad ∧
      ∀ target, Steps p.tables e below (T'.setTop { g with pc := g.pc + 3, stack := .ref h.size :: rest }) target → Steps p.tables e below (T.setTop g) target := by
  obtain ⟨cl, A, S, M, H⟩ := A
  have FC : FitC Z cl := fitC_of A fun i hi v hv => by
    rw [S] at hi
    rw [(H i hi).1] at hv
    cases hv
    exact (H i hi).2
  obtain ⟨T', h', X', e', ex, A', E', st⟩ := cloneA X hx hZ hown w1 w2 w3 w4 w5 w6 eT A E FC hg hsize hs hd hf hW hl (by rw [S]; exact hcap) hc hsl
  exact ⟨T', h', X', e', ex, ⟨cloneOf cl, A', S, M, H⟩, E', st⟩
end Clone
theorem own_sub {i n : Nat} (h : n ≤ i) (hi : i < 2 ^ 31) : Int32.ofNat i - Int32.ofNat n = Int32.ofNat (i - n) :=
  own_eqNat (by rw [Jvm.Kit.i32_sub (by rw [own_nat (by omega), own_nat (by omega)]; omega) (by rw [own_nat (by omega), own_nat (by omega)]; omega), own_nat (by omega), own_nat (by omega)]; omega)
end Jvm.RoadKit
namespace Jvm.RoadKit
open Sem ClassFile Op Lib Jvm.Stand Jvm.Free Jvm.LawKit
theorem own_stak {Z : State} {h h' : Heap} {C n d D : String} {v : Value} {a : Addr} (F : Sta Z h C n d v) (K : Keep h h' [a]) (E : Exa Z h a D) : Sta Z h' C n d v := by
  obtain ⟨cf, i, k, f, st, cell, h1, h2, h3, h4, h5, h6, h7⟩ := F
  obtain ⟨cell', k', e1, -, -, e4, -⟩ := E
  have ne : st ≠ a := fun q => by
    subst q
    cases h5.symm.trans e1
    rw [e4] at h6
    cases h6
  exact ⟨cf, i, k, f, st, cell, h1, h2, h3, h4, K.2.1 _ _ h5 (ninS ne nin0), h6, h7⟩
end Jvm.RoadKit
namespace Jvm.Pilot.@@N@@
open Jvm Jvm.ClassFile Sem Op Lib Jvm.Free Jvm.Stand Jvm.LawKit Jvm.RoadKit Bundle Jvm.Pilot.@@N@@.Jvm.D
theorem pd_0 : parseMethodDescriptor "()V" = some ⟨[], none⟩ := by decide +kernel
theorem pd_1 : parseMethodDescriptor "(J)V" = some ⟨[.long], none⟩ := by decide +kernel
theorem pd_2 : parseMethodDescriptor "(ZJJJJ)V" = some ⟨[.boolean, .long, .long, .long, .long], none⟩ := by decide +kernel
theorem pd_3 : parseMethodDescriptor "(Ljava/lang/Object;)Z" = some ⟨[(.object "java/lang/Object")], some .boolean⟩ := by decide +kernel
theorem pd_4 : parseMethodDescriptor "(J)Ljava/lang/Long;" = some ⟨[.long], some (.object "java/lang/Long")⟩ := by decide +kernel
theorem d1_0 : decode prog_3_method_2_code 0 = .ok (.aload_n 0, 1) := by decide +kernel
theorem d1_1 : decode prog_3_method_2_code 1 = .ok (.invokespecial 7, 3) := by decide +kernel
theorem d1_4 : decode prog_3_method_2_code 4 = .ok (.aload_n 0, 1) := by decide +kernel
theorem d1_5 : decode prog_3_method_2_code 5 = .ok (.iload_n 1, 1) := by decide +kernel
theorem d1_6 : decode prog_3_method_2_code 6 = .ok (.putfield 12, 3) := by decide +kernel
theorem d1_9 : decode prog_3_method_2_code 9 = .ok (.aload_n 0, 1) := by decide +kernel
theorem d1_10 : decode prog_3_method_2_code 10 = .ok (.lload_n 2, 1) := by decide +kernel
theorem d1_11 : decode prog_3_method_2_code 11 = .ok (.putfield 16, 3) := by decide +kernel
theorem d1_14 : decode prog_3_method_2_code 14 = .ok (.aload_n 0, 1) := by decide +kernel
theorem d1_15 : decode prog_3_method_2_code 15 = .ok (.lload 4, 2) := by decide +kernel
theorem d1_17 : decode prog_3_method_2_code 17 = .ok (.putfield 20, 3) := by decide +kernel
theorem d1_20 : decode prog_3_method_2_code 20 = .ok (.aload_n 0, 1) := by decide +kernel
theorem d1_21 : decode prog_3_method_2_code 21 = .ok (.lload 6, 2) := by decide +kernel
theorem d1_23 : decode prog_3_method_2_code 23 = .ok (.putfield 23, 3) := by decide +kernel
theorem d1_26 : decode prog_3_method_2_code 26 = .ok (.aload_n 0, 1) := by decide +kernel
theorem d1_27 : decode prog_3_method_2_code 27 = .ok (.lload 8, 2) := by decide +kernel
theorem d1_29 : decode prog_3_method_2_code 29 = .ok (.putfield 26, 3) := by decide +kernel
theorem d1_32 : decode prog_3_method_2_code 32 = .ok (.return_, 1) := by decide +kernel
theorem pn_1 : plainName "com/example/danaid/danaid/Decision" = true := by first | (simp [plainName, overriddenIn]; done) | decide +kernel
theorem ef_rm1 (m : MethodId) (x0 : Addr) (x1 : Int32) (x2 : Int64) (x3 : Int64) (x4 : Int64) (x5 : Int64) : entryFrame m #[(.ref x0), (.int x1), (.long x2), (.long x3), (.long x4), (.long x5)] 10 = mkF m 0 #[.val (.ref x0), .val (.int x1), .val (.long x2), .second, .val (.long x3), .second, .val (.long x4), .second, .val (.long x5), .second] [] := by first | (simp [entryFrame, mkF, argsToLocals, Value.category]; done) | rfl
def Q_rm1 (Z : State) (r0 : Addr) (p1 : Int32) (q2 : Int64) (q3 : Int64) (q4 : Int64) (q5 : Int64) (h0 : Heap) (n0 : Nat) (v : Option Value) (h : Heap) (L : List Loc) : Prop := v = none ∧ Fr n0 L ∧ Keep h0 h [r0] ∧ Exa Z h r0 "com/example/danaid/danaid/Decision" ∧ Fld Z h r0 "com/example/danaid/danaid/Decision" "admitted" "Z" (.int (nar .boolean p1)) ∧ Fld Z h r0 "com/example/danaid/danaid/Decision" "permitsLeft" "J" (.long q2) ∧ Fld Z h r0 "com/example/danaid/danaid/Decision" "retryAfterMillis" "J" (.long q3) ∧ Fld Z h r0 "com/example/danaid/danaid/Decision" "resetMillis" "J" (.long q4) ∧ Fld Z h r0 "com/example/danaid/danaid/Decision" "proceedAfterMillis" "J" (.long q5)
set_option maxRecDepth 65536 in
set_option maxHeartbeats 40000000 in
theorem rm1 (l : Launch) (Z : State) (a0 : Array Value) (hw : ∀ d ∈ tables_1, d.before a0 Z = true) (ws : List Jvm.Cond) (r0 : Addr) (p1 : Int32) (q2 : Int64) (q3 : Int64) (q4 : Int64) (q5 : Int64) (h0 : Heap) (n0 : Nat) (Z0 : n0 ≤ h0.size) (E_r0 : Exa Z h0 r0 "com/example/danaid/danaid/Decision") (g_r0 : n0 ≤ r0) (F_r0_admitted : Fld Z h0 r0 "com/example/danaid/danaid/Decision" "admitted" "Z" (.int (0 : Int32))) (F_r0_permitsLeft : Fld Z h0 r0 "com/example/danaid/danaid/Decision" "permitsLeft" "J" (.long (0 : Int64))) (F_r0_retryAfterMillis : Fld Z h0 r0 "com/example/danaid/danaid/Decision" "retryAfterMillis" "J" (.long (0 : Int64))) (F_r0_resetMillis : Fld Z h0 r0 "com/example/danaid/danaid/Decision" "resetMillis" "J" (.long (0 : Int64))) (F_r0_proceedAfterMillis : Fld Z h0 r0 "com/example/danaid/danaid/Decision" "proceedAfterMillis" "J" (.long (0 : Int64))) :
    MetFree l (⟨"com/example/danaid/danaid/Decision", "<init>", "(ZJJJJ)V"⟩ : MethodName) (head1 (Jvm.Cond.code (⟨"com/example/danaid/danaid/Decision", "<init>", "(ZJJJJ)V"⟩ : MethodName) prog_3_method_2_code 10 none :: ws) ({ frames := 1, cells := 0, slots := 0, locals := 12 } : Room)) (fun a U => a = #[(.ref r0), (.int p1), (.long q2), (.long q3), (.long q4), (.long q5)] ∧ Z.Warmed39 U.vm ∧ U.heap = h0) (fun _ _ _ _ _ => True) (fun _ U o U' => ∃ v L, o = .returned v ∧ Q_rm1 Z r0 p1 q2 q3 q4 q5 h0 n0 v U'.heap L ∧ FrameEnd U o U' L ({ frames := 1, cells := 0, slots := 0, locals := 12 } : Room).cells ({ frames := 1, cells := 0, slots := 0, locals := 12 } : Room).slots) := by
  refine MetFree.of_bodySF (plainFor_of_name pn_1) hisR ?_
  intro p e s m args below meth c s₁ Bd hml0 hP hK
  obtain ⟨rfl, hZ, hh⟩ := hP
  have hx := Bd.exec
  have hby := Bd.bytes
  have hml : c.maxLocals = 10 := hml0
  have hown : s.vm.findClass "com/example/danaid/danaid/Decision" = some m.cls := findClass_of_methodNamed Bd.named
  have hnm := (name_of_methodNamed Bd.named Bd.method).1
  have hlk : meth.locks = false := BodyLoose.notSynchronized Bd
  have X0 : Stand p l e ({ frames := 1, cells := 0, slots := 0, locals := 12 } : Room) s m #[(.ref r0), (.int p1), (.long q2), (.long q3), (.long q4), (.long q5)] below meth c s₁ [] 0 0 := Stand.of_body Bd
  have e0 : s₁.heap = h0 := by rw [← hh, Bd.state]; rfl
  have N0 := Fr.nil n0
  have K0 : Keep h0 h0 [r0] := Keep.refl _ _
  show Goes p e below s (Q_rm1 Z r0 p1 q2 q3 q4 q5 h0 n0) ({ frames := 1, cells := 0, slots := 0, locals := 12 } : Room).cells ({ frames := 1, cells := 0, slots := 0, locals := 12 } : Room).slots (s₁.setTop (entryFrame m #[(.ref r0), (.int p1), (.long q2), (.long q3), (.long q4), (.long q5)] 10))
  rw [ef_rm1]
  show Goes p e below s _ _ _ (s₁.setTop (mkF m 0 #[.val (.ref r0), .val (.int p1), .val (.long q2), .second, .val (.long q3), .second, .val (.long q4), .second, .val (.long q5), .second] []))
  refine Goes.go (fun _ k => XS.aloadN X0.here hx rfl (hb hby d1_0) rfl rfl  k) ?_
  show Goes p e below s _ _ _ (s₁.setTop (mkF m 1 #[.val (.ref r0), .val (.int p1), .val (.long q2), .second, .val (.long q3), .second, .val (.long q4), .second, .val (.long q5), .second] [(.ref r0)]))
  obtain ⟨T1, X1, e1, st1⟩ := initO X0 hx hZ hown (hw _ (List.mem_of_getElem? (i := 6) rfl)) (hw _ (List.mem_of_getElem? (i := 7) rfl)) (hw _ (List.mem_of_getElem? (i := 8) rfl)) e0 (g := (mkF m 1 #[.val (.ref r0), .val (.int p1), .val (.long q2), .second, .val (.long q3), .second, .val (.long q4), .second, .val (.long q5), .second] [(.ref r0)])) rfl (by rw [hml]; rfl) rfl (hb hby d1_1) (by decide) (W := 0) (by show 2 * 0 + _ ≤ _; exact Nat.le_of_eq rfl) (by decide)
  refine Goes.go st1 ?_
  show Goes p e below s _ _ _ (T1.setTop (mkF m 4 #[.val (.ref r0), .val (.int p1), .val (.long q2), .second, .val (.long q3), .second, .val (.long q4), .second, .val (.long q5), .second] []))
  refine Goes.go (fun _ k => XS.aloadN X1.here hx rfl (hb hby d1_4) rfl rfl  k) ?_
  show Goes p e below s _ _ _ (T1.setTop (mkF m 5 #[.val (.ref r0), .val (.int p1), .val (.long q2), .second, .val (.long q3), .second, .val (.long q4), .second, .val (.long q5), .second] [(.ref r0)]))
  refine Goes.go (fun _ k => XS.iloadN X1.here hx rfl (hb hby d1_5) rfl  k) ?_
  show Goes p e below s _ _ _ (T1.setTop (mkF m 6 #[.val (.ref r0), .val (.int p1), .val (.long q2), .second, .val (.long q3), .second, .val (.long q4), .second, .val (.long q5), .second] [(.int p1), (.ref r0)]))
  obtain ⟨T2, h2, X2, e2, W2, st2⟩ := putFN X1 hx hZ hown (hw _ (List.mem_of_getElem? (i := 9) rfl)) Via.refl e1 F_r0_admitted E_r0 (Or.inr ⟨(hw _ (List.mem_of_getElem? (i := 10) rfl)), rfl, hnm⟩) (hw _ (List.mem_of_getElem? (i := 1) rfl)) (ty := .boolean) (v' := (.int (nar .boolean p1))) (by decide) rfl (fits_nar_bool _) (g := (mkF m 6 #[.val (.ref r0), .val (.int p1), .val (.long q2), .second, .val (.long q3), .second, .val (.long q4), .second, .val (.long q5), .second] [(.int p1), (.ref r0)])) rfl rfl (hb hby d1_6)
  have Fw2 := F_r0_admitted.same W2
  have N2 := Fr.snoc X2 N0 g_r0
  have Z2 := Nat.le_trans Z0 (Keep.of_wr W2).1
  have K2 := Keep.wr K0 W2 (Or.inl (List.mem_of_getElem? (i := 0) rfl))
  refine Goes.go st2 ?_
  show Goes p e below s _ _ _ (T2.setTop (mkF m 9 #[.val (.ref r0), .val (.int p1), .val (.long q2), .second, .val (.long q3), .second, .val (.long q4), .second, .val (.long q5), .second] []))
  refine Goes.go (fun _ k => XS.aloadN X2.here hx rfl (hb hby d1_9) rfl rfl  k) ?_
  show Goes p e below s _ _ _ (T2.setTop (mkF m 10 #[.val (.ref r0), .val (.int p1), .val (.long q2), .second, .val (.long q3), .second, .val (.long q4), .second, .val (.long q5), .second] [(.ref r0)]))
  refine Goes.go (fun _ k => XS.lloadN X2.here hx rfl (hb hby d1_10) rfl  k) ?_
  show Goes p e below s _ _ _ (T2.setTop (mkF m 11 #[.val (.ref r0), .val (.int p1), .val (.long q2), .second, .val (.long q3), .second, .val (.long q4), .second, .val (.long q5), .second] [(.long q2), (.ref r0)]))
  obtain ⟨T3, h3, X3, e3, W3, st3⟩ := putF X2 hx hZ hown (host := "") (Or.inl (hw _ (List.mem_of_getElem? (i := 11) rfl))) Via.refl e2 (F_r0_permitsLeft.other W2 (Or.inr (slot_ne (Or.inr (hw _ (List.mem_of_getElem? (i := 12) rfl))) (Or.inr (hw _ (List.mem_of_getElem? (i := 10) rfl))) (by decide) (t := .long) (t' := .boolean) (by decide) (by decide)))) (E_r0.wr W2) (Or.inr ⟨(hw _ (List.mem_of_getElem? (i := 12) rfl)), rfl, hnm⟩) (hw _ (List.mem_of_getElem? (i := 1) rfl)) (ty := .long) (by decide) rfl rfl (g := (mkF m 11 #[.val (.ref r0), .val (.int p1), .val (.long q2), .second, .val (.long q3), .second, .val (.long q4), .second, .val (.long q5), .second] [(.long q2), (.ref r0)])) rfl rfl (hb hby d1_11)
  have Fw3 := (F_r0_permitsLeft.other W2 (Or.inr (slot_ne (Or.inr (hw _ (List.mem_of_getElem? (i := 12) rfl))) (Or.inr (hw _ (List.mem_of_getElem? (i := 10) rfl))) (by decide) (t := .long) (t' := .boolean) (by decide) (by decide)))).same W3
  have N3 := Fr.snoc X3 N2 g_r0
  have Z3 := Nat.le_trans Z2 (Keep.of_wr W3).1
  have K3 := Keep.wr K2 W3 (Or.inl (List.mem_of_getElem? (i := 0) rfl))
  refine Goes.go st3 ?_
  show Goes p e below s _ _ _ (T3.setTop (mkF m 14 #[.val (.ref r0), .val (.int p1), .val (.long q2), .second, .val (.long q3), .second, .val (.long q4), .second, .val (.long q5), .second] []))
  refine Goes.go (fun _ k => XS.aloadN X3.here hx rfl (hb hby d1_14) rfl rfl  k) ?_
  show Goes p e below s _ _ _ (T3.setTop (mkF m 15 #[.val (.ref r0), .val (.int p1), .val (.long q2), .second, .val (.long q3), .second, .val (.long q4), .second, .val (.long q5), .second] [(.ref r0)]))
  refine Goes.go (fun _ k => XS.lload X3.here hx rfl (hb hby d1_15) rfl  k) ?_
  show Goes p e below s _ _ _ (T3.setTop (mkF m 17 #[.val (.ref r0), .val (.int p1), .val (.long q2), .second, .val (.long q3), .second, .val (.long q4), .second, .val (.long q5), .second] [(.long q3), (.ref r0)]))
  obtain ⟨T4, h4, X4, e4, W4, st4⟩ := putF X3 hx hZ hown (host := "") (Or.inl (hw _ (List.mem_of_getElem? (i := 13) rfl))) Via.refl e3 ((F_r0_retryAfterMillis.other W2 (Or.inr (slot_ne (Or.inr (hw _ (List.mem_of_getElem? (i := 14) rfl))) (Or.inr (hw _ (List.mem_of_getElem? (i := 10) rfl))) (by decide) (t := .long) (t' := .boolean) (by decide) (by decide)))).other W3 (Or.inr (slot_ne (Or.inr (hw _ (List.mem_of_getElem? (i := 14) rfl))) (Or.inr (hw _ (List.mem_of_getElem? (i := 12) rfl))) (by decide) (t := .long) (t' := .long) (by decide) (by decide)))) ((E_r0.wr W2).wr W3) (Or.inr ⟨(hw _ (List.mem_of_getElem? (i := 14) rfl)), rfl, hnm⟩) (hw _ (List.mem_of_getElem? (i := 1) rfl)) (ty := .long) (by decide) rfl rfl (g := (mkF m 17 #[.val (.ref r0), .val (.int p1), .val (.long q2), .second, .val (.long q3), .second, .val (.long q4), .second, .val (.long q5), .second] [(.long q3), (.ref r0)])) rfl rfl (hb hby d1_17)
  have Fw4 := ((F_r0_retryAfterMillis.other W2 (Or.inr (slot_ne (Or.inr (hw _ (List.mem_of_getElem? (i := 14) rfl))) (Or.inr (hw _ (List.mem_of_getElem? (i := 10) rfl))) (by decide) (t := .long) (t' := .boolean) (by decide) (by decide)))).other W3 (Or.inr (slot_ne (Or.inr (hw _ (List.mem_of_getElem? (i := 14) rfl))) (Or.inr (hw _ (List.mem_of_getElem? (i := 12) rfl))) (by decide) (t := .long) (t' := .long) (by decide) (by decide)))).same W4
  have N4 := Fr.snoc X4 N3 g_r0
  have Z4 := Nat.le_trans Z3 (Keep.of_wr W4).1
  have K4 := Keep.wr K3 W4 (Or.inl (List.mem_of_getElem? (i := 0) rfl))
  refine Goes.go st4 ?_
  show Goes p e below s _ _ _ (T4.setTop (mkF m 20 #[.val (.ref r0), .val (.int p1), .val (.long q2), .second, .val (.long q3), .second, .val (.long q4), .second, .val (.long q5), .second] []))
  refine Goes.go (fun _ k => XS.aloadN X4.here hx rfl (hb hby d1_20) rfl rfl  k) ?_
  show Goes p e below s _ _ _ (T4.setTop (mkF m 21 #[.val (.ref r0), .val (.int p1), .val (.long q2), .second, .val (.long q3), .second, .val (.long q4), .second, .val (.long q5), .second] [(.ref r0)]))
  refine Goes.go (fun _ k => XS.lload X4.here hx rfl (hb hby d1_21) rfl  k) ?_
  show Goes p e below s _ _ _ (T4.setTop (mkF m 23 #[.val (.ref r0), .val (.int p1), .val (.long q2), .second, .val (.long q3), .second, .val (.long q4), .second, .val (.long q5), .second] [(.long q4), (.ref r0)]))
  obtain ⟨T5, h5, X5, e5, W5, st5⟩ := putF X4 hx hZ hown (host := "") (Or.inl (hw _ (List.mem_of_getElem? (i := 15) rfl))) Via.refl e4 (((F_r0_resetMillis.other W2 (Or.inr (slot_ne (Or.inr (hw _ (List.mem_of_getElem? (i := 16) rfl))) (Or.inr (hw _ (List.mem_of_getElem? (i := 10) rfl))) (by decide) (t := .long) (t' := .boolean) (by decide) (by decide)))).other W3 (Or.inr (slot_ne (Or.inr (hw _ (List.mem_of_getElem? (i := 16) rfl))) (Or.inr (hw _ (List.mem_of_getElem? (i := 12) rfl))) (by decide) (t := .long) (t' := .long) (by decide) (by decide)))).other W4 (Or.inr (slot_ne (Or.inr (hw _ (List.mem_of_getElem? (i := 16) rfl))) (Or.inr (hw _ (List.mem_of_getElem? (i := 14) rfl))) (by decide) (t := .long) (t' := .long) (by decide) (by decide)))) (((E_r0.wr W2).wr W3).wr W4) (Or.inr ⟨(hw _ (List.mem_of_getElem? (i := 16) rfl)), rfl, hnm⟩) (hw _ (List.mem_of_getElem? (i := 1) rfl)) (ty := .long) (by decide) rfl rfl (g := (mkF m 23 #[.val (.ref r0), .val (.int p1), .val (.long q2), .second, .val (.long q3), .second, .val (.long q4), .second, .val (.long q5), .second] [(.long q4), (.ref r0)])) rfl rfl (hb hby d1_23)
  have Fw5 := (((F_r0_resetMillis.other W2 (Or.inr (slot_ne (Or.inr (hw _ (List.mem_of_getElem? (i := 16) rfl))) (Or.inr (hw _ (List.mem_of_getElem? (i := 10) rfl))) (by decide) (t := .long) (t' := .boolean) (by decide) (by decide)))).other W3 (Or.inr (slot_ne (Or.inr (hw _ (List.mem_of_getElem? (i := 16) rfl))) (Or.inr (hw _ (List.mem_of_getElem? (i := 12) rfl))) (by decide) (t := .long) (t' := .long) (by decide) (by decide)))).other W4 (Or.inr (slot_ne (Or.inr (hw _ (List.mem_of_getElem? (i := 16) rfl))) (Or.inr (hw _ (List.mem_of_getElem? (i := 14) rfl))) (by decide) (t := .long) (t' := .long) (by decide) (by decide)))).same W5
  have N5 := Fr.snoc X5 N4 g_r0
  have Z5 := Nat.le_trans Z4 (Keep.of_wr W5).1
  have K5 := Keep.wr K4 W5 (Or.inl (List.mem_of_getElem? (i := 0) rfl))
  refine Goes.go st5 ?_
  show Goes p e below s _ _ _ (T5.setTop (mkF m 26 #[.val (.ref r0), .val (.int p1), .val (.long q2), .second, .val (.long q3), .second, .val (.long q4), .second, .val (.long q5), .second] []))
  refine Goes.go (fun _ k => XS.aloadN X5.here hx rfl (hb hby d1_26) rfl rfl  k) ?_
  show Goes p e below s _ _ _ (T5.setTop (mkF m 27 #[.val (.ref r0), .val (.int p1), .val (.long q2), .second, .val (.long q3), .second, .val (.long q4), .second, .val (.long q5), .second] [(.ref r0)]))
  refine Goes.go (fun _ k => XS.lload X5.here hx rfl (hb hby d1_27) rfl  k) ?_
  show Goes p e below s _ _ _ (T5.setTop (mkF m 29 #[.val (.ref r0), .val (.int p1), .val (.long q2), .second, .val (.long q3), .second, .val (.long q4), .second, .val (.long q5), .second] [(.long q5), (.ref r0)]))
  obtain ⟨T6, h6, X6, e6, W6, st6⟩ := putF X5 hx hZ hown (host := "") (Or.inl (hw _ (List.mem_of_getElem? (i := 17) rfl))) Via.refl e5 ((((F_r0_proceedAfterMillis.other W2 (Or.inr (slot_ne (Or.inr (hw _ (List.mem_of_getElem? (i := 18) rfl))) (Or.inr (hw _ (List.mem_of_getElem? (i := 10) rfl))) (by decide) (t := .long) (t' := .boolean) (by decide) (by decide)))).other W3 (Or.inr (slot_ne (Or.inr (hw _ (List.mem_of_getElem? (i := 18) rfl))) (Or.inr (hw _ (List.mem_of_getElem? (i := 12) rfl))) (by decide) (t := .long) (t' := .long) (by decide) (by decide)))).other W4 (Or.inr (slot_ne (Or.inr (hw _ (List.mem_of_getElem? (i := 18) rfl))) (Or.inr (hw _ (List.mem_of_getElem? (i := 14) rfl))) (by decide) (t := .long) (t' := .long) (by decide) (by decide)))).other W5 (Or.inr (slot_ne (Or.inr (hw _ (List.mem_of_getElem? (i := 18) rfl))) (Or.inr (hw _ (List.mem_of_getElem? (i := 16) rfl))) (by decide) (t := .long) (t' := .long) (by decide) (by decide)))) ((((E_r0.wr W2).wr W3).wr W4).wr W5) (Or.inr ⟨(hw _ (List.mem_of_getElem? (i := 18) rfl)), rfl, hnm⟩) (hw _ (List.mem_of_getElem? (i := 1) rfl)) (ty := .long) (by decide) rfl rfl (g := (mkF m 29 #[.val (.ref r0), .val (.int p1), .val (.long q2), .second, .val (.long q3), .second, .val (.long q4), .second, .val (.long q5), .second] [(.long q5), (.ref r0)])) rfl rfl (hb hby d1_29)
  have Fw6 := ((((F_r0_proceedAfterMillis.other W2 (Or.inr (slot_ne (Or.inr (hw _ (List.mem_of_getElem? (i := 18) rfl))) (Or.inr (hw _ (List.mem_of_getElem? (i := 10) rfl))) (by decide) (t := .long) (t' := .boolean) (by decide) (by decide)))).other W3 (Or.inr (slot_ne (Or.inr (hw _ (List.mem_of_getElem? (i := 18) rfl))) (Or.inr (hw _ (List.mem_of_getElem? (i := 12) rfl))) (by decide) (t := .long) (t' := .long) (by decide) (by decide)))).other W4 (Or.inr (slot_ne (Or.inr (hw _ (List.mem_of_getElem? (i := 18) rfl))) (Or.inr (hw _ (List.mem_of_getElem? (i := 14) rfl))) (by decide) (t := .long) (t' := .long) (by decide) (by decide)))).other W5 (Or.inr (slot_ne (Or.inr (hw _ (List.mem_of_getElem? (i := 18) rfl))) (Or.inr (hw _ (List.mem_of_getElem? (i := 16) rfl))) (by decide) (t := .long) (t' := .long) (by decide) (by decide)))).same W6
  have N6 := Fr.snoc X6 N5 g_r0
  have Z6 := Nat.le_trans Z5 (Keep.of_wr W6).1
  have K6 := Keep.wr K5 W6 (Or.inl (List.mem_of_getElem? (i := 0) rfl))
  refine Goes.go st6 ?_
  show Goes p e below s _ _ _ (T6.setTop (mkF m 32 #[.val (.ref r0), .val (.int p1), .val (.long q2), .second, .val (.long q3), .second, .val (.long q4), .second, .val (.long q5), .second] []))
  refine Goes.ret0 X6 hx hlk Bd.returns (hb hby d1_32) ?_ (by decide) (by decide)
  exact (show Q_rm1 Z r0 p1 q2 q3 q4 q5 h0 n0 _ T6.heap _ by rw [e6]; exact ⟨rfl, N6, K6, (((((E_r0.wr W2).wr W3).wr W4).wr W5).wr W6), ((((Fw2.other W3 (Or.inr (slot_ne (Or.inr (hw _ (List.mem_of_getElem? (i := 10) rfl))) (Or.inr (hw _ (List.mem_of_getElem? (i := 12) rfl))) (by decide) (t := .boolean) (t' := .long) (by decide) (by decide)))).other W4 (Or.inr (slot_ne (Or.inr (hw _ (List.mem_of_getElem? (i := 10) rfl))) (Or.inr (hw _ (List.mem_of_getElem? (i := 14) rfl))) (by decide) (t := .boolean) (t' := .long) (by decide) (by decide)))).other W5 (Or.inr (slot_ne (Or.inr (hw _ (List.mem_of_getElem? (i := 10) rfl))) (Or.inr (hw _ (List.mem_of_getElem? (i := 16) rfl))) (by decide) (t := .boolean) (t' := .long) (by decide) (by decide)))).other W6 (Or.inr (slot_ne (Or.inr (hw _ (List.mem_of_getElem? (i := 10) rfl))) (Or.inr (hw _ (List.mem_of_getElem? (i := 18) rfl))) (by decide) (t := .boolean) (t' := .long) (by decide) (by decide)))), (((Fw3.other W4 (Or.inr (slot_ne (Or.inr (hw _ (List.mem_of_getElem? (i := 12) rfl))) (Or.inr (hw _ (List.mem_of_getElem? (i := 14) rfl))) (by decide) (t := .long) (t' := .long) (by decide) (by decide)))).other W5 (Or.inr (slot_ne (Or.inr (hw _ (List.mem_of_getElem? (i := 12) rfl))) (Or.inr (hw _ (List.mem_of_getElem? (i := 16) rfl))) (by decide) (t := .long) (t' := .long) (by decide) (by decide)))).other W6 (Or.inr (slot_ne (Or.inr (hw _ (List.mem_of_getElem? (i := 12) rfl))) (Or.inr (hw _ (List.mem_of_getElem? (i := 18) rfl))) (by decide) (t := .long) (t' := .long) (by decide) (by decide)))), ((Fw4.other W5 (Or.inr (slot_ne (Or.inr (hw _ (List.mem_of_getElem? (i := 14) rfl))) (Or.inr (hw _ (List.mem_of_getElem? (i := 16) rfl))) (by decide) (t := .long) (t' := .long) (by decide) (by decide)))).other W6 (Or.inr (slot_ne (Or.inr (hw _ (List.mem_of_getElem? (i := 14) rfl))) (Or.inr (hw _ (List.mem_of_getElem? (i := 18) rfl))) (by decide) (t := .long) (t' := .long) (by decide) (by decide)))), (Fw5.other W6 (Or.inr (slot_ne (Or.inr (hw _ (List.mem_of_getElem? (i := 16) rfl))) (Or.inr (hw _ (List.mem_of_getElem? (i := 18) rfl))) (by decide) (t := .long) (t' := .long) (by decide) (by decide)))), Fw6⟩)
theorem d3_0 : decode prog_3_method_8_code 0 = .ok (.aload_n 1, 1) := by decide +kernel
theorem d3_1 : decode prog_3_method_8_code 1 = .ok (.instanceof 2, 3) := by decide +kernel
theorem d3_4 : decode prog_3_method_8_code 4 = .ok (.ifCond .eq 71, 3) := by decide +kernel
theorem d3_7 : decode prog_3_method_8_code 7 = .ok (.aload_n 1, 1) := by decide +kernel
theorem d3_8 : decode prog_3_method_8_code 8 = .ok (.checkcast 2, 3) := by decide +kernel
theorem d3_11 : decode prog_3_method_8_code 11 = .ok (.astore_n 2, 1) := by decide +kernel
theorem d3_12 : decode prog_3_method_8_code 12 = .ok (.aload_n 0, 1) := by decide +kernel
theorem d3_13 : decode prog_3_method_8_code 13 = .ok (.getfield 12, 3) := by decide +kernel
theorem d3_16 : decode prog_3_method_8_code 16 = .ok (.aload_n 2, 1) := by decide +kernel
theorem d3_17 : decode prog_3_method_8_code 17 = .ok (.getfield 12, 3) := by decide +kernel
theorem d3_20 : decode prog_3_method_8_code 20 = .ok (.if_icmp .ne 55, 3) := by decide +kernel
theorem d3_23 : decode prog_3_method_8_code 23 = .ok (.aload_n 0, 1) := by decide +kernel
theorem d3_24 : decode prog_3_method_8_code 24 = .ok (.getfield 16, 3) := by decide +kernel
theorem d3_27 : decode prog_3_method_8_code 27 = .ok (.aload_n 2, 1) := by decide +kernel
theorem d3_28 : decode prog_3_method_8_code 28 = .ok (.getfield 16, 3) := by decide +kernel
theorem d3_31 : decode prog_3_method_8_code 31 = .ok (.lcmp, 1) := by decide +kernel
theorem d3_32 : decode prog_3_method_8_code 32 = .ok (.ifCond .ne 43, 3) := by decide +kernel
theorem d3_35 : decode prog_3_method_8_code 35 = .ok (.aload_n 0, 1) := by decide +kernel
theorem d3_36 : decode prog_3_method_8_code 36 = .ok (.getfield 20, 3) := by decide +kernel
theorem d3_39 : decode prog_3_method_8_code 39 = .ok (.aload_n 2, 1) := by decide +kernel
theorem d3_40 : decode prog_3_method_8_code 40 = .ok (.getfield 20, 3) := by decide +kernel
theorem d3_43 : decode prog_3_method_8_code 43 = .ok (.lcmp, 1) := by decide +kernel
theorem d3_44 : decode prog_3_method_8_code 44 = .ok (.ifCond .ne 31, 3) := by decide +kernel
theorem d3_47 : decode prog_3_method_8_code 47 = .ok (.aload_n 0, 1) := by decide +kernel
theorem d3_48 : decode prog_3_method_8_code 48 = .ok (.getfield 23, 3) := by decide +kernel
theorem d3_51 : decode prog_3_method_8_code 51 = .ok (.aload_n 2, 1) := by decide +kernel
theorem d3_52 : decode prog_3_method_8_code 52 = .ok (.getfield 23, 3) := by decide +kernel
theorem d3_55 : decode prog_3_method_8_code 55 = .ok (.lcmp, 1) := by decide +kernel
theorem d3_56 : decode prog_3_method_8_code 56 = .ok (.ifCond .ne 19, 3) := by decide +kernel
theorem d3_59 : decode prog_3_method_8_code 59 = .ok (.aload_n 0, 1) := by decide +kernel
theorem d3_60 : decode prog_3_method_8_code 60 = .ok (.getfield 26, 3) := by decide +kernel
theorem d3_63 : decode prog_3_method_8_code 63 = .ok (.aload_n 2, 1) := by decide +kernel
theorem d3_64 : decode prog_3_method_8_code 64 = .ok (.getfield 26, 3) := by decide +kernel
theorem d3_67 : decode prog_3_method_8_code 67 = .ok (.lcmp, 1) := by decide +kernel
theorem d3_68 : decode prog_3_method_8_code 68 = .ok (.ifCond .ne 7, 3) := by decide +kernel
theorem d3_71 : decode prog_3_method_8_code 71 = .ok (.iconst 1, 1) := by decide +kernel
theorem d3_72 : decode prog_3_method_8_code 72 = .ok (.goto 4, 3) := by decide +kernel
theorem d3_75 : decode prog_3_method_8_code 75 = .ok (.iconst 0, 1) := by decide +kernel
theorem d3_76 : decode prog_3_method_8_code 76 = .ok (.ireturn, 1) := by decide +kernel
theorem pn_3 : plainName "com/example/danaid/danaid/Decision" = true := by first | (simp [plainName, overriddenIn]; done) | decide +kernel
theorem ef_rm3 (m : MethodId) (x0 : Addr) (x1 : Addr) : entryFrame m #[(.ref x0), (.ref x1)] 3 = mkF m 0 #[.val (.ref x0), .val (.ref x1), .unset] [] := by first | (simp [entryFrame, mkF, argsToLocals, Value.category]; done) | rfl
def f3_75 (r0 : Addr) (r1 : Addr) (w_r0_admitted : Int32) (w_r0_permitsLeft : Int64) (w_r0_retryAfterMillis : Int64) (w_r0_resetMillis : Int64) (w_r0_proceedAfterMillis : Int64) (w_r1_admitted : Int32) (w_r1_permitsLeft : Int64) (w_r1_retryAfterMillis : Int64) (w_r1_resetMillis : Int64) (w_r1_proceedAfterMillis : Int64) : Int32 := (0 : Int32)
def f3 (r0 : Addr) (r1 : Addr) (w_r0_admitted : Int32) (w_r0_permitsLeft : Int64) (w_r0_retryAfterMillis : Int64) (w_r0_resetMillis : Int64) (w_r0_proceedAfterMillis : Int64) (w_r1_admitted : Int32) (w_r1_permitsLeft : Int64) (w_r1_retryAfterMillis : Int64) (w_r1_resetMillis : Int64) (w_r1_proceedAfterMillis : Int64) : Int32 := (if w_r0_admitted = w_r1_admitted then (if w_r0_permitsLeft = w_r1_permitsLeft then (if w_r0_retryAfterMillis = w_r1_retryAfterMillis then (if w_r0_resetMillis = w_r1_resetMillis then (nar .boolean (if w_r0_proceedAfterMillis = w_r1_proceedAfterMillis then (1 : Int32) else (0 : Int32))) else (f3_75 r0 r1 w_r0_admitted w_r0_permitsLeft w_r0_retryAfterMillis w_r0_resetMillis w_r0_proceedAfterMillis w_r1_admitted w_r1_permitsLeft w_r1_retryAfterMillis w_r1_resetMillis w_r1_proceedAfterMillis)) else (f3_75 r0 r1 w_r0_admitted w_r0_permitsLeft w_r0_retryAfterMillis w_r0_resetMillis w_r0_proceedAfterMillis w_r1_admitted w_r1_permitsLeft w_r1_retryAfterMillis w_r1_resetMillis w_r1_proceedAfterMillis)) else (f3_75 r0 r1 w_r0_admitted w_r0_permitsLeft w_r0_retryAfterMillis w_r0_resetMillis w_r0_proceedAfterMillis w_r1_admitted w_r1_permitsLeft w_r1_retryAfterMillis w_r1_resetMillis w_r1_proceedAfterMillis)) else (f3_75 r0 r1 w_r0_admitted w_r0_permitsLeft w_r0_retryAfterMillis w_r0_resetMillis w_r0_proceedAfterMillis w_r1_admitted w_r1_permitsLeft w_r1_retryAfterMillis w_r1_resetMillis w_r1_proceedAfterMillis))
set_option maxRecDepth 65536 in
set_option maxHeartbeats 40000000 in
theorem rm3 (l : Launch) (Z : State) (a0 : Array Value) (hw : ∀ d ∈ tables_1, d.before a0 Z = true) (ws : List Jvm.Cond) (r0 : Addr) (r1 : Addr) (w_r0_admitted : Int32) (w_r0_permitsLeft : Int64) (w_r0_retryAfterMillis : Int64) (w_r0_resetMillis : Int64) (w_r0_proceedAfterMillis : Int64) (w_r1_admitted : Int32) (w_r1_permitsLeft : Int64) (w_r1_retryAfterMillis : Int64) (w_r1_resetMillis : Int64) (w_r1_proceedAfterMillis : Int64) (h0 : Heap) (n0 : Nat) (Z0 : n0 ≤ h0.size) (E_r1 : Exa Z h0 r1 "com/example/danaid/danaid/Decision") (F_r0_admitted : Fld Z h0 r0 "com/example/danaid/danaid/Decision" "admitted" "Z" (.int w_r0_admitted)) (F_r0_permitsLeft : Fld Z h0 r0 "com/example/danaid/danaid/Decision" "permitsLeft" "J" (.long w_r0_permitsLeft)) (F_r0_retryAfterMillis : Fld Z h0 r0 "com/example/danaid/danaid/Decision" "retryAfterMillis" "J" (.long w_r0_retryAfterMillis)) (F_r0_resetMillis : Fld Z h0 r0 "com/example/danaid/danaid/Decision" "resetMillis" "J" (.long w_r0_resetMillis)) (F_r0_proceedAfterMillis : Fld Z h0 r0 "com/example/danaid/danaid/Decision" "proceedAfterMillis" "J" (.long w_r0_proceedAfterMillis)) (F_r1_admitted : Fld Z h0 r1 "com/example/danaid/danaid/Decision" "admitted" "Z" (.int w_r1_admitted)) (F_r1_permitsLeft : Fld Z h0 r1 "com/example/danaid/danaid/Decision" "permitsLeft" "J" (.long w_r1_permitsLeft)) (F_r1_retryAfterMillis : Fld Z h0 r1 "com/example/danaid/danaid/Decision" "retryAfterMillis" "J" (.long w_r1_retryAfterMillis)) (F_r1_resetMillis : Fld Z h0 r1 "com/example/danaid/danaid/Decision" "resetMillis" "J" (.long w_r1_resetMillis)) (F_r1_proceedAfterMillis : Fld Z h0 r1 "com/example/danaid/danaid/Decision" "proceedAfterMillis" "J" (.long w_r1_proceedAfterMillis)) :
    MetFree l (⟨"com/example/danaid/danaid/Decision", "equals", "(Ljava/lang/Object;)Z"⟩ : MethodName) (head1 (Jvm.Cond.code (⟨"com/example/danaid/danaid/Decision", "equals", "(Ljava/lang/Object;)Z"⟩ : MethodName) prog_3_method_8_code 3 (some .boolean) :: ws) ({ frames := 0, cells := 0, slots := 0, locals := 0 } : Room)) (fun a U => a = #[(.ref r0), (.ref r1)] ∧ Z.Warmed39 U.vm ∧ U.heap = h0) (fun _ _ _ _ _ => True) (fun _ U o U' => ∃ v L, o = .returned v ∧ Qp (.int (f3 r0 r1 w_r0_admitted w_r0_permitsLeft w_r0_retryAfterMillis w_r0_resetMillis w_r0_proceedAfterMillis w_r1_admitted w_r1_permitsLeft w_r1_retryAfterMillis w_r1_resetMillis w_r1_proceedAfterMillis)) h0 n0 v U'.heap L ∧ FrameEnd U o U' L ({ frames := 0, cells := 0, slots := 0, locals := 0 } : Room).cells ({ frames := 0, cells := 0, slots := 0, locals := 0 } : Room).slots) := by
  refine MetFree.of_bodySF (plainFor_of_name pn_3) hisR ?_
  intro p e s m args below meth c s₁ Bd hml0 hP hK
  obtain ⟨rfl, hZ, hh⟩ := hP
  have hx := Bd.exec
  have hby := Bd.bytes
  have hml : c.maxLocals = 3 := hml0
  have hown : s.vm.findClass "com/example/danaid/danaid/Decision" = some m.cls := findClass_of_methodNamed Bd.named
  have hnm := (name_of_methodNamed Bd.named Bd.method).1
  have hlk : meth.locks = false := BodyLoose.notSynchronized Bd
  have X0 : Stand p l e ({ frames := 0, cells := 0, slots := 0, locals := 0 } : Room) s m #[(.ref r0), (.ref r1)] below meth c s₁ [] 0 0 := Stand.of_body Bd
  have e0 : s₁.heap = h0 := by rw [← hh, Bd.state]; rfl
  have N0 := Fr.nil n0
  have K0 : Keep h0 h0 [] := Keep.refl _ _
  show Goes p e below s (Qp (.int (f3 r0 r1 w_r0_admitted w_r0_permitsLeft w_r0_retryAfterMillis w_r0_resetMillis w_r0_proceedAfterMillis w_r1_admitted w_r1_permitsLeft w_r1_retryAfterMillis w_r1_resetMillis w_r1_proceedAfterMillis)) h0 n0) ({ frames := 0, cells := 0, slots := 0, locals := 0 } : Room).cells ({ frames := 0, cells := 0, slots := 0, locals := 0 } : Room).slots (s₁.setTop (entryFrame m #[(.ref r0), (.ref r1)] 3))
  rw [ef_rm3]
  have J75 : ∀ {TJ : State} {lj : List Loc} (XJ : Stand p l e ({ frames := 0, cells := 0, slots := 0, locals := 0 } : Room) s m #[(.ref r0), (.ref r1)] below meth c TJ lj 0 0) (eJ : TJ.heap = h0) (NJ : Fr n0 lj), Goes p e below s (Qp (.int (f3_75 r0 r1 w_r0_admitted w_r0_permitsLeft w_r0_retryAfterMillis w_r0_resetMillis w_r0_proceedAfterMillis w_r1_admitted w_r1_permitsLeft w_r1_retryAfterMillis w_r1_resetMillis w_r1_proceedAfterMillis)) h0 n0) ({ frames := 0, cells := 0, slots := 0, locals := 0 } : Room).cells ({ frames := 0, cells := 0, slots := 0, locals := 0 } : Room).slots (TJ.setTop (mkF m 75 #[.val (.ref r0), .val (.ref r1), .val (.ref r1)] [])) := by
    intro TJ lj XJ eJ NJ
    show Goes p e below s _ _ _ (TJ.setTop (mkF m 75 #[.val (.ref r0), .val (.ref r1), .val (.ref r1)] []))
    refine Goes.go (fun _ k => XS.iconst XJ.here hx rfl (hb hby d3_75) k) ?_
    show Goes p e below s _ _ _ (TJ.setTop (mkF m 76 #[.val (.ref r0), .val (.ref r1), .val (.ref r1)] [(.int (0 : Int32))]))
    refine Goes.retN .boolean XJ hx hlk Bd.returns (by simp) (hb hby d3_76) ?_ (by decide) (by decide)
    exact ⟨by rfl, NJ, eJ⟩
  show Goes p e below s _ _ _ (s₁.setTop (mkF m 0 #[.val (.ref r0), .val (.ref r1), .unset] []))
  refine Goes.go (fun _ k => XS.aloadN X0.here hx rfl (hb hby d3_0) rfl rfl  k) ?_
  show Goes p e below s _ _ _ (s₁.setTop (mkF m 1 #[.val (.ref r0), .val (.ref r1), .unset] [(.ref r1)]))
  obtain ⟨T1, X1, e1, st1⟩ := instY X0 hx hZ hown (hw _ (List.mem_of_getElem? (i := 24) rfl)) e0 (Ins.self E_r1) (g := (mkF m 1 #[.val (.ref r0), .val (.ref r1), .unset] [(.ref r1)])) rfl rfl (hb hby d3_1)
  refine Goes.go st1 ?_
  show Goes p e below s _ _ _ (T1.setTop (mkF m 4 #[.val (.ref r0), .val (.ref r1), .unset] [(.int (1 : Int32))]))
  have hc4_2 : ¬ ((1 : Int32) = (0 : Int32)) := (by decide)
  refine Goes.go (fun _ k => XS.ifNo X1.here hx rfl (hb hby d3_4) rfl ((if0 _ _).trans (feq hc4_2).1) k) ?_
  show Goes p e below s _ _ _ (T1.setTop (mkF m 7 #[.val (.ref r0), .val (.ref r1), .unset] []))
  refine Goes.go (fun _ k => XS.aloadN X1.here hx rfl (hb hby d3_7) rfl rfl  k) ?_
  show Goes p e below s _ _ _ (T1.setTop (mkF m 8 #[.val (.ref r0), .val (.ref r1), .unset] [(.ref r1)]))
  obtain ⟨T3, X3, e3, st3⟩ := castY X1 hx hZ hown (hw _ (List.mem_of_getElem? (i := 24) rfl)) e1 (Ins.self E_r1) (g := (mkF m 8 #[.val (.ref r0), .val (.ref r1), .unset] [(.ref r1)])) rfl rfl (hb hby d3_8)
  refine Goes.go st3 ?_
  show Goes p e below s _ _ _ (T3.setTop (mkF m 11 #[.val (.ref r0), .val (.ref r1), .unset] [(.ref r1)]))
  refine Goes.go (fun _ k => XS.astoreN X3.here hx rfl (hb hby d3_11) rfl rfl (l' := #[.val (.ref r0), .val (.ref r1), .val (.ref r1)]) rfl k) ?_
  show Goes p e below s _ _ _ (T3.setTop (mkF m 12 #[.val (.ref r0), .val (.ref r1), .val (.ref r1)] []))
  refine Goes.go (fun _ k => XS.aloadN X3.here hx rfl (hb hby d3_12) rfl rfl  k) ?_
  show Goes p e below s _ _ _ (T3.setTop (mkF m 13 #[.val (.ref r0), .val (.ref r1), .val (.ref r1)] [(.ref r0)]))
  obtain ⟨T4, X4, e4, st4⟩ := getF X3 hx hZ hown (host := "") (Or.inl (hw _ (List.mem_of_getElem? (i := 9) rfl))) Via.refl e3 F_r0_admitted (g := (mkF m 13 #[.val (.ref r0), .val (.ref r1), .val (.ref r1)] [(.ref r0)])) rfl rfl (hb hby d3_13)
  refine Goes.go st4 ?_
  show Goes p e below s _ _ _ (T4.setTop (mkF m 16 #[.val (.ref r0), .val (.ref r1), .val (.ref r1)] [(.int w_r0_admitted)]))
  refine Goes.go (fun _ k => XS.aloadN X4.here hx rfl (hb hby d3_16) rfl rfl  k) ?_
  show Goes p e below s _ _ _ (T4.setTop (mkF m 17 #[.val (.ref r0), .val (.ref r1), .val (.ref r1)] [(.ref r1), (.int w_r0_admitted)]))
  obtain ⟨T5, X5, e5, st5⟩ := getF X4 hx hZ hown (host := "") (Or.inl (hw _ (List.mem_of_getElem? (i := 9) rfl))) Via.refl e4 F_r1_admitted (g := (mkF m 17 #[.val (.ref r0), .val (.ref r1), .val (.ref r1)] [(.ref r1), (.int w_r0_admitted)])) rfl rfl (hb hby d3_17)
  refine Goes.go st5 ?_
  show Goes p e below s _ _ _ (T5.setTop (mkF m 20 #[.val (.ref r0), .val (.ref r1), .val (.ref r1)] [(.int w_r1_admitted), (.int w_r0_admitted)]))
  by_cases hc20_6 : w_r0_admitted = w_r1_admitted
  · skip
    refine Goes.qi (if_pos hc20_6) ?_
    refine Goes.go (fun _ k => XS.icmpNo X5.here hx rfl (hb hby d3_20) rfl (teq hc20_6).2 k) ?_
    show Goes p e below s _ _ _ (T5.setTop (mkF m 23 #[.val (.ref r0), .val (.ref r1), .val (.ref r1)] []))
    refine Goes.go (fun _ k => XS.aloadN X5.here hx rfl (hb hby d3_23) rfl rfl  k) ?_
    show Goes p e below s _ _ _ (T5.setTop (mkF m 24 #[.val (.ref r0), .val (.ref r1), .val (.ref r1)] [(.ref r0)]))
    obtain ⟨T7, X7, e7, st7⟩ := getF X5 hx hZ hown (host := "") (Or.inl (hw _ (List.mem_of_getElem? (i := 11) rfl))) Via.refl e5 F_r0_permitsLeft (g := (mkF m 24 #[.val (.ref r0), .val (.ref r1), .val (.ref r1)] [(.ref r0)])) rfl rfl (hb hby d3_24)
    refine Goes.go st7 ?_
    show Goes p e below s _ _ _ (T7.setTop (mkF m 27 #[.val (.ref r0), .val (.ref r1), .val (.ref r1)] [(.long w_r0_permitsLeft)]))
    refine Goes.go (fun _ k => XS.aloadN X7.here hx rfl (hb hby d3_27) rfl rfl  k) ?_
    show Goes p e below s _ _ _ (T7.setTop (mkF m 28 #[.val (.ref r0), .val (.ref r1), .val (.ref r1)] [(.ref r1), (.long w_r0_permitsLeft)]))
    obtain ⟨T8, X8, e8, st8⟩ := getF X7 hx hZ hown (host := "") (Or.inl (hw _ (List.mem_of_getElem? (i := 11) rfl))) Via.refl e7 F_r1_permitsLeft (g := (mkF m 28 #[.val (.ref r0), .val (.ref r1), .val (.ref r1)] [(.ref r1), (.long w_r0_permitsLeft)])) rfl rfl (hb hby d3_28)
    refine Goes.go st8 ?_
    show Goes p e below s _ _ _ (T8.setTop (mkF m 31 #[.val (.ref r0), .val (.ref r1), .val (.ref r1)] [(.long w_r1_permitsLeft), (.long w_r0_permitsLeft)]))
    refine Goes.go (fun _ k => XS.lcmp X8.here hx rfl (hb hby d3_31) rfl k) ?_
    show Goes p e below s _ _ _ (T8.setTop (mkF m 32 #[.val (.ref r0), .val (.ref r1), .val (.ref r1)] [(.int (lcmpW w_r0_permitsLeft w_r1_permitsLeft))]))
    by_cases hc32_9 : w_r0_permitsLeft = w_r1_permitsLeft
    · skip
      refine Goes.qi (if_pos hc32_9) ?_
      refine Goes.go (fun _ k => XS.ifNo X8.here hx rfl (hb hby d3_32) rfl ((if0 _ _).trans (teq ((lw_eq w_r0_permitsLeft w_r1_permitsLeft).mpr hc32_9)).2) k) ?_
      show Goes p e below s _ _ _ (T8.setTop (mkF m 35 #[.val (.ref r0), .val (.ref r1), .val (.ref r1)] []))
      refine Goes.go (fun _ k => XS.aloadN X8.here hx rfl (hb hby d3_35) rfl rfl  k) ?_
      show Goes p e below s _ _ _ (T8.setTop (mkF m 36 #[.val (.ref r0), .val (.ref r1), .val (.ref r1)] [(.ref r0)]))
      obtain ⟨T10, X10, e10, st10⟩ := getF X8 hx hZ hown (host := "") (Or.inl (hw _ (List.mem_of_getElem? (i := 13) rfl))) Via.refl e8 F_r0_retryAfterMillis (g := (mkF m 36 #[.val (.ref r0), .val (.ref r1), .val (.ref r1)] [(.ref r0)])) rfl rfl (hb hby d3_36)
      refine Goes.go st10 ?_
      show Goes p e below s _ _ _ (T10.setTop (mkF m 39 #[.val (.ref r0), .val (.ref r1), .val (.ref r1)] [(.long w_r0_retryAfterMillis)]))
      refine Goes.go (fun _ k => XS.aloadN X10.here hx rfl (hb hby d3_39) rfl rfl  k) ?_
      show Goes p e below s _ _ _ (T10.setTop (mkF m 40 #[.val (.ref r0), .val (.ref r1), .val (.ref r1)] [(.ref r1), (.long w_r0_retryAfterMillis)]))
      obtain ⟨T11, X11, e11, st11⟩ := getF X10 hx hZ hown (host := "") (Or.inl (hw _ (List.mem_of_getElem? (i := 13) rfl))) Via.refl e10 F_r1_retryAfterMillis (g := (mkF m 40 #[.val (.ref r0), .val (.ref r1), .val (.ref r1)] [(.ref r1), (.long w_r0_retryAfterMillis)])) rfl rfl (hb hby d3_40)
      refine Goes.go st11 ?_
      show Goes p e below s _ _ _ (T11.setTop (mkF m 43 #[.val (.ref r0), .val (.ref r1), .val (.ref r1)] [(.long w_r1_retryAfterMillis), (.long w_r0_retryAfterMillis)]))
      refine Goes.go (fun _ k => XS.lcmp X11.here hx rfl (hb hby d3_43) rfl k) ?_
      show Goes p e below s _ _ _ (T11.setTop (mkF m 44 #[.val (.ref r0), .val (.ref r1), .val (.ref r1)] [(.int (lcmpW w_r0_retryAfterMillis w_r1_retryAfterMillis))]))
      by_cases hc44_12 : w_r0_retryAfterMillis = w_r1_retryAfterMillis
      · skip
        refine Goes.qi (if_pos hc44_12) ?_
        refine Goes.go (fun _ k => XS.ifNo X11.here hx rfl (hb hby d3_44) rfl ((if0 _ _).trans (teq ((lw_eq w_r0_retryAfterMillis w_r1_retryAfterMillis).mpr hc44_12)).2) k) ?_
        show Goes p e below s _ _ _ (T11.setTop (mkF m 47 #[.val (.ref r0), .val (.ref r1), .val (.ref r1)] []))
        refine Goes.go (fun _ k => XS.aloadN X11.here hx rfl (hb hby d3_47) rfl rfl  k) ?_
        show Goes p e below s _ _ _ (T11.setTop (mkF m 48 #[.val (.ref r0), .val (.ref r1), .val (.ref r1)] [(.ref r0)]))
        obtain ⟨T13, X13, e13, st13⟩ := getF X11 hx hZ hown (host := "") (Or.inl (hw _ (List.mem_of_getElem? (i := 15) rfl))) Via.refl e11 F_r0_resetMillis (g := (mkF m 48 #[.val (.ref r0), .val (.ref r1), .val (.ref r1)] [(.ref r0)])) rfl rfl (hb hby d3_48)
        refine Goes.go st13 ?_
        show Goes p e below s _ _ _ (T13.setTop (mkF m 51 #[.val (.ref r0), .val (.ref r1), .val (.ref r1)] [(.long w_r0_resetMillis)]))
        refine Goes.go (fun _ k => XS.aloadN X13.here hx rfl (hb hby d3_51) rfl rfl  k) ?_
        show Goes p e below s _ _ _ (T13.setTop (mkF m 52 #[.val (.ref r0), .val (.ref r1), .val (.ref r1)] [(.ref r1), (.long w_r0_resetMillis)]))
        obtain ⟨T14, X14, e14, st14⟩ := getF X13 hx hZ hown (host := "") (Or.inl (hw _ (List.mem_of_getElem? (i := 15) rfl))) Via.refl e13 F_r1_resetMillis (g := (mkF m 52 #[.val (.ref r0), .val (.ref r1), .val (.ref r1)] [(.ref r1), (.long w_r0_resetMillis)])) rfl rfl (hb hby d3_52)
        refine Goes.go st14 ?_
        show Goes p e below s _ _ _ (T14.setTop (mkF m 55 #[.val (.ref r0), .val (.ref r1), .val (.ref r1)] [(.long w_r1_resetMillis), (.long w_r0_resetMillis)]))
        refine Goes.go (fun _ k => XS.lcmp X14.here hx rfl (hb hby d3_55) rfl k) ?_
        show Goes p e below s _ _ _ (T14.setTop (mkF m 56 #[.val (.ref r0), .val (.ref r1), .val (.ref r1)] [(.int (lcmpW w_r0_resetMillis w_r1_resetMillis))]))
        by_cases hc56_15 : w_r0_resetMillis = w_r1_resetMillis
        · skip
          refine Goes.qi (if_pos hc56_15) ?_
          refine Goes.go (fun _ k => XS.ifNo X14.here hx rfl (hb hby d3_56) rfl ((if0 _ _).trans (teq ((lw_eq w_r0_resetMillis w_r1_resetMillis).mpr hc56_15)).2) k) ?_
          show Goes p e below s _ _ _ (T14.setTop (mkF m 59 #[.val (.ref r0), .val (.ref r1), .val (.ref r1)] []))
          refine Goes.go (fun _ k => XS.aloadN X14.here hx rfl (hb hby d3_59) rfl rfl  k) ?_
          show Goes p e below s _ _ _ (T14.setTop (mkF m 60 #[.val (.ref r0), .val (.ref r1), .val (.ref r1)] [(.ref r0)]))
          obtain ⟨T16, X16, e16, st16⟩ := getF X14 hx hZ hown (host := "") (Or.inl (hw _ (List.mem_of_getElem? (i := 17) rfl))) Via.refl e14 F_r0_proceedAfterMillis (g := (mkF m 60 #[.val (.ref r0), .val (.ref r1), .val (.ref r1)] [(.ref r0)])) rfl rfl (hb hby d3_60)
          refine Goes.go st16 ?_
          show Goes p e below s _ _ _ (T16.setTop (mkF m 63 #[.val (.ref r0), .val (.ref r1), .val (.ref r1)] [(.long w_r0_proceedAfterMillis)]))
          refine Goes.go (fun _ k => XS.aloadN X16.here hx rfl (hb hby d3_63) rfl rfl  k) ?_
          show Goes p e below s _ _ _ (T16.setTop (mkF m 64 #[.val (.ref r0), .val (.ref r1), .val (.ref r1)] [(.ref r1), (.long w_r0_proceedAfterMillis)]))
          obtain ⟨T17, X17, e17, st17⟩ := getF X16 hx hZ hown (host := "") (Or.inl (hw _ (List.mem_of_getElem? (i := 17) rfl))) Via.refl e16 F_r1_proceedAfterMillis (g := (mkF m 64 #[.val (.ref r0), .val (.ref r1), .val (.ref r1)] [(.ref r1), (.long w_r0_proceedAfterMillis)])) rfl rfl (hb hby d3_64)
          refine Goes.go st17 ?_
          show Goes p e below s _ _ _ (T17.setTop (mkF m 67 #[.val (.ref r0), .val (.ref r1), .val (.ref r1)] [(.long w_r1_proceedAfterMillis), (.long w_r0_proceedAfterMillis)]))
          refine Goes.go (fun _ k => XS.lcmp X17.here hx rfl (hb hby d3_67) rfl k) ?_
          show Goes p e below s _ _ _ (T17.setTop (mkF m 68 #[.val (.ref r0), .val (.ref r1), .val (.ref r1)] [(.int (lcmpW w_r0_proceedAfterMillis w_r1_proceedAfterMillis))]))
          obtain ⟨z18_s0, hz18_s0⟩ : ∃ z : Int32, z = if w_r0_proceedAfterMillis = w_r1_proceedAfterMillis then (1 : Int32) else (0 : Int32) := ⟨_, rfl⟩
          have sm18 : ∀ t, Steps p.tables e below (T17.setTop (mkF m 76 #[.val (.ref r0), .val (.ref r1), .val (.ref r1)] [(.int z18_s0)])) t → Steps p.tables e below (T17.setTop (mkF m 68 #[.val (.ref r0), .val (.ref r1), .val (.ref r1)] [(.int (lcmpW w_r0_proceedAfterMillis w_r1_proceedAfterMillis))])) t := by
            intro t k
            by_cases hc68_18 : w_r0_proceedAfterMillis = w_r1_proceedAfterMillis
            · have k2 : Steps p.tables e below (T17.setTop (mkF m 76 #[.val (.ref r0), .val (.ref r1), .val (.ref r1)] [(.int (1 : Int32))])) t := by simpa only [hz18_s0, if_pos hc68_18] using k
              show Steps p.tables e below (T17.setTop (mkF m 68 #[.val (.ref r0), .val (.ref r1), .val (.ref r1)] [(.int (lcmpW w_r0_proceedAfterMillis w_r1_proceedAfterMillis))])) _
              refine XS.ifNo X17.here hx rfl (hb hby d3_68) rfl ((if0 _ _).trans (teq ((lw_eq w_r0_proceedAfterMillis w_r1_proceedAfterMillis).mpr hc68_18)).2) ?_
              show Steps p.tables e below (T17.setTop (mkF m 71 #[.val (.ref r0), .val (.ref r1), .val (.ref r1)] [])) _
              refine XS.iconst X17.here hx rfl (hb hby d3_71) ?_
              show Steps p.tables e below (T17.setTop (mkF m 72 #[.val (.ref r0), .val (.ref r1), .val (.ref r1)] [(.int (1 : Int32))])) _
              refine XS.goto X17.here hx rfl (pc0 := 72) (pc' := 76) rfl (hb hby d3_72) (by decide) (by decide) ?_
              exact k2
            · have k2 : Steps p.tables e below (T17.setTop (mkF m 76 #[.val (.ref r0), .val (.ref r1), .val (.ref r1)] [(.int (0 : Int32))])) t := by simpa only [hz18_s0, if_neg hc68_18] using k
              show Steps p.tables e below (T17.setTop (mkF m 68 #[.val (.ref r0), .val (.ref r1), .val (.ref r1)] [(.int (lcmpW w_r0_proceedAfterMillis w_r1_proceedAfterMillis))])) _
              refine XS.ifYes X17.here hx rfl (pc0 := 68) (pc' := 75) rfl (hb hby d3_68) rfl ((if0 _ _).trans (feq (mt (lw_eq w_r0_proceedAfterMillis w_r1_proceedAfterMillis).mp hc68_18)).2) (by decide) (by decide) ?_
              show Steps p.tables e below (T17.setTop (mkF m 75 #[.val (.ref r0), .val (.ref r1), .val (.ref r1)] [])) _
              refine XS.iconst X17.here hx rfl (hb hby d3_75) ?_
              exact k2
          refine Goes.go sm18 ?_
          show Goes p e below s _ _ _ (T17.setTop (mkF m 76 #[.val (.ref r0), .val (.ref r1), .val (.ref r1)] [(.int z18_s0)]))
          refine Goes.retN .boolean X17 hx hlk Bd.returns (by simp) (hb hby d3_76) ?_ (by decide) (by decide)
          exact ⟨by subst hz18_s0; rfl, N0, e17⟩
        · skip
          refine Goes.qi (if_neg hc56_15) ?_
          refine Goes.go (fun _ k => XS.ifYes X14.here hx rfl (pc0 := 56) (pc' := 75) rfl (hb hby d3_56) rfl ((if0 _ _).trans (feq (mt (lw_eq w_r0_resetMillis w_r1_resetMillis).mp hc56_15)).2) (by decide) (by decide) k) ?_
          exact J75 X14 e14 N0
      · skip
        refine Goes.qi (if_neg hc44_12) ?_
        refine Goes.go (fun _ k => XS.ifYes X11.here hx rfl (pc0 := 44) (pc' := 75) rfl (hb hby d3_44) rfl ((if0 _ _).trans (feq (mt (lw_eq w_r0_retryAfterMillis w_r1_retryAfterMillis).mp hc44_12)).2) (by decide) (by decide) k) ?_
        exact J75 X11 e11 N0
    · skip
      refine Goes.qi (if_neg hc32_9) ?_
      refine Goes.go (fun _ k => XS.ifYes X8.here hx rfl (pc0 := 32) (pc' := 75) rfl (hb hby d3_32) rfl ((if0 _ _).trans (feq (mt (lw_eq w_r0_permitsLeft w_r1_permitsLeft).mp hc32_9)).2) (by decide) (by decide) k) ?_
      exact J75 X8 e8 N0
  · skip
    refine Goes.qi (if_neg hc20_6) ?_
    refine Goes.go (fun _ k => XS.icmpYes X5.here hx rfl (pc0 := 20) (pc' := 75) rfl (hb hby d3_20) rfl (feq hc20_6).2 (by decide) (by decide) k) ?_
    exact J75 X5 e5 N0
theorem ef_rm3n (m : MethodId) (x0 : Addr) : entryFrame m #[(.ref x0), .null] 3 = mkF m 0 #[.val (.ref x0), .val .null, .unset] [] := by first | (simp [entryFrame, mkF, argsToLocals, Value.category]; done) | rfl
def f3n (r0 : Addr) : Int32 := (0 : Int32)
set_option maxRecDepth 65536 in
set_option maxHeartbeats 40000000 in
theorem rm3n (l : Launch) (Z : State) (a0 : Array Value) (hw : ∀ d ∈ tables_1, d.before a0 Z = true) (ws : List Jvm.Cond) (r0 : Addr) (h0 : Heap) (n0 : Nat) (Z0 : n0 ≤ h0.size) :
    MetFree l (⟨"com/example/danaid/danaid/Decision", "equals", "(Ljava/lang/Object;)Z"⟩ : MethodName) (head1 (Jvm.Cond.code (⟨"com/example/danaid/danaid/Decision", "equals", "(Ljava/lang/Object;)Z"⟩ : MethodName) prog_3_method_8_code 3 (some .boolean) :: ws) ({ frames := 0, cells := 0, slots := 0, locals := 0 } : Room)) (fun a U => a = #[(.ref r0), .null] ∧ Z.Warmed39 U.vm ∧ U.heap = h0) (fun _ _ _ _ _ => True) (fun _ U o U' => ∃ v L, o = .returned v ∧ Qp (.int (f3n r0)) h0 n0 v U'.heap L ∧ FrameEnd U o U' L ({ frames := 0, cells := 0, slots := 0, locals := 0 } : Room).cells ({ frames := 0, cells := 0, slots := 0, locals := 0 } : Room).slots) := by
  refine MetFree.of_bodySF (plainFor_of_name pn_3) hisR ?_
  intro p e s m args below meth c s₁ Bd hml0 hP hK
  obtain ⟨rfl, hZ, hh⟩ := hP
  have hx := Bd.exec
  have hby := Bd.bytes
  have hml : c.maxLocals = 3 := hml0
  have hown : s.vm.findClass "com/example/danaid/danaid/Decision" = some m.cls := findClass_of_methodNamed Bd.named
  have hnm := (name_of_methodNamed Bd.named Bd.method).1
  have hlk : meth.locks = false := BodyLoose.notSynchronized Bd
  have X0 : Stand p l e ({ frames := 0, cells := 0, slots := 0, locals := 0 } : Room) s m #[(.ref r0), .null] below meth c s₁ [] 0 0 := Stand.of_body Bd
  have e0 : s₁.heap = h0 := by rw [← hh, Bd.state]; rfl
  have N0 := Fr.nil n0
  have K0 : Keep h0 h0 [] := Keep.refl _ _
  show Goes p e below s (Qp (.int (f3n r0)) h0 n0) ({ frames := 0, cells := 0, slots := 0, locals := 0 } : Room).cells ({ frames := 0, cells := 0, slots := 0, locals := 0 } : Room).slots (s₁.setTop (entryFrame m #[(.ref r0), .null] 3))
  rw [ef_rm3n]
  show Goes p e below s _ _ _ (s₁.setTop (mkF m 0 #[.val (.ref r0), .val .null, .unset] []))
  refine Goes.go (fun _ k => XS.aloadN X0.here hx rfl (hb hby d3_0) rfl rfl  k) ?_
  show Goes p e below s _ _ _ (s₁.setTop (mkF m 1 #[.val (.ref r0), .val .null, .unset] [.null]))
  refine Goes.go (X0.instanceofNull hx (g := (mkF m 1 #[.val (.ref r0), .val .null, .unset] [.null])) rfl rfl (hb hby d3_1)) ?_
  show Goes p e below s _ _ _ (s₁.setTop (mkF m 4 #[.val (.ref r0), .val .null, .unset] [(.int (0 : Int32))]))
  have hc4_1 : (0 : Int32) = (0 : Int32) := (by decide)
  refine Goes.go (fun _ k => XS.ifYes X0.here hx rfl (pc0 := 4) (pc' := 75) rfl (hb hby d3_4) rfl ((if0 _ _).trans (teq hc4_1).1) (by decide) (by decide) k) ?_
  show Goes p e below s _ _ _ (s₁.setTop (mkF m 75 #[.val (.ref r0), .val .null, .unset] []))
  refine Goes.go (fun _ k => XS.iconst X0.here hx rfl (hb hby d3_75) k) ?_
  show Goes p e below s _ _ _ (s₁.setTop (mkF m 76 #[.val (.ref r0), .val .null, .unset] [(.int (0 : Int32))]))
  refine Goes.retN .boolean X0 hx hlk Bd.returns (by simp) (hb hby d3_76) ?_ (by decide) (by decide)
  exact ⟨by rfl, N0, e0⟩
theorem ef_rm3o (m : MethodId) (x0 : Addr) (x1 : Addr) : entryFrame m #[(.ref x0), (.ref x1)] 3 = mkF m 0 #[.val (.ref x0), .val (.ref x1), .unset] [] := by first | (simp [entryFrame, mkF, argsToLocals, Value.category]; done) | rfl
def f3o (r0 : Addr) (r1 : Addr) : Int32 := (0 : Int32)
set_option maxRecDepth 65536 in
set_option maxHeartbeats 40000000 in
theorem rm3o (l : Launch) (Z : State) (a0 : Array Value) (hw : ∀ d ∈ tables_1, d.before a0 Z = true) (ws : List Jvm.Cond) (r0 : Addr) (r1 : Addr) (h0 : Heap) (n0 : Nat) (Z0 : n0 ≤ h0.size) (E_r1 : Exa Z h0 r1 "java/lang/Long") :
    MetFree l (⟨"com/example/danaid/danaid/Decision", "equals", "(Ljava/lang/Object;)Z"⟩ : MethodName) (head1 (Jvm.Cond.code (⟨"com/example/danaid/danaid/Decision", "equals", "(Ljava/lang/Object;)Z"⟩ : MethodName) prog_3_method_8_code 3 (some .boolean) :: ws) ({ frames := 0, cells := 0, slots := 0, locals := 0 } : Room)) (fun a U => a = #[(.ref r0), (.ref r1)] ∧ Z.Warmed39 U.vm ∧ U.heap = h0) (fun _ _ _ _ _ => True) (fun _ U o U' => ∃ v L, o = .returned v ∧ Qp (.int (f3o r0 r1)) h0 n0 v U'.heap L ∧ FrameEnd U o U' L ({ frames := 0, cells := 0, slots := 0, locals := 0 } : Room).cells ({ frames := 0, cells := 0, slots := 0, locals := 0 } : Room).slots) := by
  refine MetFree.of_bodySF (plainFor_of_name pn_3) hisR ?_
  intro p e s m args below meth c s₁ Bd hml0 hP hK
  obtain ⟨rfl, hZ, hh⟩ := hP
  have hx := Bd.exec
  have hby := Bd.bytes
  have hml : c.maxLocals = 3 := hml0
  have hown : s.vm.findClass "com/example/danaid/danaid/Decision" = some m.cls := findClass_of_methodNamed Bd.named
  have hnm := (name_of_methodNamed Bd.named Bd.method).1
  have hlk : meth.locks = false := BodyLoose.notSynchronized Bd
  have X0 : Stand p l e ({ frames := 0, cells := 0, slots := 0, locals := 0 } : Room) s m #[(.ref r0), (.ref r1)] below meth c s₁ [] 0 0 := Stand.of_body Bd
  have e0 : s₁.heap = h0 := by rw [← hh, Bd.state]; rfl
  have N0 := Fr.nil n0
  have K0 : Keep h0 h0 [] := Keep.refl _ _
  show Goes p e below s (Qp (.int (f3o r0 r1)) h0 n0) ({ frames := 0, cells := 0, slots := 0, locals := 0 } : Room).cells ({ frames := 0, cells := 0, slots := 0, locals := 0 } : Room).slots (s₁.setTop (entryFrame m #[(.ref r0), (.ref r1)] 3))
  rw [ef_rm3o]
  show Goes p e below s _ _ _ (s₁.setTop (mkF m 0 #[.val (.ref r0), .val (.ref r1), .unset] []))
  refine Goes.go (fun _ k => XS.aloadN X0.here hx rfl (hb hby d3_0) rfl rfl  k) ?_
  show Goes p e below s _ _ _ (s₁.setTop (mkF m 1 #[.val (.ref r0), .val (.ref r1), .unset] [(.ref r1)]))
  obtain ⟨T1, X1, e1, st1⟩ := instNo X0 hx hZ hown (hw _ (List.mem_of_getElem? (i := 24) rfl)) e0 E_r1 (own_nsno (hw _ (List.mem_of_getElem? (i := 34) rfl)) (hw _ (List.mem_of_getElem? (i := 1) rfl)) (NS.step (hw _ (List.mem_of_getElem? (i := 34) rfl)) (NS.step (hw _ (List.mem_of_getElem? (i := 35) rfl)) (own_nsroot (hw _ (List.mem_of_getElem? (i := 36) rfl)) (hw _ (List.mem_of_getElem? (i := 1) rfl)) (by decide)) (by decide)) (by decide)) (by decide)) (g := (mkF m 1 #[.val (.ref r0), .val (.ref r1), .unset] [(.ref r1)])) rfl rfl (hb hby d3_1)
  refine Goes.go st1 ?_
  show Goes p e below s _ _ _ (T1.setTop (mkF m 4 #[.val (.ref r0), .val (.ref r1), .unset] [(.int (0 : Int32))]))
  have hc4_2 : (0 : Int32) = (0 : Int32) := (by decide)
  refine Goes.go (fun _ k => XS.ifYes X1.here hx rfl (pc0 := 4) (pc' := 75) rfl (hb hby d3_4) rfl ((if0 _ _).trans (teq hc4_2).1) (by decide) (by decide) k) ?_
  show Goes p e below s _ _ _ (T1.setTop (mkF m 75 #[.val (.ref r0), .val (.ref r1), .unset] []))
  refine Goes.go (fun _ k => XS.iconst X1.here hx rfl (hb hby d3_75) k) ?_
  show Goes p e below s _ _ _ (T1.setTop (mkF m 76 #[.val (.ref r0), .val (.ref r1), .unset] [(.int (0 : Int32))]))
  refine Goes.retN .boolean X1 hx hlk Bd.returns (by simp) (hb hby d3_76) ?_ (by decide) (by decide)
  exact ⟨by rfl, N0, e1⟩
theorem d6_0 : decode jdk_18_method_1_code 0 = .ok (.aload_n 0, 1) := by decide +kernel
theorem d6_1 : decode jdk_18_method_1_code 1 = .ok (.invokespecial 1, 3) := by decide +kernel
theorem d6_4 : decode jdk_18_method_1_code 4 = .ok (.return_, 1) := by decide +kernel
theorem pn_6 : plainName "java/lang/Number" = true := by first | (simp [plainName, overriddenIn]; done) | decide +kernel
theorem ef_rm6 (m : MethodId) (x0 : Addr) : entryFrame m #[(.ref x0)] 1 = mkF m 0 #[.val (.ref x0)] [] := by first | (simp [entryFrame, mkF, argsToLocals, Value.category]; done) | rfl
set_option maxRecDepth 65536 in
set_option maxHeartbeats 40000000 in
theorem rm6 (l : Launch) (Z : State) (a0 : Array Value) (hw : ∀ d ∈ tables_1, d.before a0 Z = true) (ws : List Jvm.Cond) (r0 : Addr) (h0 : Heap) (n0 : Nat) (Z0 : n0 ≤ h0.size) :
    MetFree l (⟨"java/lang/Number", "<init>", "()V"⟩ : MethodName) (head1 (Jvm.Cond.code (⟨"java/lang/Number", "<init>", "()V"⟩ : MethodName) jdk_18_method_1_code 1 none :: ws) ({ frames := 1, cells := 0, slots := 0, locals := 12 } : Room)) (fun a U => a = #[(.ref r0)] ∧ Z.Warmed39 U.vm ∧ U.heap = h0) (fun _ _ _ _ _ => True) (fun _ U o U' => ∃ v L, o = .returned v ∧ Qn h0 n0 v U'.heap L ∧ FrameEnd U o U' L ({ frames := 1, cells := 0, slots := 0, locals := 12 } : Room).cells ({ frames := 1, cells := 0, slots := 0, locals := 12 } : Room).slots) := by
  refine MetFree.of_bodySF (plainFor_of_name pn_6) hisR ?_
  intro p e s m args below meth c s₁ Bd hml0 hP hK
  obtain ⟨rfl, hZ, hh⟩ := hP
  have hx := Bd.exec
  have hby := Bd.bytes
  have hml : c.maxLocals = 1 := hml0
  have hown : s.vm.findClass "java/lang/Number" = some m.cls := findClass_of_methodNamed Bd.named
  have hnm := (name_of_methodNamed Bd.named Bd.method).1
  have hlk : meth.locks = false := BodyLoose.notSynchronized Bd
  have X0 : Stand p l e ({ frames := 1, cells := 0, slots := 0, locals := 12 } : Room) s m #[(.ref r0)] below meth c s₁ [] 0 0 := Stand.of_body Bd
  have e0 : s₁.heap = h0 := by rw [← hh, Bd.state]; rfl
  have N0 := Fr.nil n0
  have K0 : Keep h0 h0 [] := Keep.refl _ _
  show Goes p e below s (Qn h0 n0) ({ frames := 1, cells := 0, slots := 0, locals := 12 } : Room).cells ({ frames := 1, cells := 0, slots := 0, locals := 12 } : Room).slots (s₁.setTop (entryFrame m #[(.ref r0)] 1))
  rw [ef_rm6]
  show Goes p e below s _ _ _ (s₁.setTop (mkF m 0 #[.val (.ref r0)] []))
  refine Goes.go (fun _ k => XS.aloadN X0.here hx rfl (hb hby d6_0) rfl rfl  k) ?_
  show Goes p e below s _ _ _ (s₁.setTop (mkF m 1 #[.val (.ref r0)] [(.ref r0)]))
  obtain ⟨T1, X1, e1, st1⟩ := initO X0 hx hZ hown (hw _ (List.mem_of_getElem? (i := 49) rfl)) (hw _ (List.mem_of_getElem? (i := 7) rfl)) (hw _ (List.mem_of_getElem? (i := 8) rfl)) e0 (g := (mkF m 1 #[.val (.ref r0)] [(.ref r0)])) rfl (by rw [hml]; rfl) rfl (hb hby d6_1) (by decide) (W := 0) (by show 2 * 0 + _ ≤ _; exact Nat.le_of_eq rfl) (by decide)
  refine Goes.go st1 ?_
  show Goes p e below s _ _ _ (T1.setTop (mkF m 4 #[.val (.ref r0)] []))
  refine Goes.ret0 X1 hx hlk Bd.returns (hb hby d6_4) ?_ (by decide) (by decide)
  exact ⟨rfl, N0, e1⟩
theorem d5_0 : decode jdk_35_method_26_code 0 = .ok (.aload_n 0, 1) := by decide +kernel
theorem d5_1 : decode jdk_35_method_26_code 1 = .ok (.invokespecial 270, 3) := by decide +kernel
theorem d5_4 : decode jdk_35_method_26_code 4 = .ok (.aload_n 0, 1) := by decide +kernel
theorem d5_5 : decode jdk_35_method_26_code 5 = .ok (.lload_n 1, 1) := by decide +kernel
theorem d5_6 : decode jdk_35_method_26_code 6 = .ok (.putfield 273, 3) := by decide +kernel
theorem d5_9 : decode jdk_35_method_26_code 9 = .ok (.return_, 1) := by decide +kernel
theorem pn_5 : plainName "java/lang/Long" = true := by first | (simp [plainName, overriddenIn]; done) | decide +kernel
theorem ef_rm5 (m : MethodId) (x0 : Addr) (x1 : Int64) : entryFrame m #[(.ref x0), (.long x1)] 3 = mkF m 0 #[.val (.ref x0), .val (.long x1), .second] [] := by first | (simp [entryFrame, mkF, argsToLocals, Value.category]; done) | rfl
def Q_rm5 (Z : State) (r0 : Addr) (q1 : Int64) (h0 : Heap) (n0 : Nat) (v : Option Value) (h : Heap) (L : List Loc) : Prop := v = none ∧ Fr n0 L ∧ Keep h0 h [r0] ∧ Exa Z h r0 "java/lang/Long" ∧ Fld Z h r0 "java/lang/Long" "value" "J" (.long q1)
set_option maxRecDepth 65536 in
set_option maxHeartbeats 40000000 in
theorem rm5 (l : Launch) (Z : State) (a0 : Array Value) (hw : ∀ d ∈ tables_1, d.before a0 Z = true) (ws : List Jvm.Cond) (r0 : Addr) (q1 : Int64) (h0 : Heap) (n0 : Nat) (Z0 : n0 ≤ h0.size) (E_r0 : Exa Z h0 r0 "java/lang/Long") (g_r0 : n0 ≤ r0) (F_r0_value : Fld Z h0 r0 "java/lang/Long" "value" "J" (.long (0 : Int64))) :
    MetFree l (⟨"java/lang/Long", "<init>", "(J)V"⟩ : MethodName) (head1 (Jvm.Cond.code (⟨"java/lang/Long", "<init>", "(J)V"⟩ : MethodName) jdk_35_method_26_code 3 none :: ws) ({ frames := 2, cells := 0, slots := 0, locals := 24 } : Room)) (fun a U => a = #[(.ref r0), (.long q1)] ∧ Z.Warmed39 U.vm ∧ U.heap = h0) (fun _ _ _ _ _ => True) (fun _ U o U' => ∃ v L, o = .returned v ∧ Q_rm5 Z r0 q1 h0 n0 v U'.heap L ∧ FrameEnd U o U' L ({ frames := 2, cells := 0, slots := 0, locals := 24 } : Room).cells ({ frames := 2, cells := 0, slots := 0, locals := 24 } : Room).slots) := by
  refine MetFree.of_bodySF (plainFor_of_name pn_5) hisR ?_
  intro p e s m args below meth c s₁ Bd hml0 hP hK
  obtain ⟨rfl, hZ, hh⟩ := hP
  have hx := Bd.exec
  have hby := Bd.bytes
  have hml : c.maxLocals = 3 := hml0
  have hown : s.vm.findClass "java/lang/Long" = some m.cls := findClass_of_methodNamed Bd.named
  have hnm := (name_of_methodNamed Bd.named Bd.method).1
  have hlk : meth.locks = false := BodyLoose.notSynchronized Bd
  have X0 : Stand p l e ({ frames := 2, cells := 0, slots := 0, locals := 24 } : Room) s m #[(.ref r0), (.long q1)] below meth c s₁ [] 0 0 := Stand.of_body Bd
  have e0 : s₁.heap = h0 := by rw [← hh, Bd.state]; rfl
  have N0 := Fr.nil n0
  have K0 : Keep h0 h0 [r0] := Keep.refl _ _
  show Goes p e below s (Q_rm5 Z r0 q1 h0 n0) ({ frames := 2, cells := 0, slots := 0, locals := 24 } : Room).cells ({ frames := 2, cells := 0, slots := 0, locals := 24 } : Room).slots (s₁.setTop (entryFrame m #[(.ref r0), (.long q1)] 3))
  rw [ef_rm5]
  show Goes p e below s _ _ _ (s₁.setTop (mkF m 0 #[.val (.ref r0), .val (.long q1), .second] []))
  refine Goes.go (fun _ k => XS.aloadN X0.here hx rfl (hb hby d5_0) rfl rfl  k) ?_
  show Goes p e below s _ _ _ (s₁.setTop (mkF m 1 #[.val (.ref r0), .val (.long q1), .second] [(.ref r0)]))
  obtain ⟨_, _, ⟨T1, L1, k1, n1⟩, -, X1, ⟨Lc1, hQ1, l1, y1, z1⟩, st1⟩ := X0.specialBack hx (y := (⟨"java/lang/Number", "<init>", "()V"⟩ : MethodName)) rfl hown (mvT hZ (hw _ (List.mem_of_getElem? (i := 43) rfl))) (mvT hZ (hw _ (List.mem_of_getElem? (i := 44) rfl))) (mvT hZ (hw _ (List.mem_of_getElem? (i := 48) rfl))) (by decide) (backOf (W := 0) (rm6 l Z a0 hw [] r0 h0 n0 Z0 ) hZ (hw _ (List.mem_of_getElem? (i := 48) rfl)) (hw _ (List.mem_of_getElem? (i := 47) rfl)) (by decide) (by decide)) (g := (mkF m 1 #[.val (.ref r0), .val (.long q1), .second] [(.ref r0)])) rfl (by rw [hml]; rfl) (Steps.refl _) (a := r0) (argsL := []) (rest := []) (lenOf pd_0 rfl) rfl (by show 2 * 0 + _ ≤ _; exact Nat.le_of_eq rfl) (hb hby d5_1) (fun _ _ => ⟨rfl, e0, (by decide : 0 + 0 ≤ _), (by decide : 0 + 0 ≤ _)⟩)
  dsimp only [Pt.U, Pt.locs, Pt.cells, Pt.slots] at X1 l1 y1 z1 st1 hQ1
  subst l1 y1 z1
  obtain ⟨rfl, N1q, e1⟩ := hQ1
  have N1 := Fr.app N0 N1q
  refine Goes.tr st1 ?_
  show Goes p e below s _ _ _ (T1.setTop (mkF m 4 #[.val (.ref r0), .val (.long q1), .second] []))
  refine Goes.go (fun _ k => XS.aloadN X1.here hx rfl (hb hby d5_4) rfl rfl  k) ?_
  show Goes p e below s _ _ _ (T1.setTop (mkF m 5 #[.val (.ref r0), .val (.long q1), .second] [(.ref r0)]))
  refine Goes.go (fun _ k => XS.lloadN X1.here hx rfl (hb hby d5_5) rfl  k) ?_
  show Goes p e below s _ _ _ (T1.setTop (mkF m 6 #[.val (.ref r0), .val (.long q1), .second] [(.long q1), (.ref r0)]))
  obtain ⟨T2, h2, X2, e2, W2, st2⟩ := putF X1 hx hZ hown (host := "") (Or.inl (hw _ (List.mem_of_getElem? (i := 50) rfl))) Via.refl e1 F_r0_value E_r0 (Or.inr ⟨(hw _ (List.mem_of_getElem? (i := 51) rfl)), rfl, hnm⟩) (hw _ (List.mem_of_getElem? (i := 38) rfl)) (ty := .long) (by decide) rfl rfl (g := (mkF m 6 #[.val (.ref r0), .val (.long q1), .second] [(.long q1), (.ref r0)])) rfl rfl (hb hby d5_6)
  have Fw2 := F_r0_value.same W2
  have N2 := Fr.snoc X2 N1 g_r0
  have Z2 := Nat.le_trans Z0 (Keep.of_wr W2).1
  have K2 := Keep.wr K0 W2 (Or.inl (List.mem_of_getElem? (i := 0) rfl))
  refine Goes.go st2 ?_
  show Goes p e below s _ _ _ (T2.setTop (mkF m 9 #[.val (.ref r0), .val (.long q1), .second] []))
  refine Goes.ret0 X2 hx hlk Bd.returns (hb hby d5_9) ?_ (by decide) (by decide)
  exact (show Q_rm5 Z r0 q1 h0 n0 _ T2.heap _ by rw [e2]; exact ⟨rfl, N2, K2, (E_r0.wr W2), Fw2⟩)
def LC (Z : State) (h : Heap) (ca : Addr) : Prop := ∃ cl : Cell, Arr Z h ca cl (.object "java/lang/Long") ∧ cl.slots.size = 256 ∧ ∀ j, j < 256 → ∃ y : Addr, cl.slots[j]? = some (.ref y) ∧ Exa Z h y "java/lang/Long"
theorem LC.ext {Z : State} {h h' : Heap} {ca : Addr} (F : LC Z h ca) (E : Ext h h') : LC Z h' ca := by
  obtain ⟨cl, A, S, H⟩ := F
  exact ⟨cl, A.ext E, S, fun j hj => by obtain ⟨y, e, X⟩ := H j hj; exact ⟨y, e, X.ext E⟩⟩
def Q_rm4 (Z : State) (h0 : Heap) (n0 : Nat) (v : Option Value) (h : Heap) (L : List Loc) : Prop := ∃ a : Addr, v = some (.ref a) ∧ Fr n0 L ∧ Keep h0 h [] ∧ Exa Z h a "java/lang/Long"
theorem own_idx {q : Int64} (h1 : ¬ q < (-128 : Int64)) (h2 : ¬ (127 : Int64) < q) : ∃ k : Nat, k < 256 ∧ q.toInt32 + (128 : Int32) = Int32.ofNat k := by
  have a1 : ¬ q.toInt < -128 := fun h => h1 (Int64.lt_iff_toInt_lt.mpr h)
  have a2 : ¬ 127 < q.toInt := fun h => h2 (Int64.lt_iff_toInt_lt.mpr h)
  have e : q.toInt32.toInt = q.toInt := Jvm.Kit.i32_of_i64 (by omega) (by omega)
  have e2 : (128 : Int32).toInt = 128 := rfl
  exact ⟨(q.toInt + 128).toNat, by omega, own_eqNat (by rw [Jvm.Kit.i32_add (by rw [e, e2]; omega) (by rw [e, e2]; omega), e, e2]; omega)⟩
theorem d4_0 : decode jdk_35_method_24_code 0 = .ok (.sipush 128, 3) := by decide +kernel
theorem d4_3 : decode jdk_35_method_24_code 3 = .ok (.istore_n 2, 1) := by decide +kernel
theorem d4_4 : decode jdk_35_method_24_code 4 = .ok (.lload_n 0, 1) := by decide +kernel
theorem d4_5 : decode jdk_35_method_24_code 5 = .ok (.ldc2_w 230, 3) := by decide +kernel
theorem d4_8 : decode jdk_35_method_24_code 8 = .ok (.lcmp, 1) := by decide +kernel
theorem d4_9 : decode jdk_35_method_24_code 9 = .ok (.ifCond .lt 22, 3) := by decide +kernel
theorem d4_12 : decode jdk_35_method_24_code 12 = .ok (.lload_n 0, 1) := by decide +kernel
theorem d4_13 : decode jdk_35_method_24_code 13 = .ok (.ldc2_w 232, 3) := by decide +kernel
theorem d4_16 : decode jdk_35_method_24_code 16 = .ok (.lcmp, 1) := by decide +kernel
theorem d4_17 : decode jdk_35_method_24_code 17 = .ok (.ifCond .gt 14, 3) := by decide +kernel
theorem d4_20 : decode jdk_35_method_24_code 20 = .ok (.getstatic 234, 3) := by decide +kernel
theorem d4_23 : decode jdk_35_method_24_code 23 = .ok (.lload_n 0, 1) := by decide +kernel
theorem d4_24 : decode jdk_35_method_24_code 24 = .ok (.l2i, 1) := by decide +kernel
theorem d4_25 : decode jdk_35_method_24_code 25 = .ok (.sipush 128, 3) := by decide +kernel
theorem d4_28 : decode jdk_35_method_24_code 28 = .ok (.iadd, 1) := by decide +kernel
theorem d4_29 : decode jdk_35_method_24_code 29 = .ok (.aaload, 1) := by decide +kernel
theorem d4_30 : decode jdk_35_method_24_code 30 = .ok (.areturn, 1) := by decide +kernel
theorem d4_31 : decode jdk_35_method_24_code 31 = .ok (.new 1, 3) := by decide +kernel
theorem d4_34 : decode jdk_35_method_24_code 34 = .ok (.dup, 1) := by decide +kernel
theorem d4_35 : decode jdk_35_method_24_code 35 = .ok (.lload_n 0, 1) := by decide +kernel
theorem d4_36 : decode jdk_35_method_24_code 36 = .ok (.invokespecial 240, 3) := by decide +kernel
theorem d4_39 : decode jdk_35_method_24_code 39 = .ok (.areturn, 1) := by decide +kernel
theorem pn_4 : plainName "java/lang/Long" = true := by first | (simp [plainName, overriddenIn]; done) | decide +kernel
theorem ef_rm4 (m : MethodId) (x0 : Int64) : entryFrame m #[(.long x0)] 3 = mkF m 0 #[.val (.long x0), .second, .unset] [] := by first | (simp [entryFrame, mkF, argsToLocals, Value.category]; done) | rfl
set_option maxRecDepth 65536 in
set_option maxHeartbeats 40000000 in
theorem rm4 (l : Launch) (Z : State) (a0 : Array Value) (hw : ∀ d ∈ tables_1, d.before a0 Z = true) (ws : List Jvm.Cond) (q0 : Int64) (ca : Addr) (h0 : Heap) (n0 : Nat) (Z0 : n0 ≤ h0.size) (S_cache : Sta Z h0 "java/lang/Long$LongCache" "cache" "[Ljava/lang/Long;" (.ref ca)) (HC : LC Z h0 ca) :
    MetFree l (⟨"java/lang/Long", "valueOf", "(J)Ljava/lang/Long;"⟩ : MethodName) (head1 (Jvm.Cond.code (⟨"java/lang/Long", "valueOf", "(J)Ljava/lang/Long;"⟩ : MethodName) jdk_35_method_24_code 3 (some (.object "java/lang/Long")) :: ws) ({ frames := 3, cells := 1, slots := 1, locals := 39 } : Room)) (fun a U => a = #[(.long q0)] ∧ Z.Warmed39 U.vm ∧ U.heap = h0) (fun _ _ _ _ _ => True) (fun _ U o U' => ∃ v L, o = .returned v ∧ Q_rm4 Z h0 n0 v U'.heap L ∧ FrameEnd U o U' L ({ frames := 3, cells := 1, slots := 1, locals := 39 } : Room).cells ({ frames := 3, cells := 1, slots := 1, locals := 39 } : Room).slots) := by
  refine MetFree.of_bodySF (plainFor_of_name pn_4) hisR ?_
  intro p e s m args below meth c s₁ Bd hml0 hP hK
  obtain ⟨rfl, hZ, hh⟩ := hP
  have hx := Bd.exec
  have hby := Bd.bytes
  have hml : c.maxLocals = 3 := hml0
  have hown : s.vm.findClass "java/lang/Long" = some m.cls := findClass_of_methodNamed Bd.named
  have hnm := (name_of_methodNamed Bd.named Bd.method).1
  have hlk : meth.locks = false := BodyLoose.notSynchronized Bd
  have X0 : Stand p l e ({ frames := 3, cells := 1, slots := 1, locals := 39 } : Room) s m #[(.long q0)] below meth c s₁ [] 0 0 := Stand.of_body Bd
  have e0 : s₁.heap = h0 := by rw [← hh, Bd.state]; rfl
  have N0 := Fr.nil n0
  have K0 : Keep h0 h0 [] := Keep.refl _ _
  show Goes p e below s (Q_rm4 Z h0 n0) ({ frames := 3, cells := 1, slots := 1, locals := 39 } : Room).cells ({ frames := 3, cells := 1, slots := 1, locals := 39 } : Room).slots (s₁.setTop (entryFrame m #[(.long q0)] 3))
  rw [ef_rm4]
  show Goes p e below s _ _ _ (s₁.setTop (mkF m 0 #[.val (.long q0), .second, .unset] []))
  refine Goes.go (fun _ k => XS.sipush X0.here hx rfl (hb hby d4_0) k) ?_
  show Goes p e below s _ _ _ (s₁.setTop (mkF m 3 #[.val (.long q0), .second, .unset] [(.int (128 : Int32))]))
  refine Goes.go (fun _ k => XS.istoreN X0.here hx rfl (hb hby d4_3) rfl (l' := #[.val (.long q0), .second, .val (.int (128 : Int32))]) rfl k) ?_
  show Goes p e below s _ _ _ (s₁.setTop (mkF m 4 #[.val (.long q0), .second, .val (.int (128 : Int32))] []))
  refine Goes.go (fun _ k => XS.lloadN X0.here hx rfl (hb hby d4_4) rfl  k) ?_
  show Goes p e below s _ _ _ (s₁.setTop (mkF m 5 #[.val (.long q0), .second, .val (.int (128 : Int32))] [(.long q0)]))
  refine Goes.go (fun _ k => X0.ldc2Long hx hown (mvT hZ (hw _ (List.mem_of_getElem? (i := 30) rfl))) (g := (mkF m 5 #[.val (.long q0), .second, .val (.int (128 : Int32))] [(.long q0)])) rfl (hb hby d4_5) _ k) ?_
  show Goes p e below s _ _ _ (s₁.setTop (mkF m 8 #[.val (.long q0), .second, .val (.int (128 : Int32))] [(.long (-128 : Int64)), (.long q0)]))
  refine Goes.go (fun _ k => XS.lcmp X0.here hx rfl (hb hby d4_8) rfl k) ?_
  show Goes p e below s _ _ _ (s₁.setTop (mkF m 9 #[.val (.long q0), .second, .val (.int (128 : Int32))] [(.int (lcmpW q0 (-128 : Int64)))]))
  by_cases hc9_1 : q0 < (-128 : Int64)
  · skip
    refine Goes.go (fun _ k => XS.ifYes X0.here hx rfl (pc0 := 9) (pc' := 31) rfl (hb hby d4_9) rfl ((if0 _ _).trans (tlt ((lw_lt q0 (-128 : Int64)).mpr hc9_1)).1) (by decide) (by decide) k) ?_
    show Goes p e below s _ _ _ (s₁.setTop (mkF m 31 #[.val (.long q0), .second, .val (.int (128 : Int32))] []))
    obtain ⟨T2, h2, X2, e2, E2, A2, D2, -, st2⟩ := newO X0 hx hZ hown (hw _ (List.mem_of_getElem? (i := 37) rfl)) (hw _ (List.mem_of_getElem? (i := 38) rfl)) (hw _ (List.mem_of_getElem? (i := 28) rfl)) e0 (g := (mkF m 31 #[.val (.long q0), .second, .val (.int (128 : Int32))] [])) rfl (hb hby d4_31) (by decide) (by decide)
    obtain ⟨b2, g2⟩ : ∃ z, z = h0.size := ⟨_, rfl⟩
    rw [← g2] at A2 D2 st2
    have gb2 : n0 ≤ b2 := Nat.le_trans Z0 (Nat.le_of_eq g2.symm)
    have sb2 : h0.size ≤ b2 := Nat.le_trans K0.1 (Nat.le_of_eq g2.symm)
    have Z2 := Nat.le_trans Z0 E2.1
    have K2 := Keep.ext K0 E2
    have F2_value : Fld Z h2 b2 "java/lang/Long" "value" "J" (.long (0 : Int64)) := D2 (Or.inr (hw _ (List.mem_of_getElem? (i := 51) rfl))) (ty := .long) (by decide)
    refine Goes.go st2 ?_
    show Goes p e below s _ _ _ (T2.setTop (mkF m 34 #[.val (.long q0), .second, .val (.int (128 : Int32))] [(.ref b2)]))
    refine Goes.go (fun _ k => XS.dup X2.here hx rfl (hb hby d4_34) rfl rfl k) ?_
    show Goes p e below s _ _ _ (T2.setTop (mkF m 35 #[.val (.long q0), .second, .val (.int (128 : Int32))] [(.ref b2), (.ref b2)]))
    refine Goes.go (fun _ k => XS.lloadN X2.here hx rfl (hb hby d4_35) rfl  k) ?_
    show Goes p e below s _ _ _ (T2.setTop (mkF m 36 #[.val (.long q0), .second, .val (.int (128 : Int32))] [(.long q0), (.ref b2), (.ref b2)]))
    obtain ⟨_, _, ⟨T3, L3, k3, n3⟩, -, X3, ⟨Lc3, hQ3, l3, y3, z3⟩, st3⟩ := X2.specialBack hx (y := (⟨"java/lang/Long", "<init>", "(J)V"⟩ : MethodName)) rfl hown (mvT hZ (hw _ (List.mem_of_getElem? (i := 39) rfl))) (mvT hZ (hw _ (List.mem_of_getElem? (i := 40) rfl))) (mvT hZ (hw _ (List.mem_of_getElem? (i := 42) rfl))) (by decide) (backOf (W := 1) (rm5 l Z a0 hw [] b2 q0 h2 n0 Z2 A2 gb2 F2_value) hZ (hw _ (List.mem_of_getElem? (i := 42) rfl)) (hw _ (List.mem_of_getElem? (i := 28) rfl)) (by decide) (by decide)) (g := (mkF m 36 #[.val (.long q0), .second, .val (.int (128 : Int32))] [(.long q0), (.ref b2), (.ref b2)])) rfl (by rw [hml]; rfl) (Steps.refl _) (a := b2) (argsL := [(.long q0)]) (rest := [(.ref b2)]) (lenOf pd_1 rfl) rfl (by show 2 * 0 + _ ≤ _; exact Nat.le_of_eq rfl) (hb hby d4_36) (fun _ _ => ⟨rfl, e2, (by decide : 1 + 0 ≤ _), (by decide : 1 + 0 ≤ _)⟩)
    dsimp only [Pt.U, Pt.locs, Pt.cells, Pt.slots] at X3 l3 y3 z3 st3 hQ3
    subst l3 y3 z3
    obtain ⟨h3, e3⟩ : ∃ z, T3.heap = z := ⟨_, rfl⟩
    rw [e3] at hQ3
    obtain ⟨rfl, N3q, Kq3, G3_0, G3_1⟩ := hQ3
    have N3 := Fr.app N0 N3q
    have K3 := Keep.trans K2 Kq3 (allS (Or.inr sb2) all0)
    have Z3 := Nat.le_trans Z2 Kq3.1
    refine Goes.tr st3 ?_
    show Goes p e below s _ _ _ (T3.setTop (mkF m 39 #[.val (.long q0), .second, .val (.int (128 : Int32))] [(.ref b2)]))
    refine Goes.retA X3 hx hlk rfl Bd.returns rfl (hb hby d4_39) ?_ (by decide) (by decide)
    exact (show Q_rm4 Z h0 n0 _ T3.heap _ by rw [e3]; exact ⟨b2, rfl, N3, K3, G3_0⟩)
  · skip
    refine Goes.go (fun _ k => XS.ifNo X0.here hx rfl (hb hby d4_9) rfl ((if0 _ _).trans (flt (mt (lw_lt q0 (-128 : Int64)).mp hc9_1)).1) k) ?_
    show Goes p e below s _ _ _ (s₁.setTop (mkF m 12 #[.val (.long q0), .second, .val (.int (128 : Int32))] []))
    refine Goes.go (fun _ k => XS.lloadN X0.here hx rfl (hb hby d4_12) rfl  k) ?_
    show Goes p e below s _ _ _ (s₁.setTop (mkF m 13 #[.val (.long q0), .second, .val (.int (128 : Int32))] [(.long q0)]))
    refine Goes.go (fun _ k => X0.ldc2Long hx hown (mvT hZ (hw _ (List.mem_of_getElem? (i := 31) rfl))) (g := (mkF m 13 #[.val (.long q0), .second, .val (.int (128 : Int32))] [(.long q0)])) rfl (hb hby d4_13) _ k) ?_
    show Goes p e below s _ _ _ (s₁.setTop (mkF m 16 #[.val (.long q0), .second, .val (.int (128 : Int32))] [(.long (127 : Int64)), (.long q0)]))
    refine Goes.go (fun _ k => XS.lcmp X0.here hx rfl (hb hby d4_16) rfl k) ?_
    show Goes p e below s _ _ _ (s₁.setTop (mkF m 17 #[.val (.long q0), .second, .val (.int (128 : Int32))] [(.int (lcmpW q0 (127 : Int64)))]))
    by_cases hc17_4 : (127 : Int64) < q0
    · skip
      refine Goes.go (fun _ k => XS.ifYes X0.here hx rfl (pc0 := 17) (pc' := 31) rfl (hb hby d4_17) rfl ((if0 _ _).trans (tlt ((lw_gt q0 (127 : Int64)).mpr hc17_4)).2.2.1) (by decide) (by decide) k) ?_
      show Goes p e below s _ _ _ (s₁.setTop (mkF m 31 #[.val (.long q0), .second, .val (.int (128 : Int32))] []))
      obtain ⟨T5, h5, X5, e5, E5, A5, D5, -, st5⟩ := newO X0 hx hZ hown (hw _ (List.mem_of_getElem? (i := 37) rfl)) (hw _ (List.mem_of_getElem? (i := 38) rfl)) (hw _ (List.mem_of_getElem? (i := 28) rfl)) e0 (g := (mkF m 31 #[.val (.long q0), .second, .val (.int (128 : Int32))] [])) rfl (hb hby d4_31) (by decide) (by decide)
      obtain ⟨b5, g5⟩ : ∃ z, z = h0.size := ⟨_, rfl⟩
      rw [← g5] at A5 D5 st5
      have gb5 : n0 ≤ b5 := Nat.le_trans Z0 (Nat.le_of_eq g5.symm)
      have sb5 : h0.size ≤ b5 := Nat.le_trans K0.1 (Nat.le_of_eq g5.symm)
      have Z5 := Nat.le_trans Z0 E5.1
      have K5 := Keep.ext K0 E5
      have F5_value : Fld Z h5 b5 "java/lang/Long" "value" "J" (.long (0 : Int64)) := D5 (Or.inr (hw _ (List.mem_of_getElem? (i := 51) rfl))) (ty := .long) (by decide)
      refine Goes.go st5 ?_
      show Goes p e below s _ _ _ (T5.setTop (mkF m 34 #[.val (.long q0), .second, .val (.int (128 : Int32))] [(.ref b5)]))
      refine Goes.go (fun _ k => XS.dup X5.here hx rfl (hb hby d4_34) rfl rfl k) ?_
      show Goes p e below s _ _ _ (T5.setTop (mkF m 35 #[.val (.long q0), .second, .val (.int (128 : Int32))] [(.ref b5), (.ref b5)]))
      refine Goes.go (fun _ k => XS.lloadN X5.here hx rfl (hb hby d4_35) rfl  k) ?_
      show Goes p e below s _ _ _ (T5.setTop (mkF m 36 #[.val (.long q0), .second, .val (.int (128 : Int32))] [(.long q0), (.ref b5), (.ref b5)]))
      obtain ⟨_, _, ⟨T6, L6, k6, n6⟩, -, X6, ⟨Lc6, hQ6, l6, y6, z6⟩, st6⟩ := X5.specialBack hx (y := (⟨"java/lang/Long", "<init>", "(J)V"⟩ : MethodName)) rfl hown (mvT hZ (hw _ (List.mem_of_getElem? (i := 39) rfl))) (mvT hZ (hw _ (List.mem_of_getElem? (i := 40) rfl))) (mvT hZ (hw _ (List.mem_of_getElem? (i := 42) rfl))) (by decide) (backOf (W := 1) (rm5 l Z a0 hw [] b5 q0 h5 n0 Z5 A5 gb5 F5_value) hZ (hw _ (List.mem_of_getElem? (i := 42) rfl)) (hw _ (List.mem_of_getElem? (i := 28) rfl)) (by decide) (by decide)) (g := (mkF m 36 #[.val (.long q0), .second, .val (.int (128 : Int32))] [(.long q0), (.ref b5), (.ref b5)])) rfl (by rw [hml]; rfl) (Steps.refl _) (a := b5) (argsL := [(.long q0)]) (rest := [(.ref b5)]) (lenOf pd_1 rfl) rfl (by show 2 * 0 + _ ≤ _; exact Nat.le_of_eq rfl) (hb hby d4_36) (fun _ _ => ⟨rfl, e5, (by decide : 1 + 0 ≤ _), (by decide : 1 + 0 ≤ _)⟩)
      dsimp only [Pt.U, Pt.locs, Pt.cells, Pt.slots] at X6 l6 y6 z6 st6 hQ6
      subst l6 y6 z6
      obtain ⟨h6, e6⟩ : ∃ z, T6.heap = z := ⟨_, rfl⟩
      rw [e6] at hQ6
      obtain ⟨rfl, N6q, Kq6, G6_0, G6_1⟩ := hQ6
      have N6 := Fr.app N0 N6q
      have K6 := Keep.trans K5 Kq6 (allS (Or.inr sb5) all0)
      have Z6 := Nat.le_trans Z5 Kq6.1
      refine Goes.tr st6 ?_
      show Goes p e below s _ _ _ (T6.setTop (mkF m 39 #[.val (.long q0), .second, .val (.int (128 : Int32))] [(.ref b5)]))
      refine Goes.retA X6 hx hlk rfl Bd.returns rfl (hb hby d4_39) ?_ (by decide) (by decide)
      exact (show Q_rm4 Z h0 n0 _ T6.heap _ by rw [e6]; exact ⟨b5, rfl, N6, K6, G6_0⟩)
    · skip
      refine Goes.go (fun _ k => XS.ifNo X0.here hx rfl (hb hby d4_17) rfl ((if0 _ _).trans (flt (mt (lw_gt q0 (127 : Int64)).mp hc17_4)).2.2.1) k) ?_
      show Goes p e below s _ _ _ (s₁.setTop (mkF m 20 #[.val (.long q0), .second, .val (.int (128 : Int32))] []))
      obtain ⟨T7, X7, e7, st7⟩ := getS2 X0 hx hZ hown (host := "") (Or.inl (hw _ (List.mem_of_getElem? (i := 32) rfl))) Via.refl e0 S_cache (g := (mkF m 20 #[.val (.long q0), .second, .val (.int (128 : Int32))] [])) rfl (hb hby d4_20)
      refine Goes.go st7 ?_
      show Goes p e below s _ _ _ (T7.setTop (mkF m 23 #[.val (.long q0), .second, .val (.int (128 : Int32))] [(.ref ca)]))
      refine Goes.go (fun _ k => XS.lloadN X7.here hx rfl (hb hby d4_23) rfl  k) ?_
      show Goes p e below s _ _ _ (T7.setTop (mkF m 24 #[.val (.long q0), .second, .val (.int (128 : Int32))] [(.long q0), (.ref ca)]))
      refine Goes.go (fun _ k => XS.l2i X7.here hx rfl (hb hby d4_24) rfl k) ?_
      show Goes p e below s _ _ _ (T7.setTop (mkF m 25 #[.val (.long q0), .second, .val (.int (128 : Int32))] [(.int (q0.toInt32)), (.ref ca)]))
      refine Goes.go (fun _ k => XS.sipush X7.here hx rfl (hb hby d4_25) k) ?_
      show Goes p e below s _ _ _ (T7.setTop (mkF m 28 #[.val (.long q0), .second, .val (.int (128 : Int32))] [(.int (128 : Int32)), (.int (q0.toInt32)), (.ref ca)]))
      refine Goes.go (fun _ k => XS.iadd X7.here hx rfl (hb hby d4_28) rfl k) ?_
      show Goes p e below s _ _ _ (T7.setTop (mkF m 29 #[.val (.long q0), .second, .val (.int (128 : Int32))] [(.int ((q0.toInt32) + (128 : Int32))), (.ref ca)]))
      obtain ⟨cl, Ar, Sz, Hy⟩ := HC
      obtain ⟨kk, hkk, ekk⟩ := own_idx hc9_1 hc17_4
      obtain ⟨y, hy, Ey⟩ := Hy kk hkk
      refine Goes.go (X7.aaload hx (j := ((q0.toInt32) + (128 : Int32))) (v := .ref y) (by rw [e7]; exact Ar.1) (State.isArrayOf_alike hZ.alike Ar.2.1) rfl Ar.2.2 (by rw [ekk, Sz]; exact own_in hkk (by decide)) (by rw [ekk, own_cl (by omega)]; exact hy) (g := (mkF m 29 #[.val (.long q0), .second, .val (.int (128 : Int32))] [(.int ((q0.toInt32) + (128 : Int32))), (.ref ca)])) rfl rfl (hb hby d4_29)) ?_
      show Goes p e below s _ _ _ (T7.setTop (mkF m 30 #[.val (.long q0), .second, .val (.int (128 : Int32))] [(.ref y)]))
      refine Goes.retA X7 hx hlk rfl Bd.returns rfl (hb hby d4_30) ?_ (by decide) (by decide)
      exact (show Q_rm4 Z h0 n0 _ T7.heap _ by rw [e7]; exact ⟨y, rfl, N0, K0, Ey⟩)
theorem own_b01 {z : Int32} {P : Prop} [Decidable P] (h : z = if P then (0 : Int32) else (1 : Int32)) : z = 0 ∨ z = 1 := by
  by_cases q : P
  · exact Or.inl (h.trans (if_pos q))
  · exact Or.inr (h.trans (if_neg q))
theorem own_f3 (x y : Addr) {a a' : Int32} (ha : a = 0 ∨ a = 1) (ha' : a' = 0 ∨ a' = 1) (p r q s p' r' q' s' : Int64) : f3 x y (nar .boolean a) p r q s (nar .boolean a') p' r' q' s' = (if a = a' then (if p = p' then (if r = r' then (if q = q' then (if s = s' then (1 : Int32) else (0 : Int32)) else (0 : Int32)) else (0 : Int32)) else (0 : Int32)) else (0 : Int32)) := by
  have hn : (nar .boolean a = nar .boolean a') ↔ a = a' := by
    rcases ha with rfl | rfl <;> rcases ha' with rfl | rfl <;> decide
  unfold f3 f3_75
  simp only [hn]
  by_cases h1 : a = a' <;> by_cases h2 : p = p' <;> by_cases h3 : r = r' <;> by_cases h4 : q = q' <;> by_cases h5 : s = s' <;> simp [h1, h2, h3, h4, h5, nar]
theorem own_f3s (x y : Addr) {a a' : Int32} (ha : a = 0 ∨ a = 1) (ha' : a' = 0 ∨ a' = 1) (p r q s p' r' q' s' : Int64) : f3 x y (nar .boolean a') p' r' q' s' (nar .boolean a) p r q s = (if a = a' then (if p = p' then (if r = r' then (if q = q' then (if s = s' then (1 : Int32) else (0 : Int32)) else (0 : Int32)) else (0 : Int32)) else (0 : Int32)) else (0 : Int32)) := by
  rw [own_f3 x y ha' ha]
  simp only [@eq_comm _ a' a, @eq_comm _ p' p, @eq_comm _ r' r, @eq_comm _ q' q, @eq_comm _ s' s]
theorem own_self (x y : Addr) {a : Int32} (ha : a = 0 ∨ a = 1) (p r q s : Int64) : ¬ (f3 x y (nar .boolean a) p r q s (nar .boolean a) p r q s = (0 : Int32)) := by
  rw [own_f3 x y ha ha]; simp
theorem own_lc {s : State} {args : Array Value} {ca : Addr} (ec : (Term.static "java/lang/Long$LongCache" "cache" "[Ljava/lang/Long;").eval args s none [] s = some (.ref ca))
    (h2 : (Jvm.Cond.arrayOf (.static "java/lang/Long$LongCache" "cache" "[Ljava/lang/Long;") (.object "java/lang/Long")).before args s = true) (h4 : (Jvm.Cond.eq (.length (.static "java/lang/Long$LongCache" "cache" "[Ljava/lang/Long;")) (.int 256)).before args s = true)
    {c2 : Jvm.Cond} (h5 : (Jvm.Cond.all (.static "java/lang/Long$LongCache" "cache" "[Ljava/lang/Long;") (.and (.exactly (.elem (.static "java/lang/Long$LongCache" "cache" "[Ljava/lang/Long;") (.index 0)) "java/lang/Long") c2)).before args s = true) : LC s s.heap ca := by
  obtain ⟨a, cl, ea, hA, harr, hvm⟩ := IntBox.arrayOf_fwd h2 ec
  cases ea
  obtain ⟨hsz, hsize⟩ := IntBox.length_fwd h4 ec hA harr hvm
  have hS : cl.slots.size = 256 := by
    have e1 : (Int32.ofNat cl.slots.size).toInt = cl.slots.size := own_nat hsz
    have e2 : Int32.ofNat cl.slots.size = (256 : Int32) := hsize
    rw [e2] at e1
    have e3 : (256 : Int32).toInt = 256 := rfl
    omega
  have hat := IntBox.arrayAt_of hA harr hvm
  refine ⟨cl, ⟨hA, harr, hvm⟩, hS, fun j hj => ?_⟩
  have hall := Cond.all_elim ec hat (Cond.before_iff.mp h5) j (by rw [hS]; exact hj)
  obtain ⟨hx, -⟩ := and_e hall
  obtain ⟨y, ey⟩ := exa_v hx
  have ec2 : (Term.static "java/lang/Long$LongCache" "cache" "[Ljava/lang/Long;").eval args s none [j] s = some (.ref ca) := ec
  have ej : (Term.index 0).eval args s none [j] s = some (.int (Int32.ofNat j)) := rfl
  have hneg : ¬ (Int32.ofNat j < 0) := fun q => own_in (n := 256) hj (by decide) (Or.inl q)
  have e2 := ey
  simp only [Term.eval] at e2
  refine ⟨y, ?_, exa_at ey hx⟩
  have e3 : (Term.elem (.static "java/lang/Long$LongCache" "cache" "[Ljava/lang/Long;") (.index 0)).eval args s none [j] s = cl.slots[j]? := by
    have : (Term.elem (.static "java/lang/Long$LongCache" "cache" "[Ljava/lang/Long;") (.index 0)).eval args s none [j] s = (if Int32.ofNat j < 0 then none else cl.slots[(Int32.ofNat j).toNatClampNeg]?) := by
      show (do
        let .ref a ← (Term.static "java/lang/Long$LongCache" "cache" "[Ljava/lang/Long;").eval args s none [j] s | none
        let .int j ← (Term.index 0).eval args s none [j] s | none
        if j < 0 then none else (← s.arrayAt? a).slots[j.toNatClampNeg]?) = _
      rw [ec2, ej]
      simp only [Option.bind_eq_bind, Option.bind_some, hat]
    rw [this, if_neg hneg, own_cl (by omega)]
  exact e3.symm.trans ey
theorem pn_0 : plainName "com/example/danaid/danaid/DecisionEqualsPinLaw" = true := by first | (simp [plainName, overriddenIn]; done) | decide +kernel
theorem ef_rm0 (m : MethodId) (x0 : Int64) (x1 : Int64) (x2 : Int64) (x3 : Int64) (x4 : Int64) (x5 : Int32) : entryFrame m #[(.long x0), (.long x1), (.long x2), (.long x3), (.long x4), (.int x5)] maxLocals = mkF m 0 #[.val (.long x0), .second, .val (.long x1), .second, .val (.long x2), .second, .val (.long x3), .second, .val (.long x4), .second, .val (.int x5), .unset, .unset, .unset, .unset, .unset, .unset, .unset, .unset, .unset, .unset, .unset, .unset, .unset, .unset, .unset, .unset, .unset, .unset] [] := by first | (simp [entryFrame, mkF, argsToLocals, Value.category, maxLocals]; done) | rfl
def Q0 (n0 : Nat) (v : Option Value) (h : Heap) (L : List Loc) : Prop := v = some (.int 1) ∧ Fr n0 L
set_option maxRecDepth 65536 in
set_option maxHeartbeats 40000000 in
theorem rm0 (l : Launch) (Z : State) (a0 : Array Value) (hw : ∀ d ∈ tables_1, d.before a0 Z = true) (ws : List Jvm.Cond) (q0 : Int64) (q1 : Int64) (q2 : Int64) (q3 : Int64) (q4 : Int64) (p5 : Int32) (ca : Addr) (h0 : Heap) (n0 : Nat) (Z0 : n0 ≤ h0.size) (S_cache : Sta Z h0 "java/lang/Long$LongCache" "cache" "[Ljava/lang/Long;" (.ref ca)) (HC : LC Z h0 ca) :
    MetFree l x (head1 (Jvm.Cond.code x code maxLocals ret :: ws) room_1) (fun a U => a = #[(.long q0), (.long q1), (.long q2), (.long q3), (.long q4), (.int p5)] ∧ Z.Warmed39 U.vm ∧ U.heap = h0) (fun _ _ _ _ _ => True) (fun _ U o U' => ∃ v L, o = .returned v ∧ Q0 n0 v U'.heap L ∧ FrameEnd U o U' L room_1.cells room_1.slots) := by
  refine MetFree.of_bodySF (plainFor_of_name pn_0) hisR ?_
  intro p e s m args below meth c s₁ Bd hml0 hP hK
  obtain ⟨rfl, hZ, hh⟩ := hP
  have hx := Bd.exec
  have hby := Bd.bytes
  have hml : c.maxLocals = 29 := hml0
  have hown : s.vm.findClass "com/example/danaid/danaid/DecisionEqualsPinLaw" = some m.cls := findClass_of_methodNamed Bd.named
  have hnm := (name_of_methodNamed Bd.named Bd.method).1
  have hlk : meth.locks = false := BodyLoose.notSynchronized Bd
  have X0 : Stand p l e room_1 s m #[(.long q0), (.long q1), (.long q2), (.long q3), (.long q4), (.int p5)] below meth c s₁ [] 0 0 := Stand.of_body Bd
  have e0 : s₁.heap = h0 := by rw [← hh, Bd.state]; rfl
  have N0 := Fr.nil n0
  have K0 : Keep h0 h0 [] := Keep.refl _ _
  show Goes p e below s (Q0 n0) room_1.cells room_1.slots (s₁.setTop (entryFrame m #[(.long q0), (.long q1), (.long q2), (.long q3), (.long q4), (.int p5)] maxLocals))
  rw [ef_rm0]
  show Goes p e below s _ _ _ (s₁.setTop (mkF m 0 #[.val (.long q0), .second, .val (.long q1), .second, .val (.long q2), .second, .val (.long q3), .second, .val (.long q4), .second, .val (.int p5), .unset, .unset, .unset, .unset, .unset, .unset, .unset, .unset, .unset, .unset, .unset, .unset, .unset, .unset, .unset, .unset, .unset, .unset] []))
  refine Goes.go (fun _ k => XS.iload X0.here hx rfl (hb hby at_0) rfl  k) ?_
  show Goes p e below s _ _ _ (s₁.setTop (mkF m 2 #[.val (.long q0), .second, .val (.long q1), .second, .val (.long q2), .second, .val (.long q3), .second, .val (.long q4), .second, .val (.int p5), .unset, .unset, .unset, .unset, .unset, .unset, .unset, .unset, .unset, .unset, .unset, .unset, .unset, .unset, .unset, .unset, .unset, .unset] [(.int p5)]))
  refine Goes.go (fun _ k => XS.iconst X0.here hx rfl (hb hby at_2) k) ?_
  show Goes p e below s _ _ _ (s₁.setTop (mkF m 3 #[.val (.long q0), .second, .val (.long q1), .second, .val (.long q2), .second, .val (.long q3), .second, .val (.long q4), .second, .val (.int p5), .unset, .unset, .unset, .unset, .unset, .unset, .unset, .unset, .unset, .unset, .unset, .unset, .unset, .unset, .unset, .unset, .unset, .unset] [(.int (1 : Int32)), (.int p5)]))
  refine Goes.go (fun _ k => XS.iand X0.here hx rfl (hb hby at_3) rfl k) ?_
  show Goes p e below s _ _ _ (s₁.setTop (mkF m 4 #[.val (.long q0), .second, .val (.long q1), .second, .val (.long q2), .second, .val (.long q3), .second, .val (.long q4), .second, .val (.int p5), .unset, .unset, .unset, .unset, .unset, .unset, .unset, .unset, .unset, .unset, .unset, .unset, .unset, .unset, .unset, .unset, .unset, .unset] [(.int (p5 &&& (1 : Int32)))]))
  obtain ⟨z1_s0, hz1_s0⟩ : ∃ z : Int32, z = if (p5 &&& (1 : Int32)) = (0 : Int32) then (0 : Int32) else (1 : Int32) := ⟨_, rfl⟩
  have sm1 : ∀ t, Steps p.tables e below (s₁.setTop (mkF m 12 #[.val (.long q0), .second, .val (.long q1), .second, .val (.long q2), .second, .val (.long q3), .second, .val (.long q4), .second, .val (.int p5), .unset, .unset, .unset, .unset, .unset, .unset, .unset, .unset, .unset, .unset, .unset, .unset, .unset, .unset, .unset, .unset, .unset, .unset] [(.int z1_s0)])) t → Steps p.tables e below (s₁.setTop (mkF m 4 #[.val (.long q0), .second, .val (.long q1), .second, .val (.long q2), .second, .val (.long q3), .second, .val (.long q4), .second, .val (.int p5), .unset, .unset, .unset, .unset, .unset, .unset, .unset, .unset, .unset, .unset, .unset, .unset, .unset, .unset, .unset, .unset, .unset, .unset] [(.int (p5 &&& (1 : Int32)))])) t := by
    intro t k
    by_cases hc4_1 : (p5 &&& (1 : Int32)) = (0 : Int32)
    · have k2 : Steps p.tables e below (s₁.setTop (mkF m 12 #[.val (.long q0), .second, .val (.long q1), .second, .val (.long q2), .second, .val (.long q3), .second, .val (.long q4), .second, .val (.int p5), .unset, .unset, .unset, .unset, .unset, .unset, .unset, .unset, .unset, .unset, .unset, .unset, .unset, .unset, .unset, .unset, .unset, .unset] [(.int (0 : Int32))])) t := by simpa only [hz1_s0, if_pos hc4_1] using k
      show Steps p.tables e below (s₁.setTop (mkF m 4 #[.val (.long q0), .second, .val (.long q1), .second, .val (.long q2), .second, .val (.long q3), .second, .val (.long q4), .second, .val (.int p5), .unset, .unset, .unset, .unset, .unset, .unset, .unset, .unset, .unset, .unset, .unset, .unset, .unset, .unset, .unset, .unset, .unset, .unset] [(.int (p5 &&& (1 : Int32)))])) _
      refine XS.ifYes X0.here hx rfl (pc0 := 4) (pc' := 11) rfl (hb hby at_4) rfl ((if0 _ _).trans (teq hc4_1).1) (by decide) (by decide) ?_
      show Steps p.tables e below (s₁.setTop (mkF m 11 #[.val (.long q0), .second, .val (.long q1), .second, .val (.long q2), .second, .val (.long q3), .second, .val (.long q4), .second, .val (.int p5), .unset, .unset, .unset, .unset, .unset, .unset, .unset, .unset, .unset, .unset, .unset, .unset, .unset, .unset, .unset, .unset, .unset, .unset] [])) _
      refine XS.iconst X0.here hx rfl (hb hby at_11) ?_
      exact k2
    · have k2 : Steps p.tables e below (s₁.setTop (mkF m 12 #[.val (.long q0), .second, .val (.long q1), .second, .val (.long q2), .second, .val (.long q3), .second, .val (.long q4), .second, .val (.int p5), .unset, .unset, .unset, .unset, .unset, .unset, .unset, .unset, .unset, .unset, .unset, .unset, .unset, .unset, .unset, .unset, .unset, .unset] [(.int (1 : Int32))])) t := by simpa only [hz1_s0, if_neg hc4_1] using k
      show Steps p.tables e below (s₁.setTop (mkF m 4 #[.val (.long q0), .second, .val (.long q1), .second, .val (.long q2), .second, .val (.long q3), .second, .val (.long q4), .second, .val (.int p5), .unset, .unset, .unset, .unset, .unset, .unset, .unset, .unset, .unset, .unset, .unset, .unset, .unset, .unset, .unset, .unset, .unset, .unset] [(.int (p5 &&& (1 : Int32)))])) _
      refine XS.ifNo X0.here hx rfl (hb hby at_4) rfl ((if0 _ _).trans (feq hc4_1).1) ?_
      show Steps p.tables e below (s₁.setTop (mkF m 7 #[.val (.long q0), .second, .val (.long q1), .second, .val (.long q2), .second, .val (.long q3), .second, .val (.long q4), .second, .val (.int p5), .unset, .unset, .unset, .unset, .unset, .unset, .unset, .unset, .unset, .unset, .unset, .unset, .unset, .unset, .unset, .unset, .unset, .unset] [])) _
      refine XS.iconst X0.here hx rfl (hb hby at_7) ?_
      show Steps p.tables e below (s₁.setTop (mkF m 8 #[.val (.long q0), .second, .val (.long q1), .second, .val (.long q2), .second, .val (.long q3), .second, .val (.long q4), .second, .val (.int p5), .unset, .unset, .unset, .unset, .unset, .unset, .unset, .unset, .unset, .unset, .unset, .unset, .unset, .unset, .unset, .unset, .unset, .unset] [(.int (1 : Int32))])) _
      refine XS.goto X0.here hx rfl (pc0 := 8) (pc' := 12) rfl (hb hby at_8) (by decide) (by decide) ?_
      exact k2
  refine Goes.go sm1 ?_
  show Goes p e below s _ _ _ (s₁.setTop (mkF m 12 #[.val (.long q0), .second, .val (.long q1), .second, .val (.long q2), .second, .val (.long q3), .second, .val (.long q4), .second, .val (.int p5), .unset, .unset, .unset, .unset, .unset, .unset, .unset, .unset, .unset, .unset, .unset, .unset, .unset, .unset, .unset, .unset, .unset, .unset] [(.int z1_s0)]))
  refine Goes.go (fun _ k => XS.istore X0.here hx rfl (hb hby at_12) rfl (l' := #[.val (.long q0), .second, .val (.long q1), .second, .val (.long q2), .second, .val (.long q3), .second, .val (.long q4), .second, .val (.int p5), .val (.int z1_s0), .unset, .unset, .unset, .unset, .unset, .unset, .unset, .unset, .unset, .unset, .unset, .unset, .unset, .unset, .unset, .unset, .unset]) rfl k) ?_
  show Goes p e below s _ _ _ (s₁.setTop (mkF m 14 #[.val (.long q0), .second, .val (.long q1), .second, .val (.long q2), .second, .val (.long q3), .second, .val (.long q4), .second, .val (.int p5), .val (.int z1_s0), .unset, .unset, .unset, .unset, .unset, .unset, .unset, .unset, .unset, .unset, .unset, .unset, .unset, .unset, .unset, .unset, .unset] []))
  refine Goes.go (fun _ k => XS.iload X0.here hx rfl (hb hby at_14) rfl  k) ?_
  show Goes p e below s _ _ _ (s₁.setTop (mkF m 16 #[.val (.long q0), .second, .val (.long q1), .second, .val (.long q2), .second, .val (.long q3), .second, .val (.long q4), .second, .val (.int p5), .val (.int z1_s0), .unset, .unset, .unset, .unset, .unset, .unset, .unset, .unset, .unset, .unset, .unset, .unset, .unset, .unset, .unset, .unset, .unset] [(.int p5)]))
  refine Goes.go (fun _ k => XS.iconst X0.here hx rfl (hb hby at_16) k) ?_
  show Goes p e below s _ _ _ (s₁.setTop (mkF m 17 #[.val (.long q0), .second, .val (.long q1), .second, .val (.long q2), .second, .val (.long q3), .second, .val (.long q4), .second, .val (.int p5), .val (.int z1_s0), .unset, .unset, .unset, .unset, .unset, .unset, .unset, .unset, .unset, .unset, .unset, .unset, .unset, .unset, .unset, .unset, .unset] [(.int (2 : Int32)), (.int p5)]))
  refine Goes.go (fun _ k => XS.iand X0.here hx rfl (hb hby at_17) rfl k) ?_
  show Goes p e below s _ _ _ (s₁.setTop (mkF m 18 #[.val (.long q0), .second, .val (.long q1), .second, .val (.long q2), .second, .val (.long q3), .second, .val (.long q4), .second, .val (.int p5), .val (.int z1_s0), .unset, .unset, .unset, .unset, .unset, .unset, .unset, .unset, .unset, .unset, .unset, .unset, .unset, .unset, .unset, .unset, .unset] [(.int (p5 &&& (2 : Int32)))]))
  obtain ⟨z2_s0, hz2_s0⟩ : ∃ z : Int32, z = if (p5 &&& (2 : Int32)) = (0 : Int32) then (0 : Int32) else (1 : Int32) := ⟨_, rfl⟩
  have sm2 : ∀ t, Steps p.tables e below (s₁.setTop (mkF m 26 #[.val (.long q0), .second, .val (.long q1), .second, .val (.long q2), .second, .val (.long q3), .second, .val (.long q4), .second, .val (.int p5), .val (.int z1_s0), .unset, .unset, .unset, .unset, .unset, .unset, .unset, .unset, .unset, .unset, .unset, .unset, .unset, .unset, .unset, .unset, .unset] [(.int z2_s0)])) t → Steps p.tables e below (s₁.setTop (mkF m 18 #[.val (.long q0), .second, .val (.long q1), .second, .val (.long q2), .second, .val (.long q3), .second, .val (.long q4), .second, .val (.int p5), .val (.int z1_s0), .unset, .unset, .unset, .unset, .unset, .unset, .unset, .unset, .unset, .unset, .unset, .unset, .unset, .unset, .unset, .unset, .unset] [(.int (p5 &&& (2 : Int32)))])) t := by
    intro t k
    by_cases hc18_2 : (p5 &&& (2 : Int32)) = (0 : Int32)
    · have k2 : Steps p.tables e below (s₁.setTop (mkF m 26 #[.val (.long q0), .second, .val (.long q1), .second, .val (.long q2), .second, .val (.long q3), .second, .val (.long q4), .second, .val (.int p5), .val (.int z1_s0), .unset, .unset, .unset, .unset, .unset, .unset, .unset, .unset, .unset, .unset, .unset, .unset, .unset, .unset, .unset, .unset, .unset] [(.int (0 : Int32))])) t := by simpa only [hz2_s0, if_pos hc18_2] using k
      show Steps p.tables e below (s₁.setTop (mkF m 18 #[.val (.long q0), .second, .val (.long q1), .second, .val (.long q2), .second, .val (.long q3), .second, .val (.long q4), .second, .val (.int p5), .val (.int z1_s0), .unset, .unset, .unset, .unset, .unset, .unset, .unset, .unset, .unset, .unset, .unset, .unset, .unset, .unset, .unset, .unset, .unset] [(.int (p5 &&& (2 : Int32)))])) _
      refine XS.ifYes X0.here hx rfl (pc0 := 18) (pc' := 25) rfl (hb hby at_18) rfl ((if0 _ _).trans (teq hc18_2).1) (by decide) (by decide) ?_
      show Steps p.tables e below (s₁.setTop (mkF m 25 #[.val (.long q0), .second, .val (.long q1), .second, .val (.long q2), .second, .val (.long q3), .second, .val (.long q4), .second, .val (.int p5), .val (.int z1_s0), .unset, .unset, .unset, .unset, .unset, .unset, .unset, .unset, .unset, .unset, .unset, .unset, .unset, .unset, .unset, .unset, .unset] [])) _
      refine XS.iconst X0.here hx rfl (hb hby at_25) ?_
      exact k2
    · have k2 : Steps p.tables e below (s₁.setTop (mkF m 26 #[.val (.long q0), .second, .val (.long q1), .second, .val (.long q2), .second, .val (.long q3), .second, .val (.long q4), .second, .val (.int p5), .val (.int z1_s0), .unset, .unset, .unset, .unset, .unset, .unset, .unset, .unset, .unset, .unset, .unset, .unset, .unset, .unset, .unset, .unset, .unset] [(.int (1 : Int32))])) t := by simpa only [hz2_s0, if_neg hc18_2] using k
      show Steps p.tables e below (s₁.setTop (mkF m 18 #[.val (.long q0), .second, .val (.long q1), .second, .val (.long q2), .second, .val (.long q3), .second, .val (.long q4), .second, .val (.int p5), .val (.int z1_s0), .unset, .unset, .unset, .unset, .unset, .unset, .unset, .unset, .unset, .unset, .unset, .unset, .unset, .unset, .unset, .unset, .unset] [(.int (p5 &&& (2 : Int32)))])) _
      refine XS.ifNo X0.here hx rfl (hb hby at_18) rfl ((if0 _ _).trans (feq hc18_2).1) ?_
      show Steps p.tables e below (s₁.setTop (mkF m 21 #[.val (.long q0), .second, .val (.long q1), .second, .val (.long q2), .second, .val (.long q3), .second, .val (.long q4), .second, .val (.int p5), .val (.int z1_s0), .unset, .unset, .unset, .unset, .unset, .unset, .unset, .unset, .unset, .unset, .unset, .unset, .unset, .unset, .unset, .unset, .unset] [])) _
      refine XS.iconst X0.here hx rfl (hb hby at_21) ?_
      show Steps p.tables e below (s₁.setTop (mkF m 22 #[.val (.long q0), .second, .val (.long q1), .second, .val (.long q2), .second, .val (.long q3), .second, .val (.long q4), .second, .val (.int p5), .val (.int z1_s0), .unset, .unset, .unset, .unset, .unset, .unset, .unset, .unset, .unset, .unset, .unset, .unset, .unset, .unset, .unset, .unset, .unset] [(.int (1 : Int32))])) _
      refine XS.goto X0.here hx rfl (pc0 := 22) (pc' := 26) rfl (hb hby at_22) (by decide) (by decide) ?_
      exact k2
  refine Goes.go sm2 ?_
  show Goes p e below s _ _ _ (s₁.setTop (mkF m 26 #[.val (.long q0), .second, .val (.long q1), .second, .val (.long q2), .second, .val (.long q3), .second, .val (.long q4), .second, .val (.int p5), .val (.int z1_s0), .unset, .unset, .unset, .unset, .unset, .unset, .unset, .unset, .unset, .unset, .unset, .unset, .unset, .unset, .unset, .unset, .unset] [(.int z2_s0)]))
  refine Goes.go (fun _ k => XS.istore X0.here hx rfl (hb hby at_26) rfl (l' := #[.val (.long q0), .second, .val (.long q1), .second, .val (.long q2), .second, .val (.long q3), .second, .val (.long q4), .second, .val (.int p5), .val (.int z1_s0), .val (.int z2_s0), .unset, .unset, .unset, .unset, .unset, .unset, .unset, .unset, .unset, .unset, .unset, .unset, .unset, .unset, .unset, .unset]) rfl k) ?_
  show Goes p e below s _ _ _ (s₁.setTop (mkF m 28 #[.val (.long q0), .second, .val (.long q1), .second, .val (.long q2), .second, .val (.long q3), .second, .val (.long q4), .second, .val (.int p5), .val (.int z1_s0), .val (.int z2_s0), .unset, .unset, .unset, .unset, .unset, .unset, .unset, .unset, .unset, .unset, .unset, .unset, .unset, .unset, .unset, .unset] []))
  refine Goes.go (fun _ k => XS.iload X0.here hx rfl (hb hby at_28) rfl  k) ?_
  show Goes p e below s _ _ _ (s₁.setTop (mkF m 30 #[.val (.long q0), .second, .val (.long q1), .second, .val (.long q2), .second, .val (.long q3), .second, .val (.long q4), .second, .val (.int p5), .val (.int z1_s0), .val (.int z2_s0), .unset, .unset, .unset, .unset, .unset, .unset, .unset, .unset, .unset, .unset, .unset, .unset, .unset, .unset, .unset, .unset] [(.int p5)]))
  refine Goes.go (fun _ k => XS.iconst X0.here hx rfl (hb hby at_30) k) ?_
  show Goes p e below s _ _ _ (s₁.setTop (mkF m 31 #[.val (.long q0), .second, .val (.long q1), .second, .val (.long q2), .second, .val (.long q3), .second, .val (.long q4), .second, .val (.int p5), .val (.int z1_s0), .val (.int z2_s0), .unset, .unset, .unset, .unset, .unset, .unset, .unset, .unset, .unset, .unset, .unset, .unset, .unset, .unset, .unset, .unset] [(.int (4 : Int32)), (.int p5)]))
  refine Goes.go (fun _ k => XS.iand X0.here hx rfl (hb hby at_31) rfl k) ?_
  show Goes p e below s _ _ _ (s₁.setTop (mkF m 32 #[.val (.long q0), .second, .val (.long q1), .second, .val (.long q2), .second, .val (.long q3), .second, .val (.long q4), .second, .val (.int p5), .val (.int z1_s0), .val (.int z2_s0), .unset, .unset, .unset, .unset, .unset, .unset, .unset, .unset, .unset, .unset, .unset, .unset, .unset, .unset, .unset, .unset] [(.int (p5 &&& (4 : Int32)))]))
  obtain ⟨z3_s0, hz3_s0⟩ : ∃ z : Int64, z = if (p5 &&& (4 : Int32)) = (0 : Int32) then q0 else q4 := ⟨_, rfl⟩
  have sm3 : ∀ t, Steps p.tables e below (s₁.setTop (mkF m 41 #[.val (.long q0), .second, .val (.long q1), .second, .val (.long q2), .second, .val (.long q3), .second, .val (.long q4), .second, .val (.int p5), .val (.int z1_s0), .val (.int z2_s0), .unset, .unset, .unset, .unset, .unset, .unset, .unset, .unset, .unset, .unset, .unset, .unset, .unset, .unset, .unset, .unset] [(.long z3_s0)])) t → Steps p.tables e below (s₁.setTop (mkF m 32 #[.val (.long q0), .second, .val (.long q1), .second, .val (.long q2), .second, .val (.long q3), .second, .val (.long q4), .second, .val (.int p5), .val (.int z1_s0), .val (.int z2_s0), .unset, .unset, .unset, .unset, .unset, .unset, .unset, .unset, .unset, .unset, .unset, .unset, .unset, .unset, .unset, .unset] [(.int (p5 &&& (4 : Int32)))])) t := by
    intro t k
    by_cases hc32_3 : (p5 &&& (4 : Int32)) = (0 : Int32)
    · have k2 : Steps p.tables e below (s₁.setTop (mkF m 41 #[.val (.long q0), .second, .val (.long q1), .second, .val (.long q2), .second, .val (.long q3), .second, .val (.long q4), .second, .val (.int p5), .val (.int z1_s0), .val (.int z2_s0), .unset, .unset, .unset, .unset, .unset, .unset, .unset, .unset, .unset, .unset, .unset, .unset, .unset, .unset, .unset, .unset] [(.long q0)])) t := by simpa only [hz3_s0, if_pos hc32_3] using k
      show Steps p.tables e below (s₁.setTop (mkF m 32 #[.val (.long q0), .second, .val (.long q1), .second, .val (.long q2), .second, .val (.long q3), .second, .val (.long q4), .second, .val (.int p5), .val (.int z1_s0), .val (.int z2_s0), .unset, .unset, .unset, .unset, .unset, .unset, .unset, .unset, .unset, .unset, .unset, .unset, .unset, .unset, .unset, .unset] [(.int (p5 &&& (4 : Int32)))])) _
      refine XS.ifYes X0.here hx rfl (pc0 := 32) (pc' := 40) rfl (hb hby at_32) rfl ((if0 _ _).trans (teq hc32_3).1) (by decide) (by decide) ?_
      show Steps p.tables e below (s₁.setTop (mkF m 40 #[.val (.long q0), .second, .val (.long q1), .second, .val (.long q2), .second, .val (.long q3), .second, .val (.long q4), .second, .val (.int p5), .val (.int z1_s0), .val (.int z2_s0), .unset, .unset, .unset, .unset, .unset, .unset, .unset, .unset, .unset, .unset, .unset, .unset, .unset, .unset, .unset, .unset] [])) _
      refine XS.lloadN X0.here hx rfl (hb hby at_40) rfl  ?_
      exact k2
    · have k2 : Steps p.tables e below (s₁.setTop (mkF m 41 #[.val (.long q0), .second, .val (.long q1), .second, .val (.long q2), .second, .val (.long q3), .second, .val (.long q4), .second, .val (.int p5), .val (.int z1_s0), .val (.int z2_s0), .unset, .unset, .unset, .unset, .unset, .unset, .unset, .unset, .unset, .unset, .unset, .unset, .unset, .unset, .unset, .unset] [(.long q4)])) t := by simpa only [hz3_s0, if_neg hc32_3] using k
      show Steps p.tables e below (s₁.setTop (mkF m 32 #[.val (.long q0), .second, .val (.long q1), .second, .val (.long q2), .second, .val (.long q3), .second, .val (.long q4), .second, .val (.int p5), .val (.int z1_s0), .val (.int z2_s0), .unset, .unset, .unset, .unset, .unset, .unset, .unset, .unset, .unset, .unset, .unset, .unset, .unset, .unset, .unset, .unset] [(.int (p5 &&& (4 : Int32)))])) _
      refine XS.ifNo X0.here hx rfl (hb hby at_32) rfl ((if0 _ _).trans (feq hc32_3).1) ?_
      show Steps p.tables e below (s₁.setTop (mkF m 35 #[.val (.long q0), .second, .val (.long q1), .second, .val (.long q2), .second, .val (.long q3), .second, .val (.long q4), .second, .val (.int p5), .val (.int z1_s0), .val (.int z2_s0), .unset, .unset, .unset, .unset, .unset, .unset, .unset, .unset, .unset, .unset, .unset, .unset, .unset, .unset, .unset, .unset] [])) _
      refine XS.lload X0.here hx rfl (hb hby at_35) rfl  ?_
      show Steps p.tables e below (s₁.setTop (mkF m 37 #[.val (.long q0), .second, .val (.long q1), .second, .val (.long q2), .second, .val (.long q3), .second, .val (.long q4), .second, .val (.int p5), .val (.int z1_s0), .val (.int z2_s0), .unset, .unset, .unset, .unset, .unset, .unset, .unset, .unset, .unset, .unset, .unset, .unset, .unset, .unset, .unset, .unset] [(.long q4)])) _
      refine XS.goto X0.here hx rfl (pc0 := 37) (pc' := 41) rfl (hb hby at_37) (by decide) (by decide) ?_
      exact k2
  refine Goes.go sm3 ?_
  show Goes p e below s _ _ _ (s₁.setTop (mkF m 41 #[.val (.long q0), .second, .val (.long q1), .second, .val (.long q2), .second, .val (.long q3), .second, .val (.long q4), .second, .val (.int p5), .val (.int z1_s0), .val (.int z2_s0), .unset, .unset, .unset, .unset, .unset, .unset, .unset, .unset, .unset, .unset, .unset, .unset, .unset, .unset, .unset, .unset] [(.long z3_s0)]))
  refine Goes.go (fun _ k => XS.lstore X0.here hx rfl (hb hby at_41) rfl (l' := #[.val (.long q0), .second, .val (.long q1), .second, .val (.long q2), .second, .val (.long q3), .second, .val (.long q4), .second, .val (.int p5), .val (.int z1_s0), .val (.int z2_s0), .val (.long z3_s0), .second, .unset, .unset, .unset, .unset, .unset, .unset, .unset, .unset, .unset, .unset, .unset, .unset, .unset, .unset]) rfl k) ?_
  show Goes p e below s _ _ _ (s₁.setTop (mkF m 43 #[.val (.long q0), .second, .val (.long q1), .second, .val (.long q2), .second, .val (.long q3), .second, .val (.long q4), .second, .val (.int p5), .val (.int z1_s0), .val (.int z2_s0), .val (.long z3_s0), .second, .unset, .unset, .unset, .unset, .unset, .unset, .unset, .unset, .unset, .unset, .unset, .unset, .unset, .unset] []))
  refine Goes.go (fun _ k => XS.iload X0.here hx rfl (hb hby at_43) rfl  k) ?_
  show Goes p e below s _ _ _ (s₁.setTop (mkF m 45 #[.val (.long q0), .second, .val (.long q1), .second, .val (.long q2), .second, .val (.long q3), .second, .val (.long q4), .second, .val (.int p5), .val (.int z1_s0), .val (.int z2_s0), .val (.long z3_s0), .second, .unset, .unset, .unset, .unset, .unset, .unset, .unset, .unset, .unset, .unset, .unset, .unset, .unset, .unset] [(.int p5)]))
  refine Goes.go (fun _ k => XS.bipush X0.here hx rfl (hb hby at_45) k) ?_
  show Goes p e below s _ _ _ (s₁.setTop (mkF m 47 #[.val (.long q0), .second, .val (.long q1), .second, .val (.long q2), .second, .val (.long q3), .second, .val (.long q4), .second, .val (.int p5), .val (.int z1_s0), .val (.int z2_s0), .val (.long z3_s0), .second, .unset, .unset, .unset, .unset, .unset, .unset, .unset, .unset, .unset, .unset, .unset, .unset, .unset, .unset] [(.int (8 : Int32)), (.int p5)]))
  refine Goes.go (fun _ k => XS.iand X0.here hx rfl (hb hby at_47) rfl k) ?_
  show Goes p e below s _ _ _ (s₁.setTop (mkF m 48 #[.val (.long q0), .second, .val (.long q1), .second, .val (.long q2), .second, .val (.long q3), .second, .val (.long q4), .second, .val (.int p5), .val (.int z1_s0), .val (.int z2_s0), .val (.long z3_s0), .second, .unset, .unset, .unset, .unset, .unset, .unset, .unset, .unset, .unset, .unset, .unset, .unset, .unset, .unset] [(.int (p5 &&& (8 : Int32)))]))
  obtain ⟨z4_s0, hz4_s0⟩ : ∃ z : Int64, z = if (p5 &&& (8 : Int32)) = (0 : Int32) then q1 else q4 := ⟨_, rfl⟩
  have sm4 : ∀ t, Steps p.tables e below (s₁.setTop (mkF m 57 #[.val (.long q0), .second, .val (.long q1), .second, .val (.long q2), .second, .val (.long q3), .second, .val (.long q4), .second, .val (.int p5), .val (.int z1_s0), .val (.int z2_s0), .val (.long z3_s0), .second, .unset, .unset, .unset, .unset, .unset, .unset, .unset, .unset, .unset, .unset, .unset, .unset, .unset, .unset] [(.long z4_s0)])) t → Steps p.tables e below (s₁.setTop (mkF m 48 #[.val (.long q0), .second, .val (.long q1), .second, .val (.long q2), .second, .val (.long q3), .second, .val (.long q4), .second, .val (.int p5), .val (.int z1_s0), .val (.int z2_s0), .val (.long z3_s0), .second, .unset, .unset, .unset, .unset, .unset, .unset, .unset, .unset, .unset, .unset, .unset, .unset, .unset, .unset] [(.int (p5 &&& (8 : Int32)))])) t := by
    intro t k
    by_cases hc48_4 : (p5 &&& (8 : Int32)) = (0 : Int32)
    · have k2 : Steps p.tables e below (s₁.setTop (mkF m 57 #[.val (.long q0), .second, .val (.long q1), .second, .val (.long q2), .second, .val (.long q3), .second, .val (.long q4), .second, .val (.int p5), .val (.int z1_s0), .val (.int z2_s0), .val (.long z3_s0), .second, .unset, .unset, .unset, .unset, .unset, .unset, .unset, .unset, .unset, .unset, .unset, .unset, .unset, .unset] [(.long q1)])) t := by simpa only [hz4_s0, if_pos hc48_4] using k
      show Steps p.tables e below (s₁.setTop (mkF m 48 #[.val (.long q0), .second, .val (.long q1), .second, .val (.long q2), .second, .val (.long q3), .second, .val (.long q4), .second, .val (.int p5), .val (.int z1_s0), .val (.int z2_s0), .val (.long z3_s0), .second, .unset, .unset, .unset, .unset, .unset, .unset, .unset, .unset, .unset, .unset, .unset, .unset, .unset, .unset] [(.int (p5 &&& (8 : Int32)))])) _
      refine XS.ifYes X0.here hx rfl (pc0 := 48) (pc' := 56) rfl (hb hby at_48) rfl ((if0 _ _).trans (teq hc48_4).1) (by decide) (by decide) ?_
      show Steps p.tables e below (s₁.setTop (mkF m 56 #[.val (.long q0), .second, .val (.long q1), .second, .val (.long q2), .second, .val (.long q3), .second, .val (.long q4), .second, .val (.int p5), .val (.int z1_s0), .val (.int z2_s0), .val (.long z3_s0), .second, .unset, .unset, .unset, .unset, .unset, .unset, .unset, .unset, .unset, .unset, .unset, .unset, .unset, .unset] [])) _
      refine XS.lloadN X0.here hx rfl (hb hby at_56) rfl  ?_
      exact k2
    · have k2 : Steps p.tables e below (s₁.setTop (mkF m 57 #[.val (.long q0), .second, .val (.long q1), .second, .val (.long q2), .second, .val (.long q3), .second, .val (.long q4), .second, .val (.int p5), .val (.int z1_s0), .val (.int z2_s0), .val (.long z3_s0), .second, .unset, .unset, .unset, .unset, .unset, .unset, .unset, .unset, .unset, .unset, .unset, .unset, .unset, .unset] [(.long q4)])) t := by simpa only [hz4_s0, if_neg hc48_4] using k
      show Steps p.tables e below (s₁.setTop (mkF m 48 #[.val (.long q0), .second, .val (.long q1), .second, .val (.long q2), .second, .val (.long q3), .second, .val (.long q4), .second, .val (.int p5), .val (.int z1_s0), .val (.int z2_s0), .val (.long z3_s0), .second, .unset, .unset, .unset, .unset, .unset, .unset, .unset, .unset, .unset, .unset, .unset, .unset, .unset, .unset] [(.int (p5 &&& (8 : Int32)))])) _
      refine XS.ifNo X0.here hx rfl (hb hby at_48) rfl ((if0 _ _).trans (feq hc48_4).1) ?_
      show Steps p.tables e below (s₁.setTop (mkF m 51 #[.val (.long q0), .second, .val (.long q1), .second, .val (.long q2), .second, .val (.long q3), .second, .val (.long q4), .second, .val (.int p5), .val (.int z1_s0), .val (.int z2_s0), .val (.long z3_s0), .second, .unset, .unset, .unset, .unset, .unset, .unset, .unset, .unset, .unset, .unset, .unset, .unset, .unset, .unset] [])) _
      refine XS.lload X0.here hx rfl (hb hby at_51) rfl  ?_
      show Steps p.tables e below (s₁.setTop (mkF m 53 #[.val (.long q0), .second, .val (.long q1), .second, .val (.long q2), .second, .val (.long q3), .second, .val (.long q4), .second, .val (.int p5), .val (.int z1_s0), .val (.int z2_s0), .val (.long z3_s0), .second, .unset, .unset, .unset, .unset, .unset, .unset, .unset, .unset, .unset, .unset, .unset, .unset, .unset, .unset] [(.long q4)])) _
      refine XS.goto X0.here hx rfl (pc0 := 53) (pc' := 57) rfl (hb hby at_53) (by decide) (by decide) ?_
      exact k2
  refine Goes.go sm4 ?_
  show Goes p e below s _ _ _ (s₁.setTop (mkF m 57 #[.val (.long q0), .second, .val (.long q1), .second, .val (.long q2), .second, .val (.long q3), .second, .val (.long q4), .second, .val (.int p5), .val (.int z1_s0), .val (.int z2_s0), .val (.long z3_s0), .second, .unset, .unset, .unset, .unset, .unset, .unset, .unset, .unset, .unset, .unset, .unset, .unset, .unset, .unset] [(.long z4_s0)]))
  refine Goes.go (fun _ k => XS.lstore X0.here hx rfl (hb hby at_57) rfl (l' := #[.val (.long q0), .second, .val (.long q1), .second, .val (.long q2), .second, .val (.long q3), .second, .val (.long q4), .second, .val (.int p5), .val (.int z1_s0), .val (.int z2_s0), .val (.long z3_s0), .second, .val (.long z4_s0), .second, .unset, .unset, .unset, .unset, .unset, .unset, .unset, .unset, .unset, .unset, .unset, .unset]) rfl k) ?_
  show Goes p e below s _ _ _ (s₁.setTop (mkF m 59 #[.val (.long q0), .second, .val (.long q1), .second, .val (.long q2), .second, .val (.long q3), .second, .val (.long q4), .second, .val (.int p5), .val (.int z1_s0), .val (.int z2_s0), .val (.long z3_s0), .second, .val (.long z4_s0), .second, .unset, .unset, .unset, .unset, .unset, .unset, .unset, .unset, .unset, .unset, .unset, .unset] []))
  refine Goes.go (fun _ k => XS.iload X0.here hx rfl (hb hby at_59) rfl  k) ?_
  show Goes p e below s _ _ _ (s₁.setTop (mkF m 61 #[.val (.long q0), .second, .val (.long q1), .second, .val (.long q2), .second, .val (.long q3), .second, .val (.long q4), .second, .val (.int p5), .val (.int z1_s0), .val (.int z2_s0), .val (.long z3_s0), .second, .val (.long z4_s0), .second, .unset, .unset, .unset, .unset, .unset, .unset, .unset, .unset, .unset, .unset, .unset, .unset] [(.int p5)]))
  refine Goes.go (fun _ k => XS.bipush X0.here hx rfl (hb hby at_61) k) ?_
  show Goes p e below s _ _ _ (s₁.setTop (mkF m 63 #[.val (.long q0), .second, .val (.long q1), .second, .val (.long q2), .second, .val (.long q3), .second, .val (.long q4), .second, .val (.int p5), .val (.int z1_s0), .val (.int z2_s0), .val (.long z3_s0), .second, .val (.long z4_s0), .second, .unset, .unset, .unset, .unset, .unset, .unset, .unset, .unset, .unset, .unset, .unset, .unset] [(.int (16 : Int32)), (.int p5)]))
  refine Goes.go (fun _ k => XS.iand X0.here hx rfl (hb hby at_63) rfl k) ?_
  show Goes p e below s _ _ _ (s₁.setTop (mkF m 64 #[.val (.long q0), .second, .val (.long q1), .second, .val (.long q2), .second, .val (.long q3), .second, .val (.long q4), .second, .val (.int p5), .val (.int z1_s0), .val (.int z2_s0), .val (.long z3_s0), .second, .val (.long z4_s0), .second, .unset, .unset, .unset, .unset, .unset, .unset, .unset, .unset, .unset, .unset, .unset, .unset] [(.int (p5 &&& (16 : Int32)))]))
  obtain ⟨z5_s0, hz5_s0⟩ : ∃ z : Int64, z = if (p5 &&& (16 : Int32)) = (0 : Int32) then q2 else q4 := ⟨_, rfl⟩
  have sm5 : ∀ t, Steps p.tables e below (s₁.setTop (mkF m 74 #[.val (.long q0), .second, .val (.long q1), .second, .val (.long q2), .second, .val (.long q3), .second, .val (.long q4), .second, .val (.int p5), .val (.int z1_s0), .val (.int z2_s0), .val (.long z3_s0), .second, .val (.long z4_s0), .second, .unset, .unset, .unset, .unset, .unset, .unset, .unset, .unset, .unset, .unset, .unset, .unset] [(.long z5_s0)])) t → Steps p.tables e below (s₁.setTop (mkF m 64 #[.val (.long q0), .second, .val (.long q1), .second, .val (.long q2), .second, .val (.long q3), .second, .val (.long q4), .second, .val (.int p5), .val (.int z1_s0), .val (.int z2_s0), .val (.long z3_s0), .second, .val (.long z4_s0), .second, .unset, .unset, .unset, .unset, .unset, .unset, .unset, .unset, .unset, .unset, .unset, .unset] [(.int (p5 &&& (16 : Int32)))])) t := by
    intro t k
    by_cases hc64_5 : (p5 &&& (16 : Int32)) = (0 : Int32)
    · have k2 : Steps p.tables e below (s₁.setTop (mkF m 74 #[.val (.long q0), .second, .val (.long q1), .second, .val (.long q2), .second, .val (.long q3), .second, .val (.long q4), .second, .val (.int p5), .val (.int z1_s0), .val (.int z2_s0), .val (.long z3_s0), .second, .val (.long z4_s0), .second, .unset, .unset, .unset, .unset, .unset, .unset, .unset, .unset, .unset, .unset, .unset, .unset] [(.long q2)])) t := by simpa only [hz5_s0, if_pos hc64_5] using k
      show Steps p.tables e below (s₁.setTop (mkF m 64 #[.val (.long q0), .second, .val (.long q1), .second, .val (.long q2), .second, .val (.long q3), .second, .val (.long q4), .second, .val (.int p5), .val (.int z1_s0), .val (.int z2_s0), .val (.long z3_s0), .second, .val (.long z4_s0), .second, .unset, .unset, .unset, .unset, .unset, .unset, .unset, .unset, .unset, .unset, .unset, .unset] [(.int (p5 &&& (16 : Int32)))])) _
      refine XS.ifYes X0.here hx rfl (pc0 := 64) (pc' := 72) rfl (hb hby at_64) rfl ((if0 _ _).trans (teq hc64_5).1) (by decide) (by decide) ?_
      show Steps p.tables e below (s₁.setTop (mkF m 72 #[.val (.long q0), .second, .val (.long q1), .second, .val (.long q2), .second, .val (.long q3), .second, .val (.long q4), .second, .val (.int p5), .val (.int z1_s0), .val (.int z2_s0), .val (.long z3_s0), .second, .val (.long z4_s0), .second, .unset, .unset, .unset, .unset, .unset, .unset, .unset, .unset, .unset, .unset, .unset, .unset] [])) _
      refine XS.lload X0.here hx rfl (hb hby at_72) rfl  ?_
      exact k2
    · have k2 : Steps p.tables e below (s₁.setTop (mkF m 74 #[.val (.long q0), .second, .val (.long q1), .second, .val (.long q2), .second, .val (.long q3), .second, .val (.long q4), .second, .val (.int p5), .val (.int z1_s0), .val (.int z2_s0), .val (.long z3_s0), .second, .val (.long z4_s0), .second, .unset, .unset, .unset, .unset, .unset, .unset, .unset, .unset, .unset, .unset, .unset, .unset] [(.long q4)])) t := by simpa only [hz5_s0, if_neg hc64_5] using k
      show Steps p.tables e below (s₁.setTop (mkF m 64 #[.val (.long q0), .second, .val (.long q1), .second, .val (.long q2), .second, .val (.long q3), .second, .val (.long q4), .second, .val (.int p5), .val (.int z1_s0), .val (.int z2_s0), .val (.long z3_s0), .second, .val (.long z4_s0), .second, .unset, .unset, .unset, .unset, .unset, .unset, .unset, .unset, .unset, .unset, .unset, .unset] [(.int (p5 &&& (16 : Int32)))])) _
      refine XS.ifNo X0.here hx rfl (hb hby at_64) rfl ((if0 _ _).trans (feq hc64_5).1) ?_
      show Steps p.tables e below (s₁.setTop (mkF m 67 #[.val (.long q0), .second, .val (.long q1), .second, .val (.long q2), .second, .val (.long q3), .second, .val (.long q4), .second, .val (.int p5), .val (.int z1_s0), .val (.int z2_s0), .val (.long z3_s0), .second, .val (.long z4_s0), .second, .unset, .unset, .unset, .unset, .unset, .unset, .unset, .unset, .unset, .unset, .unset, .unset] [])) _
      refine XS.lload X0.here hx rfl (hb hby at_67) rfl  ?_
      show Steps p.tables e below (s₁.setTop (mkF m 69 #[.val (.long q0), .second, .val (.long q1), .second, .val (.long q2), .second, .val (.long q3), .second, .val (.long q4), .second, .val (.int p5), .val (.int z1_s0), .val (.int z2_s0), .val (.long z3_s0), .second, .val (.long z4_s0), .second, .unset, .unset, .unset, .unset, .unset, .unset, .unset, .unset, .unset, .unset, .unset, .unset] [(.long q4)])) _
      refine XS.goto X0.here hx rfl (pc0 := 69) (pc' := 74) rfl (hb hby at_69) (by decide) (by decide) ?_
      exact k2
  refine Goes.go sm5 ?_
  show Goes p e below s _ _ _ (s₁.setTop (mkF m 74 #[.val (.long q0), .second, .val (.long q1), .second, .val (.long q2), .second, .val (.long q3), .second, .val (.long q4), .second, .val (.int p5), .val (.int z1_s0), .val (.int z2_s0), .val (.long z3_s0), .second, .val (.long z4_s0), .second, .unset, .unset, .unset, .unset, .unset, .unset, .unset, .unset, .unset, .unset, .unset, .unset] [(.long z5_s0)]))
  refine Goes.go (fun _ k => XS.lstore X0.here hx rfl (hb hby at_74) rfl (l' := #[.val (.long q0), .second, .val (.long q1), .second, .val (.long q2), .second, .val (.long q3), .second, .val (.long q4), .second, .val (.int p5), .val (.int z1_s0), .val (.int z2_s0), .val (.long z3_s0), .second, .val (.long z4_s0), .second, .val (.long z5_s0), .second, .unset, .unset, .unset, .unset, .unset, .unset, .unset, .unset, .unset, .unset]) rfl k) ?_
  show Goes p e below s _ _ _ (s₁.setTop (mkF m 76 #[.val (.long q0), .second, .val (.long q1), .second, .val (.long q2), .second, .val (.long q3), .second, .val (.long q4), .second, .val (.int p5), .val (.int z1_s0), .val (.int z2_s0), .val (.long z3_s0), .second, .val (.long z4_s0), .second, .val (.long z5_s0), .second, .unset, .unset, .unset, .unset, .unset, .unset, .unset, .unset, .unset, .unset] []))
  refine Goes.go (fun _ k => XS.iload X0.here hx rfl (hb hby at_76) rfl  k) ?_
  show Goes p e below s _ _ _ (s₁.setTop (mkF m 78 #[.val (.long q0), .second, .val (.long q1), .second, .val (.long q2), .second, .val (.long q3), .second, .val (.long q4), .second, .val (.int p5), .val (.int z1_s0), .val (.int z2_s0), .val (.long z3_s0), .second, .val (.long z4_s0), .second, .val (.long z5_s0), .second, .unset, .unset, .unset, .unset, .unset, .unset, .unset, .unset, .unset, .unset] [(.int p5)]))
  refine Goes.go (fun _ k => XS.bipush X0.here hx rfl (hb hby at_78) k) ?_
  show Goes p e below s _ _ _ (s₁.setTop (mkF m 80 #[.val (.long q0), .second, .val (.long q1), .second, .val (.long q2), .second, .val (.long q3), .second, .val (.long q4), .second, .val (.int p5), .val (.int z1_s0), .val (.int z2_s0), .val (.long z3_s0), .second, .val (.long z4_s0), .second, .val (.long z5_s0), .second, .unset, .unset, .unset, .unset, .unset, .unset, .unset, .unset, .unset, .unset] [(.int (32 : Int32)), (.int p5)]))
  refine Goes.go (fun _ k => XS.iand X0.here hx rfl (hb hby at_80) rfl k) ?_
  show Goes p e below s _ _ _ (s₁.setTop (mkF m 81 #[.val (.long q0), .second, .val (.long q1), .second, .val (.long q2), .second, .val (.long q3), .second, .val (.long q4), .second, .val (.int p5), .val (.int z1_s0), .val (.int z2_s0), .val (.long z3_s0), .second, .val (.long z4_s0), .second, .val (.long z5_s0), .second, .unset, .unset, .unset, .unset, .unset, .unset, .unset, .unset, .unset, .unset] [(.int (p5 &&& (32 : Int32)))]))
  obtain ⟨z6_s0, hz6_s0⟩ : ∃ z : Int64, z = if (p5 &&& (32 : Int32)) = (0 : Int32) then q3 else q4 := ⟨_, rfl⟩
  have sm6 : ∀ t, Steps p.tables e below (s₁.setTop (mkF m 91 #[.val (.long q0), .second, .val (.long q1), .second, .val (.long q2), .second, .val (.long q3), .second, .val (.long q4), .second, .val (.int p5), .val (.int z1_s0), .val (.int z2_s0), .val (.long z3_s0), .second, .val (.long z4_s0), .second, .val (.long z5_s0), .second, .unset, .unset, .unset, .unset, .unset, .unset, .unset, .unset, .unset, .unset] [(.long z6_s0)])) t → Steps p.tables e below (s₁.setTop (mkF m 81 #[.val (.long q0), .second, .val (.long q1), .second, .val (.long q2), .second, .val (.long q3), .second, .val (.long q4), .second, .val (.int p5), .val (.int z1_s0), .val (.int z2_s0), .val (.long z3_s0), .second, .val (.long z4_s0), .second, .val (.long z5_s0), .second, .unset, .unset, .unset, .unset, .unset, .unset, .unset, .unset, .unset, .unset] [(.int (p5 &&& (32 : Int32)))])) t := by
    intro t k
    by_cases hc81_6 : (p5 &&& (32 : Int32)) = (0 : Int32)
    · have k2 : Steps p.tables e below (s₁.setTop (mkF m 91 #[.val (.long q0), .second, .val (.long q1), .second, .val (.long q2), .second, .val (.long q3), .second, .val (.long q4), .second, .val (.int p5), .val (.int z1_s0), .val (.int z2_s0), .val (.long z3_s0), .second, .val (.long z4_s0), .second, .val (.long z5_s0), .second, .unset, .unset, .unset, .unset, .unset, .unset, .unset, .unset, .unset, .unset] [(.long q3)])) t := by simpa only [hz6_s0, if_pos hc81_6] using k
      show Steps p.tables e below (s₁.setTop (mkF m 81 #[.val (.long q0), .second, .val (.long q1), .second, .val (.long q2), .second, .val (.long q3), .second, .val (.long q4), .second, .val (.int p5), .val (.int z1_s0), .val (.int z2_s0), .val (.long z3_s0), .second, .val (.long z4_s0), .second, .val (.long z5_s0), .second, .unset, .unset, .unset, .unset, .unset, .unset, .unset, .unset, .unset, .unset] [(.int (p5 &&& (32 : Int32)))])) _
      refine XS.ifYes X0.here hx rfl (pc0 := 81) (pc' := 89) rfl (hb hby at_81) rfl ((if0 _ _).trans (teq hc81_6).1) (by decide) (by decide) ?_
      show Steps p.tables e below (s₁.setTop (mkF m 89 #[.val (.long q0), .second, .val (.long q1), .second, .val (.long q2), .second, .val (.long q3), .second, .val (.long q4), .second, .val (.int p5), .val (.int z1_s0), .val (.int z2_s0), .val (.long z3_s0), .second, .val (.long z4_s0), .second, .val (.long z5_s0), .second, .unset, .unset, .unset, .unset, .unset, .unset, .unset, .unset, .unset, .unset] [])) _
      refine XS.lload X0.here hx rfl (hb hby at_89) rfl  ?_
      exact k2
    · have k2 : Steps p.tables e below (s₁.setTop (mkF m 91 #[.val (.long q0), .second, .val (.long q1), .second, .val (.long q2), .second, .val (.long q3), .second, .val (.long q4), .second, .val (.int p5), .val (.int z1_s0), .val (.int z2_s0), .val (.long z3_s0), .second, .val (.long z4_s0), .second, .val (.long z5_s0), .second, .unset, .unset, .unset, .unset, .unset, .unset, .unset, .unset, .unset, .unset] [(.long q4)])) t := by simpa only [hz6_s0, if_neg hc81_6] using k
      show Steps p.tables e below (s₁.setTop (mkF m 81 #[.val (.long q0), .second, .val (.long q1), .second, .val (.long q2), .second, .val (.long q3), .second, .val (.long q4), .second, .val (.int p5), .val (.int z1_s0), .val (.int z2_s0), .val (.long z3_s0), .second, .val (.long z4_s0), .second, .val (.long z5_s0), .second, .unset, .unset, .unset, .unset, .unset, .unset, .unset, .unset, .unset, .unset] [(.int (p5 &&& (32 : Int32)))])) _
      refine XS.ifNo X0.here hx rfl (hb hby at_81) rfl ((if0 _ _).trans (feq hc81_6).1) ?_
      show Steps p.tables e below (s₁.setTop (mkF m 84 #[.val (.long q0), .second, .val (.long q1), .second, .val (.long q2), .second, .val (.long q3), .second, .val (.long q4), .second, .val (.int p5), .val (.int z1_s0), .val (.int z2_s0), .val (.long z3_s0), .second, .val (.long z4_s0), .second, .val (.long z5_s0), .second, .unset, .unset, .unset, .unset, .unset, .unset, .unset, .unset, .unset, .unset] [])) _
      refine XS.lload X0.here hx rfl (hb hby at_84) rfl  ?_
      show Steps p.tables e below (s₁.setTop (mkF m 86 #[.val (.long q0), .second, .val (.long q1), .second, .val (.long q2), .second, .val (.long q3), .second, .val (.long q4), .second, .val (.int p5), .val (.int z1_s0), .val (.int z2_s0), .val (.long z3_s0), .second, .val (.long z4_s0), .second, .val (.long z5_s0), .second, .unset, .unset, .unset, .unset, .unset, .unset, .unset, .unset, .unset, .unset] [(.long q4)])) _
      refine XS.goto X0.here hx rfl (pc0 := 86) (pc' := 91) rfl (hb hby at_86) (by decide) (by decide) ?_
      exact k2
  refine Goes.go sm6 ?_
  show Goes p e below s _ _ _ (s₁.setTop (mkF m 91 #[.val (.long q0), .second, .val (.long q1), .second, .val (.long q2), .second, .val (.long q3), .second, .val (.long q4), .second, .val (.int p5), .val (.int z1_s0), .val (.int z2_s0), .val (.long z3_s0), .second, .val (.long z4_s0), .second, .val (.long z5_s0), .second, .unset, .unset, .unset, .unset, .unset, .unset, .unset, .unset, .unset, .unset] [(.long z6_s0)]))
  refine Goes.go (fun _ k => XS.lstore X0.here hx rfl (hb hby at_91) rfl (l' := #[.val (.long q0), .second, .val (.long q1), .second, .val (.long q2), .second, .val (.long q3), .second, .val (.long q4), .second, .val (.int p5), .val (.int z1_s0), .val (.int z2_s0), .val (.long z3_s0), .second, .val (.long z4_s0), .second, .val (.long z5_s0), .second, .val (.long z6_s0), .second, .unset, .unset, .unset, .unset, .unset, .unset, .unset, .unset]) rfl k) ?_
  show Goes p e below s _ _ _ (s₁.setTop (mkF m 93 #[.val (.long q0), .second, .val (.long q1), .second, .val (.long q2), .second, .val (.long q3), .second, .val (.long q4), .second, .val (.int p5), .val (.int z1_s0), .val (.int z2_s0), .val (.long z3_s0), .second, .val (.long z4_s0), .second, .val (.long z5_s0), .second, .val (.long z6_s0), .second, .unset, .unset, .unset, .unset, .unset, .unset, .unset, .unset] []))
  obtain ⟨T7, h7, X7, e7, E7, A7, D7, -, st7⟩ := newO X0 hx hZ hown (hw _ (List.mem_of_getElem? (i := 0) rfl)) (hw _ (List.mem_of_getElem? (i := 1) rfl)) (hw _ (List.mem_of_getElem? (i := 2) rfl)) e0 (g := (mkF m 93 #[.val (.long q0), .second, .val (.long q1), .second, .val (.long q2), .second, .val (.long q3), .second, .val (.long q4), .second, .val (.int p5), .val (.int z1_s0), .val (.int z2_s0), .val (.long z3_s0), .second, .val (.long z4_s0), .second, .val (.long z5_s0), .second, .val (.long z6_s0), .second, .unset, .unset, .unset, .unset, .unset, .unset, .unset, .unset] [])) rfl (hb hby at_93) (by decide) (by decide)
  obtain ⟨b7, g7⟩ : ∃ z, z = h0.size := ⟨_, rfl⟩
  rw [← g7] at A7 D7 st7
  have gb7 : n0 ≤ b7 := Nat.le_trans Z0 (Nat.le_of_eq g7.symm)
  have sb7 : h0.size ≤ b7 := Nat.le_trans K0.1 (Nat.le_of_eq g7.symm)
  have Z7 := Nat.le_trans Z0 E7.1
  have K7 := Keep.ext K0 E7
  have F7_admitted : Fld Z h7 b7 "com/example/danaid/danaid/Decision" "admitted" "Z" (.int (0 : Int32)) := D7 (Or.inr (hw _ (List.mem_of_getElem? (i := 10) rfl))) (ty := .boolean) (by decide)
  have F7_permitsLeft : Fld Z h7 b7 "com/example/danaid/danaid/Decision" "permitsLeft" "J" (.long (0 : Int64)) := D7 (Or.inr (hw _ (List.mem_of_getElem? (i := 12) rfl))) (ty := .long) (by decide)
  have F7_retryAfterMillis : Fld Z h7 b7 "com/example/danaid/danaid/Decision" "retryAfterMillis" "J" (.long (0 : Int64)) := D7 (Or.inr (hw _ (List.mem_of_getElem? (i := 14) rfl))) (ty := .long) (by decide)
  have F7_resetMillis : Fld Z h7 b7 "com/example/danaid/danaid/Decision" "resetMillis" "J" (.long (0 : Int64)) := D7 (Or.inr (hw _ (List.mem_of_getElem? (i := 16) rfl))) (ty := .long) (by decide)
  have F7_proceedAfterMillis : Fld Z h7 b7 "com/example/danaid/danaid/Decision" "proceedAfterMillis" "J" (.long (0 : Int64)) := D7 (Or.inr (hw _ (List.mem_of_getElem? (i := 18) rfl))) (ty := .long) (by decide)
  refine Goes.go st7 ?_
  show Goes p e below s _ _ _ (T7.setTop (mkF m 96 #[.val (.long q0), .second, .val (.long q1), .second, .val (.long q2), .second, .val (.long q3), .second, .val (.long q4), .second, .val (.int p5), .val (.int z1_s0), .val (.int z2_s0), .val (.long z3_s0), .second, .val (.long z4_s0), .second, .val (.long z5_s0), .second, .val (.long z6_s0), .second, .unset, .unset, .unset, .unset, .unset, .unset, .unset, .unset] [(.ref b7)]))
  refine Goes.go (fun _ k => XS.dup X7.here hx rfl (hb hby at_96) rfl rfl k) ?_
  show Goes p e below s _ _ _ (T7.setTop (mkF m 97 #[.val (.long q0), .second, .val (.long q1), .second, .val (.long q2), .second, .val (.long q3), .second, .val (.long q4), .second, .val (.int p5), .val (.int z1_s0), .val (.int z2_s0), .val (.long z3_s0), .second, .val (.long z4_s0), .second, .val (.long z5_s0), .second, .val (.long z6_s0), .second, .unset, .unset, .unset, .unset, .unset, .unset, .unset, .unset] [(.ref b7), (.ref b7)]))
  refine Goes.go (fun _ k => XS.iload X7.here hx rfl (hb hby at_97) rfl  k) ?_
  show Goes p e below s _ _ _ (T7.setTop (mkF m 99 #[.val (.long q0), .second, .val (.long q1), .second, .val (.long q2), .second, .val (.long q3), .second, .val (.long q4), .second, .val (.int p5), .val (.int z1_s0), .val (.int z2_s0), .val (.long z3_s0), .second, .val (.long z4_s0), .second, .val (.long z5_s0), .second, .val (.long z6_s0), .second, .unset, .unset, .unset, .unset, .unset, .unset, .unset, .unset] [(.int z1_s0), (.ref b7), (.ref b7)]))
  refine Goes.go (fun _ k => XS.lloadN X7.here hx rfl (hb hby at_99) rfl  k) ?_
  show Goes p e below s _ _ _ (T7.setTop (mkF m 100 #[.val (.long q0), .second, .val (.long q1), .second, .val (.long q2), .second, .val (.long q3), .second, .val (.long q4), .second, .val (.int p5), .val (.int z1_s0), .val (.int z2_s0), .val (.long z3_s0), .second, .val (.long z4_s0), .second, .val (.long z5_s0), .second, .val (.long z6_s0), .second, .unset, .unset, .unset, .unset, .unset, .unset, .unset, .unset] [(.long q0), (.int z1_s0), (.ref b7), (.ref b7)]))
  refine Goes.go (fun _ k => XS.lloadN X7.here hx rfl (hb hby at_100) rfl  k) ?_
  show Goes p e below s _ _ _ (T7.setTop (mkF m 101 #[.val (.long q0), .second, .val (.long q1), .second, .val (.long q2), .second, .val (.long q3), .second, .val (.long q4), .second, .val (.int p5), .val (.int z1_s0), .val (.int z2_s0), .val (.long z3_s0), .second, .val (.long z4_s0), .second, .val (.long z5_s0), .second, .val (.long z6_s0), .second, .unset, .unset, .unset, .unset, .unset, .unset, .unset, .unset] [(.long q1), (.long q0), (.int z1_s0), (.ref b7), (.ref b7)]))
  refine Goes.go (fun _ k => XS.lload X7.here hx rfl (hb hby at_101) rfl  k) ?_
  show Goes p e below s _ _ _ (T7.setTop (mkF m 103 #[.val (.long q0), .second, .val (.long q1), .second, .val (.long q2), .second, .val (.long q3), .second, .val (.long q4), .second, .val (.int p5), .val (.int z1_s0), .val (.int z2_s0), .val (.long z3_s0), .second, .val (.long z4_s0), .second, .val (.long z5_s0), .second, .val (.long z6_s0), .second, .unset, .unset, .unset, .unset, .unset, .unset, .unset, .unset] [(.long q2), (.long q1), (.long q0), (.int z1_s0), (.ref b7), (.ref b7)]))
  refine Goes.go (fun _ k => XS.lload X7.here hx rfl (hb hby at_103) rfl  k) ?_
  show Goes p e below s _ _ _ (T7.setTop (mkF m 105 #[.val (.long q0), .second, .val (.long q1), .second, .val (.long q2), .second, .val (.long q3), .second, .val (.long q4), .second, .val (.int p5), .val (.int z1_s0), .val (.int z2_s0), .val (.long z3_s0), .second, .val (.long z4_s0), .second, .val (.long z5_s0), .second, .val (.long z6_s0), .second, .unset, .unset, .unset, .unset, .unset, .unset, .unset, .unset] [(.long q3), (.long q2), (.long q1), (.long q0), (.int z1_s0), (.ref b7), (.ref b7)]))
  obtain ⟨_, _, ⟨T8, L8, k8, n8⟩, -, X8, ⟨Lc8, hQ8, l8, y8, z8⟩, st8⟩ := X7.specialBack hx (y := (⟨"com/example/danaid/danaid/Decision", "<init>", "(ZJJJJ)V"⟩ : MethodName)) rfl hown (mvT hZ (hw _ (List.mem_of_getElem? (i := 3) rfl))) (mvT hZ (hw _ (List.mem_of_getElem? (i := 4) rfl))) (mvT hZ (hw _ (List.mem_of_getElem? (i := 5) rfl))) (by decide) (backOf (W := 1) (rm1 l Z a0 hw [] b7 z1_s0 q0 q1 q2 q3 h7 n0 Z7 A7 gb7 F7_admitted F7_permitsLeft F7_retryAfterMillis F7_resetMillis F7_proceedAfterMillis) hZ (hw _ (List.mem_of_getElem? (i := 5) rfl)) (hw _ (List.mem_of_getElem? (i := 2) rfl)) (by decide) (by decide)) (g := (mkF m 105 #[.val (.long q0), .second, .val (.long q1), .second, .val (.long q2), .second, .val (.long q3), .second, .val (.long q4), .second, .val (.int p5), .val (.int z1_s0), .val (.int z2_s0), .val (.long z3_s0), .second, .val (.long z4_s0), .second, .val (.long z5_s0), .second, .val (.long z6_s0), .second, .unset, .unset, .unset, .unset, .unset, .unset, .unset, .unset] [(.long q3), (.long q2), (.long q1), (.long q0), (.int z1_s0), (.ref b7), (.ref b7)])) rfl (by rw [hml]; rfl) (Steps.refl _) (a := b7) (argsL := [(.int z1_s0), (.long q0), (.long q1), (.long q2), (.long q3)]) (rest := [(.ref b7)]) (lenOf pd_2 rfl) rfl (by show 2 * 0 + _ ≤ _; exact Nat.le_of_eq rfl) (hb hby at_105) (fun _ _ => ⟨rfl, e7, (by decide : 1 + 0 ≤ _), (by decide : 5 + 0 ≤ _)⟩)
  dsimp only [Pt.U, Pt.locs, Pt.cells, Pt.slots] at X8 l8 y8 z8 st8 hQ8
  subst l8 y8 z8
  obtain ⟨h8, e8⟩ : ∃ z, T8.heap = z := ⟨_, rfl⟩
  rw [e8] at hQ8
  obtain ⟨rfl, N8q, Kq8, G8_0, G8_1, G8_2, G8_3, G8_4, G8_5⟩ := hQ8
  have N8 := Fr.app N0 N8q
  have K8 := Keep.trans K7 Kq8 (allS (Or.inr sb7) all0)
  have Z8 := Nat.le_trans Z7 Kq8.1
  refine Goes.tr st8 ?_
  show Goes p e below s _ _ _ (T8.setTop (mkF m 108 #[.val (.long q0), .second, .val (.long q1), .second, .val (.long q2), .second, .val (.long q3), .second, .val (.long q4), .second, .val (.int p5), .val (.int z1_s0), .val (.int z2_s0), .val (.long z3_s0), .second, .val (.long z4_s0), .second, .val (.long z5_s0), .second, .val (.long z6_s0), .second, .unset, .unset, .unset, .unset, .unset, .unset, .unset, .unset] [(.ref b7)]))
  refine Goes.go (fun _ k => XS.astore X8.here hx rfl (hb hby at_108) rfl rfl (l' := #[.val (.long q0), .second, .val (.long q1), .second, .val (.long q2), .second, .val (.long q3), .second, .val (.long q4), .second, .val (.int p5), .val (.int z1_s0), .val (.int z2_s0), .val (.long z3_s0), .second, .val (.long z4_s0), .second, .val (.long z5_s0), .second, .val (.long z6_s0), .second, .val (.ref b7), .unset, .unset, .unset, .unset, .unset, .unset, .unset]) rfl k) ?_
  show Goes p e below s _ _ _ (T8.setTop (mkF m 110 #[.val (.long q0), .second, .val (.long q1), .second, .val (.long q2), .second, .val (.long q3), .second, .val (.long q4), .second, .val (.int p5), .val (.int z1_s0), .val (.int z2_s0), .val (.long z3_s0), .second, .val (.long z4_s0), .second, .val (.long z5_s0), .second, .val (.long z6_s0), .second, .val (.ref b7), .unset, .unset, .unset, .unset, .unset, .unset, .unset] []))
  obtain ⟨T9, h9, X9, e9, E9, A9, D9, -, st9⟩ := newO X8 hx hZ hown (hw _ (List.mem_of_getElem? (i := 0) rfl)) (hw _ (List.mem_of_getElem? (i := 1) rfl)) (hw _ (List.mem_of_getElem? (i := 2) rfl)) e8 (g := (mkF m 110 #[.val (.long q0), .second, .val (.long q1), .second, .val (.long q2), .second, .val (.long q3), .second, .val (.long q4), .second, .val (.int p5), .val (.int z1_s0), .val (.int z2_s0), .val (.long z3_s0), .second, .val (.long z4_s0), .second, .val (.long z5_s0), .second, .val (.long z6_s0), .second, .val (.ref b7), .unset, .unset, .unset, .unset, .unset, .unset, .unset] [])) rfl (hb hby at_110) (by decide) (by decide)
  obtain ⟨b9, g9⟩ : ∃ z, z = h8.size := ⟨_, rfl⟩
  rw [← g9] at A9 D9 st9
  have gb9 : n0 ≤ b9 := Nat.le_trans Z8 (Nat.le_of_eq g9.symm)
  have sb9 : h0.size ≤ b9 := Nat.le_trans K8.1 (Nat.le_of_eq g9.symm)
  have Z9 := Nat.le_trans Z8 E9.1
  have K9 := Keep.ext K8 E9
  have F9_admitted : Fld Z h9 b9 "com/example/danaid/danaid/Decision" "admitted" "Z" (.int (0 : Int32)) := D9 (Or.inr (hw _ (List.mem_of_getElem? (i := 10) rfl))) (ty := .boolean) (by decide)
  have F9_permitsLeft : Fld Z h9 b9 "com/example/danaid/danaid/Decision" "permitsLeft" "J" (.long (0 : Int64)) := D9 (Or.inr (hw _ (List.mem_of_getElem? (i := 12) rfl))) (ty := .long) (by decide)
  have F9_retryAfterMillis : Fld Z h9 b9 "com/example/danaid/danaid/Decision" "retryAfterMillis" "J" (.long (0 : Int64)) := D9 (Or.inr (hw _ (List.mem_of_getElem? (i := 14) rfl))) (ty := .long) (by decide)
  have F9_resetMillis : Fld Z h9 b9 "com/example/danaid/danaid/Decision" "resetMillis" "J" (.long (0 : Int64)) := D9 (Or.inr (hw _ (List.mem_of_getElem? (i := 16) rfl))) (ty := .long) (by decide)
  have F9_proceedAfterMillis : Fld Z h9 b9 "com/example/danaid/danaid/Decision" "proceedAfterMillis" "J" (.long (0 : Int64)) := D9 (Or.inr (hw _ (List.mem_of_getElem? (i := 18) rfl))) (ty := .long) (by decide)
  refine Goes.go st9 ?_
  show Goes p e below s _ _ _ (T9.setTop (mkF m 113 #[.val (.long q0), .second, .val (.long q1), .second, .val (.long q2), .second, .val (.long q3), .second, .val (.long q4), .second, .val (.int p5), .val (.int z1_s0), .val (.int z2_s0), .val (.long z3_s0), .second, .val (.long z4_s0), .second, .val (.long z5_s0), .second, .val (.long z6_s0), .second, .val (.ref b7), .unset, .unset, .unset, .unset, .unset, .unset, .unset] [(.ref b9)]))
  refine Goes.go (fun _ k => XS.dup X9.here hx rfl (hb hby at_113) rfl rfl k) ?_
  show Goes p e below s _ _ _ (T9.setTop (mkF m 114 #[.val (.long q0), .second, .val (.long q1), .second, .val (.long q2), .second, .val (.long q3), .second, .val (.long q4), .second, .val (.int p5), .val (.int z1_s0), .val (.int z2_s0), .val (.long z3_s0), .second, .val (.long z4_s0), .second, .val (.long z5_s0), .second, .val (.long z6_s0), .second, .val (.ref b7), .unset, .unset, .unset, .unset, .unset, .unset, .unset] [(.ref b9), (.ref b9)]))
  refine Goes.go (fun _ k => XS.iload X9.here hx rfl (hb hby at_114) rfl  k) ?_
  show Goes p e below s _ _ _ (T9.setTop (mkF m 116 #[.val (.long q0), .second, .val (.long q1), .second, .val (.long q2), .second, .val (.long q3), .second, .val (.long q4), .second, .val (.int p5), .val (.int z1_s0), .val (.int z2_s0), .val (.long z3_s0), .second, .val (.long z4_s0), .second, .val (.long z5_s0), .second, .val (.long z6_s0), .second, .val (.ref b7), .unset, .unset, .unset, .unset, .unset, .unset, .unset] [(.int z2_s0), (.ref b9), (.ref b9)]))
  refine Goes.go (fun _ k => XS.lload X9.here hx rfl (hb hby at_116) rfl  k) ?_
  show Goes p e below s _ _ _ (T9.setTop (mkF m 118 #[.val (.long q0), .second, .val (.long q1), .second, .val (.long q2), .second, .val (.long q3), .second, .val (.long q4), .second, .val (.int p5), .val (.int z1_s0), .val (.int z2_s0), .val (.long z3_s0), .second, .val (.long z4_s0), .second, .val (.long z5_s0), .second, .val (.long z6_s0), .second, .val (.ref b7), .unset, .unset, .unset, .unset, .unset, .unset, .unset] [(.long z3_s0), (.int z2_s0), (.ref b9), (.ref b9)]))
  refine Goes.go (fun _ k => XS.lload X9.here hx rfl (hb hby at_118) rfl  k) ?_
  show Goes p e below s _ _ _ (T9.setTop (mkF m 120 #[.val (.long q0), .second, .val (.long q1), .second, .val (.long q2), .second, .val (.long q3), .second, .val (.long q4), .second, .val (.int p5), .val (.int z1_s0), .val (.int z2_s0), .val (.long z3_s0), .second, .val (.long z4_s0), .second, .val (.long z5_s0), .second, .val (.long z6_s0), .second, .val (.ref b7), .unset, .unset, .unset, .unset, .unset, .unset, .unset] [(.long z4_s0), (.long z3_s0), (.int z2_s0), (.ref b9), (.ref b9)]))
  refine Goes.go (fun _ k => XS.lload X9.here hx rfl (hb hby at_120) rfl  k) ?_
  show Goes p e below s _ _ _ (T9.setTop (mkF m 122 #[.val (.long q0), .second, .val (.long q1), .second, .val (.long q2), .second, .val (.long q3), .second, .val (.long q4), .second, .val (.int p5), .val (.int z1_s0), .val (.int z2_s0), .val (.long z3_s0), .second, .val (.long z4_s0), .second, .val (.long z5_s0), .second, .val (.long z6_s0), .second, .val (.ref b7), .unset, .unset, .unset, .unset, .unset, .unset, .unset] [(.long z5_s0), (.long z4_s0), (.long z3_s0), (.int z2_s0), (.ref b9), (.ref b9)]))
  refine Goes.go (fun _ k => XS.lload X9.here hx rfl (hb hby at_122) rfl  k) ?_
  show Goes p e below s _ _ _ (T9.setTop (mkF m 124 #[.val (.long q0), .second, .val (.long q1), .second, .val (.long q2), .second, .val (.long q3), .second, .val (.long q4), .second, .val (.int p5), .val (.int z1_s0), .val (.int z2_s0), .val (.long z3_s0), .second, .val (.long z4_s0), .second, .val (.long z5_s0), .second, .val (.long z6_s0), .second, .val (.ref b7), .unset, .unset, .unset, .unset, .unset, .unset, .unset] [(.long z6_s0), (.long z5_s0), (.long z4_s0), (.long z3_s0), (.int z2_s0), (.ref b9), (.ref b9)]))
  obtain ⟨_, _, ⟨T10, L10, k10, n10⟩, -, X10, ⟨Lc10, hQ10, l10, y10, z10⟩, st10⟩ := X9.specialBack hx (y := (⟨"com/example/danaid/danaid/Decision", "<init>", "(ZJJJJ)V"⟩ : MethodName)) rfl hown (mvT hZ (hw _ (List.mem_of_getElem? (i := 3) rfl))) (mvT hZ (hw _ (List.mem_of_getElem? (i := 4) rfl))) (mvT hZ (hw _ (List.mem_of_getElem? (i := 5) rfl))) (by decide) (backOf (W := 1) (rm1 l Z a0 hw [] b9 z2_s0 z3_s0 z4_s0 z5_s0 z6_s0 h9 n0 Z9 A9 gb9 F9_admitted F9_permitsLeft F9_retryAfterMillis F9_resetMillis F9_proceedAfterMillis) hZ (hw _ (List.mem_of_getElem? (i := 5) rfl)) (hw _ (List.mem_of_getElem? (i := 2) rfl)) (by decide) (by decide)) (g := (mkF m 124 #[.val (.long q0), .second, .val (.long q1), .second, .val (.long q2), .second, .val (.long q3), .second, .val (.long q4), .second, .val (.int p5), .val (.int z1_s0), .val (.int z2_s0), .val (.long z3_s0), .second, .val (.long z4_s0), .second, .val (.long z5_s0), .second, .val (.long z6_s0), .second, .val (.ref b7), .unset, .unset, .unset, .unset, .unset, .unset, .unset] [(.long z6_s0), (.long z5_s0), (.long z4_s0), (.long z3_s0), (.int z2_s0), (.ref b9), (.ref b9)])) rfl (by rw [hml]; rfl) (Steps.refl _) (a := b9) (argsL := [(.int z2_s0), (.long z3_s0), (.long z4_s0), (.long z5_s0), (.long z6_s0)]) (rest := [(.ref b9)]) (lenOf pd_2 rfl) rfl (by show 2 * 0 + _ ≤ _; exact Nat.le_of_eq rfl) (hb hby at_124) (fun _ _ => ⟨rfl, e9, (by decide : 2 + 0 ≤ _), (by decide : 10 + 0 ≤ _)⟩)
  dsimp only [Pt.U, Pt.locs, Pt.cells, Pt.slots] at X10 l10 y10 z10 st10 hQ10
  subst l10 y10 z10
  obtain ⟨h10, e10⟩ : ∃ z, T10.heap = z := ⟨_, rfl⟩
  rw [e10] at hQ10
  obtain ⟨rfl, N10q, Kq10, G10_0, G10_1, G10_2, G10_3, G10_4, G10_5⟩ := hQ10
  have N10 := Fr.app N8 N10q
  have K10 := Keep.trans K9 Kq10 (allS (Or.inr sb9) all0)
  have Z10 := Nat.le_trans Z9 Kq10.1
  refine Goes.tr st10 ?_
  show Goes p e below s _ _ _ (T10.setTop (mkF m 127 #[.val (.long q0), .second, .val (.long q1), .second, .val (.long q2), .second, .val (.long q3), .second, .val (.long q4), .second, .val (.int p5), .val (.int z1_s0), .val (.int z2_s0), .val (.long z3_s0), .second, .val (.long z4_s0), .second, .val (.long z5_s0), .second, .val (.long z6_s0), .second, .val (.ref b7), .unset, .unset, .unset, .unset, .unset, .unset, .unset] [(.ref b9)]))
  refine Goes.go (fun _ k => XS.astore X10.here hx rfl (hb hby at_127) rfl rfl (l' := #[.val (.long q0), .second, .val (.long q1), .second, .val (.long q2), .second, .val (.long q3), .second, .val (.long q4), .second, .val (.int p5), .val (.int z1_s0), .val (.int z2_s0), .val (.long z3_s0), .second, .val (.long z4_s0), .second, .val (.long z5_s0), .second, .val (.long z6_s0), .second, .val (.ref b7), .val (.ref b9), .unset, .unset, .unset, .unset, .unset, .unset]) rfl k) ?_
  show Goes p e below s _ _ _ (T10.setTop (mkF m 129 #[.val (.long q0), .second, .val (.long q1), .second, .val (.long q2), .second, .val (.long q3), .second, .val (.long q4), .second, .val (.int p5), .val (.int z1_s0), .val (.int z2_s0), .val (.long z3_s0), .second, .val (.long z4_s0), .second, .val (.long z5_s0), .second, .val (.long z6_s0), .second, .val (.ref b7), .val (.ref b9), .unset, .unset, .unset, .unset, .unset, .unset] []))
  refine Goes.go (fun _ k => XS.iload X10.here hx rfl (hb hby at_129) rfl  k) ?_
  show Goes p e below s _ _ _ (T10.setTop (mkF m 131 #[.val (.long q0), .second, .val (.long q1), .second, .val (.long q2), .second, .val (.long q3), .second, .val (.long q4), .second, .val (.int p5), .val (.int z1_s0), .val (.int z2_s0), .val (.long z3_s0), .second, .val (.long z4_s0), .second, .val (.long z5_s0), .second, .val (.long z6_s0), .second, .val (.ref b7), .val (.ref b9), .unset, .unset, .unset, .unset, .unset, .unset] [(.int z1_s0)]))
  refine Goes.go (fun _ k => XS.iload X10.here hx rfl (hb hby at_131) rfl  k) ?_
  show Goes p e below s _ _ _ (T10.setTop (mkF m 133 #[.val (.long q0), .second, .val (.long q1), .second, .val (.long q2), .second, .val (.long q3), .second, .val (.long q4), .second, .val (.int p5), .val (.int z1_s0), .val (.int z2_s0), .val (.long z3_s0), .second, .val (.long z4_s0), .second, .val (.long z5_s0), .second, .val (.long z6_s0), .second, .val (.ref b7), .val (.ref b9), .unset, .unset, .unset, .unset, .unset, .unset] [(.int z2_s0), (.int z1_s0)]))
  obtain ⟨z11_s0, hz11_s0⟩ : ∃ z : Int32, z = if z1_s0 = z2_s0 then (if q0 = z3_s0 then (if q1 = z4_s0 then (if q2 = z5_s0 then (if q3 = z6_s0 then (1 : Int32) else (0 : Int32)) else (0 : Int32)) else (0 : Int32)) else (0 : Int32)) else (0 : Int32) := ⟨_, rfl⟩
  have sm11 : ∀ t, Steps p.tables e below (T10.setTop (mkF m 171 #[.val (.long q0), .second, .val (.long q1), .second, .val (.long q2), .second, .val (.long q3), .second, .val (.long q4), .second, .val (.int p5), .val (.int z1_s0), .val (.int z2_s0), .val (.long z3_s0), .second, .val (.long z4_s0), .second, .val (.long z5_s0), .second, .val (.long z6_s0), .second, .val (.ref b7), .val (.ref b9), .unset, .unset, .unset, .unset, .unset, .unset] [(.int z11_s0)])) t → Steps p.tables e below (T10.setTop (mkF m 133 #[.val (.long q0), .second, .val (.long q1), .second, .val (.long q2), .second, .val (.long q3), .second, .val (.long q4), .second, .val (.int p5), .val (.int z1_s0), .val (.int z2_s0), .val (.long z3_s0), .second, .val (.long z4_s0), .second, .val (.long z5_s0), .second, .val (.long z6_s0), .second, .val (.ref b7), .val (.ref b9), .unset, .unset, .unset, .unset, .unset, .unset] [(.int z2_s0), (.int z1_s0)])) t := by
    intro t k
    by_cases hc133_11 : z1_s0 = z2_s0
    · have k2 : Steps p.tables e below (T10.setTop (mkF m 171 #[.val (.long q0), .second, .val (.long q1), .second, .val (.long q2), .second, .val (.long q3), .second, .val (.long q4), .second, .val (.int p5), .val (.int z1_s0), .val (.int z2_s0), .val (.long z3_s0), .second, .val (.long z4_s0), .second, .val (.long z5_s0), .second, .val (.long z6_s0), .second, .val (.ref b7), .val (.ref b9), .unset, .unset, .unset, .unset, .unset, .unset] [(.int (if q0 = z3_s0 then (if q1 = z4_s0 then (if q2 = z5_s0 then (if q3 = z6_s0 then (1 : Int32) else (0 : Int32)) else (0 : Int32)) else (0 : Int32)) else (0 : Int32)))])) t := by simpa only [hz11_s0, if_pos hc133_11] using k
      show Steps p.tables e below (T10.setTop (mkF m 133 #[.val (.long q0), .second, .val (.long q1), .second, .val (.long q2), .second, .val (.long q3), .second, .val (.long q4), .second, .val (.int p5), .val (.int z1_s0), .val (.int z2_s0), .val (.long z3_s0), .second, .val (.long z4_s0), .second, .val (.long z5_s0), .second, .val (.long z6_s0), .second, .val (.ref b7), .val (.ref b9), .unset, .unset, .unset, .unset, .unset, .unset] [(.int z2_s0), (.int z1_s0)])) _
      refine XS.icmpNo X10.here hx rfl (hb hby at_133) rfl (teq hc133_11).2 ?_
      show Steps p.tables e below (T10.setTop (mkF m 136 #[.val (.long q0), .second, .val (.long q1), .second, .val (.long q2), .second, .val (.long q3), .second, .val (.long q4), .second, .val (.int p5), .val (.int z1_s0), .val (.int z2_s0), .val (.long z3_s0), .second, .val (.long z4_s0), .second, .val (.long z5_s0), .second, .val (.long z6_s0), .second, .val (.ref b7), .val (.ref b9), .unset, .unset, .unset, .unset, .unset, .unset] [])) _
      refine XS.lloadN X10.here hx rfl (hb hby at_136) rfl  ?_
      show Steps p.tables e below (T10.setTop (mkF m 137 #[.val (.long q0), .second, .val (.long q1), .second, .val (.long q2), .second, .val (.long q3), .second, .val (.long q4), .second, .val (.int p5), .val (.int z1_s0), .val (.int z2_s0), .val (.long z3_s0), .second, .val (.long z4_s0), .second, .val (.long z5_s0), .second, .val (.long z6_s0), .second, .val (.ref b7), .val (.ref b9), .unset, .unset, .unset, .unset, .unset, .unset] [(.long q0)])) _
      refine XS.lload X10.here hx rfl (hb hby at_137) rfl  ?_
      show Steps p.tables e below (T10.setTop (mkF m 139 #[.val (.long q0), .second, .val (.long q1), .second, .val (.long q2), .second, .val (.long q3), .second, .val (.long q4), .second, .val (.int p5), .val (.int z1_s0), .val (.int z2_s0), .val (.long z3_s0), .second, .val (.long z4_s0), .second, .val (.long z5_s0), .second, .val (.long z6_s0), .second, .val (.ref b7), .val (.ref b9), .unset, .unset, .unset, .unset, .unset, .unset] [(.long z3_s0), (.long q0)])) _
      refine XS.lcmp X10.here hx rfl (hb hby at_139) rfl ?_
      show Steps p.tables e below (T10.setTop (mkF m 140 #[.val (.long q0), .second, .val (.long q1), .second, .val (.long q2), .second, .val (.long q3), .second, .val (.long q4), .second, .val (.int p5), .val (.int z1_s0), .val (.int z2_s0), .val (.long z3_s0), .second, .val (.long z4_s0), .second, .val (.long z5_s0), .second, .val (.long z6_s0), .second, .val (.ref b7), .val (.ref b9), .unset, .unset, .unset, .unset, .unset, .unset] [(.int (lcmpW q0 z3_s0))])) _
      have sm12 : ∀ t, Steps p.tables e below (T10.setTop (mkF m 171 #[.val (.long q0), .second, .val (.long q1), .second, .val (.long q2), .second, .val (.long q3), .second, .val (.long q4), .second, .val (.int p5), .val (.int z1_s0), .val (.int z2_s0), .val (.long z3_s0), .second, .val (.long z4_s0), .second, .val (.long z5_s0), .second, .val (.long z6_s0), .second, .val (.ref b7), .val (.ref b9), .unset, .unset, .unset, .unset, .unset, .unset] [(.int (if q0 = z3_s0 then (if q1 = z4_s0 then (if q2 = z5_s0 then (if q3 = z6_s0 then (1 : Int32) else (0 : Int32)) else (0 : Int32)) else (0 : Int32)) else (0 : Int32)))])) t → Steps p.tables e below (T10.setTop (mkF m 140 #[.val (.long q0), .second, .val (.long q1), .second, .val (.long q2), .second, .val (.long q3), .second, .val (.long q4), .second, .val (.int p5), .val (.int z1_s0), .val (.int z2_s0), .val (.long z3_s0), .second, .val (.long z4_s0), .second, .val (.long z5_s0), .second, .val (.long z6_s0), .second, .val (.ref b7), .val (.ref b9), .unset, .unset, .unset, .unset, .unset, .unset] [(.int (lcmpW q0 z3_s0))])) t := by
        intro t k
        by_cases hc140_12 : q0 = z3_s0
        · have k2 : Steps p.tables e below (T10.setTop (mkF m 171 #[.val (.long q0), .second, .val (.long q1), .second, .val (.long q2), .second, .val (.long q3), .second, .val (.long q4), .second, .val (.int p5), .val (.int z1_s0), .val (.int z2_s0), .val (.long z3_s0), .second, .val (.long z4_s0), .second, .val (.long z5_s0), .second, .val (.long z6_s0), .second, .val (.ref b7), .val (.ref b9), .unset, .unset, .unset, .unset, .unset, .unset] [(.int (if q1 = z4_s0 then (if q2 = z5_s0 then (if q3 = z6_s0 then (1 : Int32) else (0 : Int32)) else (0 : Int32)) else (0 : Int32)))])) t := by simpa only [if_pos hc140_12] using k
          show Steps p.tables e below (T10.setTop (mkF m 140 #[.val (.long q0), .second, .val (.long q1), .second, .val (.long q2), .second, .val (.long q3), .second, .val (.long q4), .second, .val (.int p5), .val (.int z1_s0), .val (.int z2_s0), .val (.long z3_s0), .second, .val (.long z4_s0), .second, .val (.long z5_s0), .second, .val (.long z6_s0), .second, .val (.ref b7), .val (.ref b9), .unset, .unset, .unset, .unset, .unset, .unset] [(.int (lcmpW q0 z3_s0))])) _
          refine XS.ifNo X10.here hx rfl (hb hby at_140) rfl ((if0 _ _).trans (teq ((lw_eq q0 z3_s0).mpr hc140_12)).2) ?_
          show Steps p.tables e below (T10.setTop (mkF m 143 #[.val (.long q0), .second, .val (.long q1), .second, .val (.long q2), .second, .val (.long q3), .second, .val (.long q4), .second, .val (.int p5), .val (.int z1_s0), .val (.int z2_s0), .val (.long z3_s0), .second, .val (.long z4_s0), .second, .val (.long z5_s0), .second, .val (.long z6_s0), .second, .val (.ref b7), .val (.ref b9), .unset, .unset, .unset, .unset, .unset, .unset] [])) _
          refine XS.lloadN X10.here hx rfl (hb hby at_143) rfl  ?_
          show Steps p.tables e below (T10.setTop (mkF m 144 #[.val (.long q0), .second, .val (.long q1), .second, .val (.long q2), .second, .val (.long q3), .second, .val (.long q4), .second, .val (.int p5), .val (.int z1_s0), .val (.int z2_s0), .val (.long z3_s0), .second, .val (.long z4_s0), .second, .val (.long z5_s0), .second, .val (.long z6_s0), .second, .val (.ref b7), .val (.ref b9), .unset, .unset, .unset, .unset, .unset, .unset] [(.long q1)])) _
          refine XS.lload X10.here hx rfl (hb hby at_144) rfl  ?_
          show Steps p.tables e below (T10.setTop (mkF m 146 #[.val (.long q0), .second, .val (.long q1), .second, .val (.long q2), .second, .val (.long q3), .second, .val (.long q4), .second, .val (.int p5), .val (.int z1_s0), .val (.int z2_s0), .val (.long z3_s0), .second, .val (.long z4_s0), .second, .val (.long z5_s0), .second, .val (.long z6_s0), .second, .val (.ref b7), .val (.ref b9), .unset, .unset, .unset, .unset, .unset, .unset] [(.long z4_s0), (.long q1)])) _
          refine XS.lcmp X10.here hx rfl (hb hby at_146) rfl ?_
          show Steps p.tables e below (T10.setTop (mkF m 147 #[.val (.long q0), .second, .val (.long q1), .second, .val (.long q2), .second, .val (.long q3), .second, .val (.long q4), .second, .val (.int p5), .val (.int z1_s0), .val (.int z2_s0), .val (.long z3_s0), .second, .val (.long z4_s0), .second, .val (.long z5_s0), .second, .val (.long z6_s0), .second, .val (.ref b7), .val (.ref b9), .unset, .unset, .unset, .unset, .unset, .unset] [(.int (lcmpW q1 z4_s0))])) _
          have sm13 : ∀ t, Steps p.tables e below (T10.setTop (mkF m 171 #[.val (.long q0), .second, .val (.long q1), .second, .val (.long q2), .second, .val (.long q3), .second, .val (.long q4), .second, .val (.int p5), .val (.int z1_s0), .val (.int z2_s0), .val (.long z3_s0), .second, .val (.long z4_s0), .second, .val (.long z5_s0), .second, .val (.long z6_s0), .second, .val (.ref b7), .val (.ref b9), .unset, .unset, .unset, .unset, .unset, .unset] [(.int (if q1 = z4_s0 then (if q2 = z5_s0 then (if q3 = z6_s0 then (1 : Int32) else (0 : Int32)) else (0 : Int32)) else (0 : Int32)))])) t → Steps p.tables e below (T10.setTop (mkF m 147 #[.val (.long q0), .second, .val (.long q1), .second, .val (.long q2), .second, .val (.long q3), .second, .val (.long q4), .second, .val (.int p5), .val (.int z1_s0), .val (.int z2_s0), .val (.long z3_s0), .second, .val (.long z4_s0), .second, .val (.long z5_s0), .second, .val (.long z6_s0), .second, .val (.ref b7), .val (.ref b9), .unset, .unset, .unset, .unset, .unset, .unset] [(.int (lcmpW q1 z4_s0))])) t := by
            intro t k
            by_cases hc147_13 : q1 = z4_s0
            · have k2 : Steps p.tables e below (T10.setTop (mkF m 171 #[.val (.long q0), .second, .val (.long q1), .second, .val (.long q2), .second, .val (.long q3), .second, .val (.long q4), .second, .val (.int p5), .val (.int z1_s0), .val (.int z2_s0), .val (.long z3_s0), .second, .val (.long z4_s0), .second, .val (.long z5_s0), .second, .val (.long z6_s0), .second, .val (.ref b7), .val (.ref b9), .unset, .unset, .unset, .unset, .unset, .unset] [(.int (if q2 = z5_s0 then (if q3 = z6_s0 then (1 : Int32) else (0 : Int32)) else (0 : Int32)))])) t := by simpa only [if_pos hc147_13] using k
              show Steps p.tables e below (T10.setTop (mkF m 147 #[.val (.long q0), .second, .val (.long q1), .second, .val (.long q2), .second, .val (.long q3), .second, .val (.long q4), .second, .val (.int p5), .val (.int z1_s0), .val (.int z2_s0), .val (.long z3_s0), .second, .val (.long z4_s0), .second, .val (.long z5_s0), .second, .val (.long z6_s0), .second, .val (.ref b7), .val (.ref b9), .unset, .unset, .unset, .unset, .unset, .unset] [(.int (lcmpW q1 z4_s0))])) _
              refine XS.ifNo X10.here hx rfl (hb hby at_147) rfl ((if0 _ _).trans (teq ((lw_eq q1 z4_s0).mpr hc147_13)).2) ?_
              show Steps p.tables e below (T10.setTop (mkF m 150 #[.val (.long q0), .second, .val (.long q1), .second, .val (.long q2), .second, .val (.long q3), .second, .val (.long q4), .second, .val (.int p5), .val (.int z1_s0), .val (.int z2_s0), .val (.long z3_s0), .second, .val (.long z4_s0), .second, .val (.long z5_s0), .second, .val (.long z6_s0), .second, .val (.ref b7), .val (.ref b9), .unset, .unset, .unset, .unset, .unset, .unset] [])) _
              refine XS.lload X10.here hx rfl (hb hby at_150) rfl  ?_
              show Steps p.tables e below (T10.setTop (mkF m 152 #[.val (.long q0), .second, .val (.long q1), .second, .val (.long q2), .second, .val (.long q3), .second, .val (.long q4), .second, .val (.int p5), .val (.int z1_s0), .val (.int z2_s0), .val (.long z3_s0), .second, .val (.long z4_s0), .second, .val (.long z5_s0), .second, .val (.long z6_s0), .second, .val (.ref b7), .val (.ref b9), .unset, .unset, .unset, .unset, .unset, .unset] [(.long q2)])) _
              refine XS.lload X10.here hx rfl (hb hby at_152) rfl  ?_
              show Steps p.tables e below (T10.setTop (mkF m 154 #[.val (.long q0), .second, .val (.long q1), .second, .val (.long q2), .second, .val (.long q3), .second, .val (.long q4), .second, .val (.int p5), .val (.int z1_s0), .val (.int z2_s0), .val (.long z3_s0), .second, .val (.long z4_s0), .second, .val (.long z5_s0), .second, .val (.long z6_s0), .second, .val (.ref b7), .val (.ref b9), .unset, .unset, .unset, .unset, .unset, .unset] [(.long z5_s0), (.long q2)])) _
              refine XS.lcmp X10.here hx rfl (hb hby at_154) rfl ?_
              show Steps p.tables e below (T10.setTop (mkF m 155 #[.val (.long q0), .second, .val (.long q1), .second, .val (.long q2), .second, .val (.long q3), .second, .val (.long q4), .second, .val (.int p5), .val (.int z1_s0), .val (.int z2_s0), .val (.long z3_s0), .second, .val (.long z4_s0), .second, .val (.long z5_s0), .second, .val (.long z6_s0), .second, .val (.ref b7), .val (.ref b9), .unset, .unset, .unset, .unset, .unset, .unset] [(.int (lcmpW q2 z5_s0))])) _
              have sm14 : ∀ t, Steps p.tables e below (T10.setTop (mkF m 171 #[.val (.long q0), .second, .val (.long q1), .second, .val (.long q2), .second, .val (.long q3), .second, .val (.long q4), .second, .val (.int p5), .val (.int z1_s0), .val (.int z2_s0), .val (.long z3_s0), .second, .val (.long z4_s0), .second, .val (.long z5_s0), .second, .val (.long z6_s0), .second, .val (.ref b7), .val (.ref b9), .unset, .unset, .unset, .unset, .unset, .unset] [(.int (if q2 = z5_s0 then (if q3 = z6_s0 then (1 : Int32) else (0 : Int32)) else (0 : Int32)))])) t → Steps p.tables e below (T10.setTop (mkF m 155 #[.val (.long q0), .second, .val (.long q1), .second, .val (.long q2), .second, .val (.long q3), .second, .val (.long q4), .second, .val (.int p5), .val (.int z1_s0), .val (.int z2_s0), .val (.long z3_s0), .second, .val (.long z4_s0), .second, .val (.long z5_s0), .second, .val (.long z6_s0), .second, .val (.ref b7), .val (.ref b9), .unset, .unset, .unset, .unset, .unset, .unset] [(.int (lcmpW q2 z5_s0))])) t := by
                intro t k
                by_cases hc155_14 : q2 = z5_s0
                · have k2 : Steps p.tables e below (T10.setTop (mkF m 171 #[.val (.long q0), .second, .val (.long q1), .second, .val (.long q2), .second, .val (.long q3), .second, .val (.long q4), .second, .val (.int p5), .val (.int z1_s0), .val (.int z2_s0), .val (.long z3_s0), .second, .val (.long z4_s0), .second, .val (.long z5_s0), .second, .val (.long z6_s0), .second, .val (.ref b7), .val (.ref b9), .unset, .unset, .unset, .unset, .unset, .unset] [(.int (if q3 = z6_s0 then (1 : Int32) else (0 : Int32)))])) t := by simpa only [if_pos hc155_14] using k
                  show Steps p.tables e below (T10.setTop (mkF m 155 #[.val (.long q0), .second, .val (.long q1), .second, .val (.long q2), .second, .val (.long q3), .second, .val (.long q4), .second, .val (.int p5), .val (.int z1_s0), .val (.int z2_s0), .val (.long z3_s0), .second, .val (.long z4_s0), .second, .val (.long z5_s0), .second, .val (.long z6_s0), .second, .val (.ref b7), .val (.ref b9), .unset, .unset, .unset, .unset, .unset, .unset] [(.int (lcmpW q2 z5_s0))])) _
                  refine XS.ifNo X10.here hx rfl (hb hby at_155) rfl ((if0 _ _).trans (teq ((lw_eq q2 z5_s0).mpr hc155_14)).2) ?_
                  show Steps p.tables e below (T10.setTop (mkF m 158 #[.val (.long q0), .second, .val (.long q1), .second, .val (.long q2), .second, .val (.long q3), .second, .val (.long q4), .second, .val (.int p5), .val (.int z1_s0), .val (.int z2_s0), .val (.long z3_s0), .second, .val (.long z4_s0), .second, .val (.long z5_s0), .second, .val (.long z6_s0), .second, .val (.ref b7), .val (.ref b9), .unset, .unset, .unset, .unset, .unset, .unset] [])) _
                  refine XS.lload X10.here hx rfl (hb hby at_158) rfl  ?_
                  show Steps p.tables e below (T10.setTop (mkF m 160 #[.val (.long q0), .second, .val (.long q1), .second, .val (.long q2), .second, .val (.long q3), .second, .val (.long q4), .second, .val (.int p5), .val (.int z1_s0), .val (.int z2_s0), .val (.long z3_s0), .second, .val (.long z4_s0), .second, .val (.long z5_s0), .second, .val (.long z6_s0), .second, .val (.ref b7), .val (.ref b9), .unset, .unset, .unset, .unset, .unset, .unset] [(.long q3)])) _
                  refine XS.lload X10.here hx rfl (hb hby at_160) rfl  ?_
                  show Steps p.tables e below (T10.setTop (mkF m 162 #[.val (.long q0), .second, .val (.long q1), .second, .val (.long q2), .second, .val (.long q3), .second, .val (.long q4), .second, .val (.int p5), .val (.int z1_s0), .val (.int z2_s0), .val (.long z3_s0), .second, .val (.long z4_s0), .second, .val (.long z5_s0), .second, .val (.long z6_s0), .second, .val (.ref b7), .val (.ref b9), .unset, .unset, .unset, .unset, .unset, .unset] [(.long z6_s0), (.long q3)])) _
                  refine XS.lcmp X10.here hx rfl (hb hby at_162) rfl ?_
                  show Steps p.tables e below (T10.setTop (mkF m 163 #[.val (.long q0), .second, .val (.long q1), .second, .val (.long q2), .second, .val (.long q3), .second, .val (.long q4), .second, .val (.int p5), .val (.int z1_s0), .val (.int z2_s0), .val (.long z3_s0), .second, .val (.long z4_s0), .second, .val (.long z5_s0), .second, .val (.long z6_s0), .second, .val (.ref b7), .val (.ref b9), .unset, .unset, .unset, .unset, .unset, .unset] [(.int (lcmpW q3 z6_s0))])) _
                  have sm15 : ∀ t, Steps p.tables e below (T10.setTop (mkF m 171 #[.val (.long q0), .second, .val (.long q1), .second, .val (.long q2), .second, .val (.long q3), .second, .val (.long q4), .second, .val (.int p5), .val (.int z1_s0), .val (.int z2_s0), .val (.long z3_s0), .second, .val (.long z4_s0), .second, .val (.long z5_s0), .second, .val (.long z6_s0), .second, .val (.ref b7), .val (.ref b9), .unset, .unset, .unset, .unset, .unset, .unset] [(.int (if q3 = z6_s0 then (1 : Int32) else (0 : Int32)))])) t → Steps p.tables e below (T10.setTop (mkF m 163 #[.val (.long q0), .second, .val (.long q1), .second, .val (.long q2), .second, .val (.long q3), .second, .val (.long q4), .second, .val (.int p5), .val (.int z1_s0), .val (.int z2_s0), .val (.long z3_s0), .second, .val (.long z4_s0), .second, .val (.long z5_s0), .second, .val (.long z6_s0), .second, .val (.ref b7), .val (.ref b9), .unset, .unset, .unset, .unset, .unset, .unset] [(.int (lcmpW q3 z6_s0))])) t := by
                    intro t k
                    by_cases hc163_15 : q3 = z6_s0
                    · have k2 : Steps p.tables e below (T10.setTop (mkF m 171 #[.val (.long q0), .second, .val (.long q1), .second, .val (.long q2), .second, .val (.long q3), .second, .val (.long q4), .second, .val (.int p5), .val (.int z1_s0), .val (.int z2_s0), .val (.long z3_s0), .second, .val (.long z4_s0), .second, .val (.long z5_s0), .second, .val (.long z6_s0), .second, .val (.ref b7), .val (.ref b9), .unset, .unset, .unset, .unset, .unset, .unset] [(.int (1 : Int32))])) t := by simpa only [if_pos hc163_15] using k
                      show Steps p.tables e below (T10.setTop (mkF m 163 #[.val (.long q0), .second, .val (.long q1), .second, .val (.long q2), .second, .val (.long q3), .second, .val (.long q4), .second, .val (.int p5), .val (.int z1_s0), .val (.int z2_s0), .val (.long z3_s0), .second, .val (.long z4_s0), .second, .val (.long z5_s0), .second, .val (.long z6_s0), .second, .val (.ref b7), .val (.ref b9), .unset, .unset, .unset, .unset, .unset, .unset] [(.int (lcmpW q3 z6_s0))])) _
                      refine XS.ifNo X10.here hx rfl (hb hby at_163) rfl ((if0 _ _).trans (teq ((lw_eq q3 z6_s0).mpr hc163_15)).2) ?_
                      show Steps p.tables e below (T10.setTop (mkF m 166 #[.val (.long q0), .second, .val (.long q1), .second, .val (.long q2), .second, .val (.long q3), .second, .val (.long q4), .second, .val (.int p5), .val (.int z1_s0), .val (.int z2_s0), .val (.long z3_s0), .second, .val (.long z4_s0), .second, .val (.long z5_s0), .second, .val (.long z6_s0), .second, .val (.ref b7), .val (.ref b9), .unset, .unset, .unset, .unset, .unset, .unset] [])) _
                      refine XS.iconst X10.here hx rfl (hb hby at_166) ?_
                      show Steps p.tables e below (T10.setTop (mkF m 167 #[.val (.long q0), .second, .val (.long q1), .second, .val (.long q2), .second, .val (.long q3), .second, .val (.long q4), .second, .val (.int p5), .val (.int z1_s0), .val (.int z2_s0), .val (.long z3_s0), .second, .val (.long z4_s0), .second, .val (.long z5_s0), .second, .val (.long z6_s0), .second, .val (.ref b7), .val (.ref b9), .unset, .unset, .unset, .unset, .unset, .unset] [(.int (1 : Int32))])) _
                      refine XS.goto X10.here hx rfl (pc0 := 167) (pc' := 171) rfl (hb hby at_167) (by decide) (by decide) ?_
                      exact k2
                    · have k2 : Steps p.tables e below (T10.setTop (mkF m 171 #[.val (.long q0), .second, .val (.long q1), .second, .val (.long q2), .second, .val (.long q3), .second, .val (.long q4), .second, .val (.int p5), .val (.int z1_s0), .val (.int z2_s0), .val (.long z3_s0), .second, .val (.long z4_s0), .second, .val (.long z5_s0), .second, .val (.long z6_s0), .second, .val (.ref b7), .val (.ref b9), .unset, .unset, .unset, .unset, .unset, .unset] [(.int (0 : Int32))])) t := by simpa only [if_neg hc163_15] using k
                      show Steps p.tables e below (T10.setTop (mkF m 163 #[.val (.long q0), .second, .val (.long q1), .second, .val (.long q2), .second, .val (.long q3), .second, .val (.long q4), .second, .val (.int p5), .val (.int z1_s0), .val (.int z2_s0), .val (.long z3_s0), .second, .val (.long z4_s0), .second, .val (.long z5_s0), .second, .val (.long z6_s0), .second, .val (.ref b7), .val (.ref b9), .unset, .unset, .unset, .unset, .unset, .unset] [(.int (lcmpW q3 z6_s0))])) _
                      refine XS.ifYes X10.here hx rfl (pc0 := 163) (pc' := 170) rfl (hb hby at_163) rfl ((if0 _ _).trans (feq (mt (lw_eq q3 z6_s0).mp hc163_15)).2) (by decide) (by decide) ?_
                      show Steps p.tables e below (T10.setTop (mkF m 170 #[.val (.long q0), .second, .val (.long q1), .second, .val (.long q2), .second, .val (.long q3), .second, .val (.long q4), .second, .val (.int p5), .val (.int z1_s0), .val (.int z2_s0), .val (.long z3_s0), .second, .val (.long z4_s0), .second, .val (.long z5_s0), .second, .val (.long z6_s0), .second, .val (.ref b7), .val (.ref b9), .unset, .unset, .unset, .unset, .unset, .unset] [])) _
                      refine XS.iconst X10.here hx rfl (hb hby at_170) ?_
                      exact k2
                  refine sm15 _ ?_
                  exact k2
                · have k2 : Steps p.tables e below (T10.setTop (mkF m 171 #[.val (.long q0), .second, .val (.long q1), .second, .val (.long q2), .second, .val (.long q3), .second, .val (.long q4), .second, .val (.int p5), .val (.int z1_s0), .val (.int z2_s0), .val (.long z3_s0), .second, .val (.long z4_s0), .second, .val (.long z5_s0), .second, .val (.long z6_s0), .second, .val (.ref b7), .val (.ref b9), .unset, .unset, .unset, .unset, .unset, .unset] [(.int (0 : Int32))])) t := by simpa only [if_neg hc155_14] using k
                  show Steps p.tables e below (T10.setTop (mkF m 155 #[.val (.long q0), .second, .val (.long q1), .second, .val (.long q2), .second, .val (.long q3), .second, .val (.long q4), .second, .val (.int p5), .val (.int z1_s0), .val (.int z2_s0), .val (.long z3_s0), .second, .val (.long z4_s0), .second, .val (.long z5_s0), .second, .val (.long z6_s0), .second, .val (.ref b7), .val (.ref b9), .unset, .unset, .unset, .unset, .unset, .unset] [(.int (lcmpW q2 z5_s0))])) _
                  refine XS.ifYes X10.here hx rfl (pc0 := 155) (pc' := 170) rfl (hb hby at_155) rfl ((if0 _ _).trans (feq (mt (lw_eq q2 z5_s0).mp hc155_14)).2) (by decide) (by decide) ?_
                  show Steps p.tables e below (T10.setTop (mkF m 170 #[.val (.long q0), .second, .val (.long q1), .second, .val (.long q2), .second, .val (.long q3), .second, .val (.long q4), .second, .val (.int p5), .val (.int z1_s0), .val (.int z2_s0), .val (.long z3_s0), .second, .val (.long z4_s0), .second, .val (.long z5_s0), .second, .val (.long z6_s0), .second, .val (.ref b7), .val (.ref b9), .unset, .unset, .unset, .unset, .unset, .unset] [])) _
                  refine XS.iconst X10.here hx rfl (hb hby at_170) ?_
                  exact k2
              refine sm14 _ ?_
              exact k2
            · have k2 : Steps p.tables e below (T10.setTop (mkF m 171 #[.val (.long q0), .second, .val (.long q1), .second, .val (.long q2), .second, .val (.long q3), .second, .val (.long q4), .second, .val (.int p5), .val (.int z1_s0), .val (.int z2_s0), .val (.long z3_s0), .second, .val (.long z4_s0), .second, .val (.long z5_s0), .second, .val (.long z6_s0), .second, .val (.ref b7), .val (.ref b9), .unset, .unset, .unset, .unset, .unset, .unset] [(.int (0 : Int32))])) t := by simpa only [if_neg hc147_13] using k
              show Steps p.tables e below (T10.setTop (mkF m 147 #[.val (.long q0), .second, .val (.long q1), .second, .val (.long q2), .second, .val (.long q3), .second, .val (.long q4), .second, .val (.int p5), .val (.int z1_s0), .val (.int z2_s0), .val (.long z3_s0), .second, .val (.long z4_s0), .second, .val (.long z5_s0), .second, .val (.long z6_s0), .second, .val (.ref b7), .val (.ref b9), .unset, .unset, .unset, .unset, .unset, .unset] [(.int (lcmpW q1 z4_s0))])) _
              refine XS.ifYes X10.here hx rfl (pc0 := 147) (pc' := 170) rfl (hb hby at_147) rfl ((if0 _ _).trans (feq (mt (lw_eq q1 z4_s0).mp hc147_13)).2) (by decide) (by decide) ?_
              show Steps p.tables e below (T10.setTop (mkF m 170 #[.val (.long q0), .second, .val (.long q1), .second, .val (.long q2), .second, .val (.long q3), .second, .val (.long q4), .second, .val (.int p5), .val (.int z1_s0), .val (.int z2_s0), .val (.long z3_s0), .second, .val (.long z4_s0), .second, .val (.long z5_s0), .second, .val (.long z6_s0), .second, .val (.ref b7), .val (.ref b9), .unset, .unset, .unset, .unset, .unset, .unset] [])) _
              refine XS.iconst X10.here hx rfl (hb hby at_170) ?_
              exact k2
          refine sm13 _ ?_
          exact k2
        · have k2 : Steps p.tables e below (T10.setTop (mkF m 171 #[.val (.long q0), .second, .val (.long q1), .second, .val (.long q2), .second, .val (.long q3), .second, .val (.long q4), .second, .val (.int p5), .val (.int z1_s0), .val (.int z2_s0), .val (.long z3_s0), .second, .val (.long z4_s0), .second, .val (.long z5_s0), .second, .val (.long z6_s0), .second, .val (.ref b7), .val (.ref b9), .unset, .unset, .unset, .unset, .unset, .unset] [(.int (0 : Int32))])) t := by simpa only [if_neg hc140_12] using k
          show Steps p.tables e below (T10.setTop (mkF m 140 #[.val (.long q0), .second, .val (.long q1), .second, .val (.long q2), .second, .val (.long q3), .second, .val (.long q4), .second, .val (.int p5), .val (.int z1_s0), .val (.int z2_s0), .val (.long z3_s0), .second, .val (.long z4_s0), .second, .val (.long z5_s0), .second, .val (.long z6_s0), .second, .val (.ref b7), .val (.ref b9), .unset, .unset, .unset, .unset, .unset, .unset] [(.int (lcmpW q0 z3_s0))])) _
          refine XS.ifYes X10.here hx rfl (pc0 := 140) (pc' := 170) rfl (hb hby at_140) rfl ((if0 _ _).trans (feq (mt (lw_eq q0 z3_s0).mp hc140_12)).2) (by decide) (by decide) ?_
          show Steps p.tables e below (T10.setTop (mkF m 170 #[.val (.long q0), .second, .val (.long q1), .second, .val (.long q2), .second, .val (.long q3), .second, .val (.long q4), .second, .val (.int p5), .val (.int z1_s0), .val (.int z2_s0), .val (.long z3_s0), .second, .val (.long z4_s0), .second, .val (.long z5_s0), .second, .val (.long z6_s0), .second, .val (.ref b7), .val (.ref b9), .unset, .unset, .unset, .unset, .unset, .unset] [])) _
          refine XS.iconst X10.here hx rfl (hb hby at_170) ?_
          exact k2
      refine sm12 _ ?_
      exact k2
    · have k2 : Steps p.tables e below (T10.setTop (mkF m 171 #[.val (.long q0), .second, .val (.long q1), .second, .val (.long q2), .second, .val (.long q3), .second, .val (.long q4), .second, .val (.int p5), .val (.int z1_s0), .val (.int z2_s0), .val (.long z3_s0), .second, .val (.long z4_s0), .second, .val (.long z5_s0), .second, .val (.long z6_s0), .second, .val (.ref b7), .val (.ref b9), .unset, .unset, .unset, .unset, .unset, .unset] [(.int (0 : Int32))])) t := by simpa only [hz11_s0, if_neg hc133_11] using k
      show Steps p.tables e below (T10.setTop (mkF m 133 #[.val (.long q0), .second, .val (.long q1), .second, .val (.long q2), .second, .val (.long q3), .second, .val (.long q4), .second, .val (.int p5), .val (.int z1_s0), .val (.int z2_s0), .val (.long z3_s0), .second, .val (.long z4_s0), .second, .val (.long z5_s0), .second, .val (.long z6_s0), .second, .val (.ref b7), .val (.ref b9), .unset, .unset, .unset, .unset, .unset, .unset] [(.int z2_s0), (.int z1_s0)])) _
      refine XS.icmpYes X10.here hx rfl (pc0 := 133) (pc' := 170) rfl (hb hby at_133) rfl (feq hc133_11).2 (by decide) (by decide) ?_
      show Steps p.tables e below (T10.setTop (mkF m 170 #[.val (.long q0), .second, .val (.long q1), .second, .val (.long q2), .second, .val (.long q3), .second, .val (.long q4), .second, .val (.int p5), .val (.int z1_s0), .val (.int z2_s0), .val (.long z3_s0), .second, .val (.long z4_s0), .second, .val (.long z5_s0), .second, .val (.long z6_s0), .second, .val (.ref b7), .val (.ref b9), .unset, .unset, .unset, .unset, .unset, .unset] [])) _
      refine XS.iconst X10.here hx rfl (hb hby at_170) ?_
      exact k2
  refine Goes.go sm11 ?_
  show Goes p e below s _ _ _ (T10.setTop (mkF m 171 #[.val (.long q0), .second, .val (.long q1), .second, .val (.long q2), .second, .val (.long q3), .second, .val (.long q4), .second, .val (.int p5), .val (.int z1_s0), .val (.int z2_s0), .val (.long z3_s0), .second, .val (.long z4_s0), .second, .val (.long z5_s0), .second, .val (.long z6_s0), .second, .val (.ref b7), .val (.ref b9), .unset, .unset, .unset, .unset, .unset, .unset] [(.int z11_s0)]))
  refine Goes.go (fun _ k => XS.istore X10.here hx rfl (hb hby at_171) rfl (l' := #[.val (.long q0), .second, .val (.long q1), .second, .val (.long q2), .second, .val (.long q3), .second, .val (.long q4), .second, .val (.int p5), .val (.int z1_s0), .val (.int z2_s0), .val (.long z3_s0), .second, .val (.long z4_s0), .second, .val (.long z5_s0), .second, .val (.long z6_s0), .second, .val (.ref b7), .val (.ref b9), .val (.int z11_s0), .unset, .unset, .unset, .unset, .unset]) rfl k) ?_
  show Goes p e below s _ _ _ (T10.setTop (mkF m 173 #[.val (.long q0), .second, .val (.long q1), .second, .val (.long q2), .second, .val (.long q3), .second, .val (.long q4), .second, .val (.int p5), .val (.int z1_s0), .val (.int z2_s0), .val (.long z3_s0), .second, .val (.long z4_s0), .second, .val (.long z5_s0), .second, .val (.long z6_s0), .second, .val (.ref b7), .val (.ref b9), .val (.int z11_s0), .unset, .unset, .unset, .unset, .unset] []))
  refine Goes.go (fun _ k => XS.aload X10.here hx rfl (hb hby at_173) rfl rfl  k) ?_
  show Goes p e below s _ _ _ (T10.setTop (mkF m 175 #[.val (.long q0), .second, .val (.long q1), .second, .val (.long q2), .second, .val (.long q3), .second, .val (.long q4), .second, .val (.int p5), .val (.int z1_s0), .val (.int z2_s0), .val (.long z3_s0), .second, .val (.long z4_s0), .second, .val (.long z5_s0), .second, .val (.long z6_s0), .second, .val (.ref b7), .val (.ref b9), .val (.int z11_s0), .unset, .unset, .unset, .unset, .unset] [(.ref b7)]))
  refine Goes.go (fun _ k => XS.aload X10.here hx rfl (hb hby at_175) rfl rfl  k) ?_
  show Goes p e below s _ _ _ (T10.setTop (mkF m 177 #[.val (.long q0), .second, .val (.long q1), .second, .val (.long q2), .second, .val (.long q3), .second, .val (.long q4), .second, .val (.int p5), .val (.int z1_s0), .val (.int z2_s0), .val (.long z3_s0), .second, .val (.long z4_s0), .second, .val (.long z5_s0), .second, .val (.long z6_s0), .second, .val (.ref b7), .val (.ref b9), .val (.int z11_s0), .unset, .unset, .unset, .unset, .unset] [(.ref b9), (.ref b7)]))
  obtain ⟨cq16, kq16, q16a, q16b, q16c⟩ := isOf hZ e10 ((G8_0.ext E9).keep Kq10)
  obtain ⟨_, _, ⟨T16, L16, k16, n16⟩, -, X16, ⟨Lc16, hQ16, l16, y16, z16⟩, st16⟩ := X10.virtualBack hx (y := (⟨"com/example/danaid/danaid/Decision", "equals", "(Ljava/lang/Object;)Z"⟩ : MethodName)) (z := (⟨"com/example/danaid/danaid/Decision", "equals", "(Ljava/lang/Object;)Z"⟩ : MethodName)) hown (mvT hZ (hw _ (List.mem_of_getElem? (i := 19) rfl))) (mvT hZ (hw _ (List.mem_of_getElem? (i := 20) rfl))) (notFace_of_selects (args := #[]) (mvT hZ (hw _ (List.mem_of_getElem? (i := 22) rfl)))) (mvT hZ (hw _ (List.mem_of_getElem? (i := 22) rfl))) (mvT hZ (hw _ (List.mem_of_getElem? (i := 21) rfl))) (by decide) (backOf (W := 0) (rm3 l Z a0 hw [] b7 b9 (nar .boolean z1_s0) q0 q1 q2 q3 (nar .boolean z2_s0) z3_s0 z4_s0 z5_s0 z6_s0 h10 n0 Z10 G10_0 ((G8_1.ext E9).keep Kq10 (ninS (Nat.ne_of_lt (Nat.lt_of_lt_of_le G8_0.lt (Nat.le_of_eq g9.symm))) nin0)) ((G8_2.ext E9).keep Kq10 (ninS (Nat.ne_of_lt (Nat.lt_of_lt_of_le G8_0.lt (Nat.le_of_eq g9.symm))) nin0)) ((G8_3.ext E9).keep Kq10 (ninS (Nat.ne_of_lt (Nat.lt_of_lt_of_le G8_0.lt (Nat.le_of_eq g9.symm))) nin0)) ((G8_4.ext E9).keep Kq10 (ninS (Nat.ne_of_lt (Nat.lt_of_lt_of_le G8_0.lt (Nat.le_of_eq g9.symm))) nin0)) ((G8_5.ext E9).keep Kq10 (ninS (Nat.ne_of_lt (Nat.lt_of_lt_of_le G8_0.lt (Nat.le_of_eq g9.symm))) nin0)) G10_1 G10_2 G10_3 G10_4 G10_5) hZ (hw _ (List.mem_of_getElem? (i := 23) rfl)) (hw _ (List.mem_of_getElem? (i := 2) rfl)) (by decide) (by decide)) q16a q16c (g := (mkF m 177 #[.val (.long q0), .second, .val (.long q1), .second, .val (.long q2), .second, .val (.long q3), .second, .val (.long q4), .second, .val (.int p5), .val (.int z1_s0), .val (.int z2_s0), .val (.long z3_s0), .second, .val (.long z4_s0), .second, .val (.long z5_s0), .second, .val (.long z6_s0), .second, .val (.ref b7), .val (.ref b9), .val (.int z11_s0), .unset, .unset, .unset, .unset, .unset] [(.ref b9), (.ref b7)])) rfl (by rw [hml]; rfl) (Steps.refl _) (argsL := [(.ref b9)]) (rest := []) (lenOf pd_3 rfl) rfl (by show 2 * 0 + _ ≤ _; exact Nat.le_of_eq rfl) (hb hby at_177) (fun _ _ => ⟨rfl, e10, (by decide : 2 + 0 ≤ _), (by decide : 10 + 0 ≤ _)⟩)
  dsimp only [Pt.U, Pt.locs, Pt.cells, Pt.slots] at X16 l16 y16 z16 st16 hQ16
  subst l16 y16 z16
  obtain ⟨rfl, N16q, e16⟩ := hQ16
  have N16 := Fr.app N10 N16q
  refine Goes.tr st16 ?_
  show Goes p e below s _ _ _ (T16.setTop (mkF m 180 #[.val (.long q0), .second, .val (.long q1), .second, .val (.long q2), .second, .val (.long q3), .second, .val (.long q4), .second, .val (.int p5), .val (.int z1_s0), .val (.int z2_s0), .val (.long z3_s0), .second, .val (.long z4_s0), .second, .val (.long z5_s0), .second, .val (.long z6_s0), .second, .val (.ref b7), .val (.ref b9), .val (.int z11_s0), .unset, .unset, .unset, .unset, .unset] [(.int (f3 b7 b9 (nar .boolean z1_s0) q0 q1 q2 q3 (nar .boolean z2_s0) z3_s0 z4_s0 z5_s0 z6_s0))]))
  refine Goes.go (fun _ k => XS.istore X16.here hx rfl (hb hby at_180) rfl (l' := #[.val (.long q0), .second, .val (.long q1), .second, .val (.long q2), .second, .val (.long q3), .second, .val (.long q4), .second, .val (.int p5), .val (.int z1_s0), .val (.int z2_s0), .val (.long z3_s0), .second, .val (.long z4_s0), .second, .val (.long z5_s0), .second, .val (.long z6_s0), .second, .val (.ref b7), .val (.ref b9), .val (.int z11_s0), .val (.int (f3 b7 b9 (nar .boolean z1_s0) q0 q1 q2 q3 (nar .boolean z2_s0) z3_s0 z4_s0 z5_s0 z6_s0)), .unset, .unset, .unset, .unset]) rfl k) ?_
  show Goes p e below s _ _ _ (T16.setTop (mkF m 182 #[.val (.long q0), .second, .val (.long q1), .second, .val (.long q2), .second, .val (.long q3), .second, .val (.long q4), .second, .val (.int p5), .val (.int z1_s0), .val (.int z2_s0), .val (.long z3_s0), .second, .val (.long z4_s0), .second, .val (.long z5_s0), .second, .val (.long z6_s0), .second, .val (.ref b7), .val (.ref b9), .val (.int z11_s0), .val (.int (f3 b7 b9 (nar .boolean z1_s0) q0 q1 q2 q3 (nar .boolean z2_s0) z3_s0 z4_s0 z5_s0 z6_s0)), .unset, .unset, .unset, .unset] []))
  refine Goes.go (fun _ k => XS.aload X16.here hx rfl (hb hby at_182) rfl rfl  k) ?_
  show Goes p e below s _ _ _ (T16.setTop (mkF m 184 #[.val (.long q0), .second, .val (.long q1), .second, .val (.long q2), .second, .val (.long q3), .second, .val (.long q4), .second, .val (.int p5), .val (.int z1_s0), .val (.int z2_s0), .val (.long z3_s0), .second, .val (.long z4_s0), .second, .val (.long z5_s0), .second, .val (.long z6_s0), .second, .val (.ref b7), .val (.ref b9), .val (.int z11_s0), .val (.int (f3 b7 b9 (nar .boolean z1_s0) q0 q1 q2 q3 (nar .boolean z2_s0) z3_s0 z4_s0 z5_s0 z6_s0)), .unset, .unset, .unset, .unset] [(.ref b9)]))
  refine Goes.go (fun _ k => XS.aload X16.here hx rfl (hb hby at_184) rfl rfl  k) ?_
  show Goes p e below s _ _ _ (T16.setTop (mkF m 186 #[.val (.long q0), .second, .val (.long q1), .second, .val (.long q2), .second, .val (.long q3), .second, .val (.long q4), .second, .val (.int p5), .val (.int z1_s0), .val (.int z2_s0), .val (.long z3_s0), .second, .val (.long z4_s0), .second, .val (.long z5_s0), .second, .val (.long z6_s0), .second, .val (.ref b7), .val (.ref b9), .val (.int z11_s0), .val (.int (f3 b7 b9 (nar .boolean z1_s0) q0 q1 q2 q3 (nar .boolean z2_s0) z3_s0 z4_s0 z5_s0 z6_s0)), .unset, .unset, .unset, .unset] [(.ref b7), (.ref b9)]))
  obtain ⟨cq17, kq17, q17a, q17b, q17c⟩ := isOf hZ e16 G10_0
  obtain ⟨_, _, ⟨T17, L17, k17, n17⟩, -, X17, ⟨Lc17, hQ17, l17, y17, z17⟩, st17⟩ := X16.virtualBack hx (y := (⟨"com/example/danaid/danaid/Decision", "equals", "(Ljava/lang/Object;)Z"⟩ : MethodName)) (z := (⟨"com/example/danaid/danaid/Decision", "equals", "(Ljava/lang/Object;)Z"⟩ : MethodName)) hown (mvT hZ (hw _ (List.mem_of_getElem? (i := 19) rfl))) (mvT hZ (hw _ (List.mem_of_getElem? (i := 20) rfl))) (notFace_of_selects (args := #[]) (mvT hZ (hw _ (List.mem_of_getElem? (i := 22) rfl)))) (mvT hZ (hw _ (List.mem_of_getElem? (i := 22) rfl))) (mvT hZ (hw _ (List.mem_of_getElem? (i := 21) rfl))) (by decide) (backOf (W := 0) (rm3 l Z a0 hw [] b9 b7 (nar .boolean z2_s0) z3_s0 z4_s0 z5_s0 z6_s0 (nar .boolean z1_s0) q0 q1 q2 q3 h10 n0 Z10 ((G8_0.ext E9).keep Kq10) G10_1 G10_2 G10_3 G10_4 G10_5 ((G8_1.ext E9).keep Kq10 (ninS (Nat.ne_of_lt (Nat.lt_of_lt_of_le G8_0.lt (Nat.le_of_eq g9.symm))) nin0)) ((G8_2.ext E9).keep Kq10 (ninS (Nat.ne_of_lt (Nat.lt_of_lt_of_le G8_0.lt (Nat.le_of_eq g9.symm))) nin0)) ((G8_3.ext E9).keep Kq10 (ninS (Nat.ne_of_lt (Nat.lt_of_lt_of_le G8_0.lt (Nat.le_of_eq g9.symm))) nin0)) ((G8_4.ext E9).keep Kq10 (ninS (Nat.ne_of_lt (Nat.lt_of_lt_of_le G8_0.lt (Nat.le_of_eq g9.symm))) nin0)) ((G8_5.ext E9).keep Kq10 (ninS (Nat.ne_of_lt (Nat.lt_of_lt_of_le G8_0.lt (Nat.le_of_eq g9.symm))) nin0))) hZ (hw _ (List.mem_of_getElem? (i := 23) rfl)) (hw _ (List.mem_of_getElem? (i := 2) rfl)) (by decide) (by decide)) q17a q17c (g := (mkF m 186 #[.val (.long q0), .second, .val (.long q1), .second, .val (.long q2), .second, .val (.long q3), .second, .val (.long q4), .second, .val (.int p5), .val (.int z1_s0), .val (.int z2_s0), .val (.long z3_s0), .second, .val (.long z4_s0), .second, .val (.long z5_s0), .second, .val (.long z6_s0), .second, .val (.ref b7), .val (.ref b9), .val (.int z11_s0), .val (.int (f3 b7 b9 (nar .boolean z1_s0) q0 q1 q2 q3 (nar .boolean z2_s0) z3_s0 z4_s0 z5_s0 z6_s0)), .unset, .unset, .unset, .unset] [(.ref b7), (.ref b9)])) rfl (by rw [hml]; rfl) (Steps.refl _) (argsL := [(.ref b7)]) (rest := []) (lenOf pd_3 rfl) rfl (by show 2 * 0 + _ ≤ _; exact Nat.le_of_eq rfl) (hb hby at_186) (fun _ _ => ⟨rfl, e16, (by decide : 2 + 0 ≤ _), (by decide : 10 + 0 ≤ _)⟩)
  dsimp only [Pt.U, Pt.locs, Pt.cells, Pt.slots] at X17 l17 y17 z17 st17 hQ17
  subst l17 y17 z17
  obtain ⟨rfl, N17q, e17⟩ := hQ17
  have N17 := Fr.app N16 N17q
  refine Goes.tr st17 ?_
  show Goes p e below s _ _ _ (T17.setTop (mkF m 189 #[.val (.long q0), .second, .val (.long q1), .second, .val (.long q2), .second, .val (.long q3), .second, .val (.long q4), .second, .val (.int p5), .val (.int z1_s0), .val (.int z2_s0), .val (.long z3_s0), .second, .val (.long z4_s0), .second, .val (.long z5_s0), .second, .val (.long z6_s0), .second, .val (.ref b7), .val (.ref b9), .val (.int z11_s0), .val (.int (f3 b7 b9 (nar .boolean z1_s0) q0 q1 q2 q3 (nar .boolean z2_s0) z3_s0 z4_s0 z5_s0 z6_s0)), .unset, .unset, .unset, .unset] [(.int (f3 b9 b7 (nar .boolean z2_s0) z3_s0 z4_s0 z5_s0 z6_s0 (nar .boolean z1_s0) q0 q1 q2 q3))]))
  refine Goes.go (fun _ k => XS.istore X17.here hx rfl (hb hby at_189) rfl (l' := #[.val (.long q0), .second, .val (.long q1), .second, .val (.long q2), .second, .val (.long q3), .second, .val (.long q4), .second, .val (.int p5), .val (.int z1_s0), .val (.int z2_s0), .val (.long z3_s0), .second, .val (.long z4_s0), .second, .val (.long z5_s0), .second, .val (.long z6_s0), .second, .val (.ref b7), .val (.ref b9), .val (.int z11_s0), .val (.int (f3 b7 b9 (nar .boolean z1_s0) q0 q1 q2 q3 (nar .boolean z2_s0) z3_s0 z4_s0 z5_s0 z6_s0)), .val (.int (f3 b9 b7 (nar .boolean z2_s0) z3_s0 z4_s0 z5_s0 z6_s0 (nar .boolean z1_s0) q0 q1 q2 q3)), .unset, .unset, .unset]) rfl k) ?_
  show Goes p e below s _ _ _ (T17.setTop (mkF m 191 #[.val (.long q0), .second, .val (.long q1), .second, .val (.long q2), .second, .val (.long q3), .second, .val (.long q4), .second, .val (.int p5), .val (.int z1_s0), .val (.int z2_s0), .val (.long z3_s0), .second, .val (.long z4_s0), .second, .val (.long z5_s0), .second, .val (.long z6_s0), .second, .val (.ref b7), .val (.ref b9), .val (.int z11_s0), .val (.int (f3 b7 b9 (nar .boolean z1_s0) q0 q1 q2 q3 (nar .boolean z2_s0) z3_s0 z4_s0 z5_s0 z6_s0)), .val (.int (f3 b9 b7 (nar .boolean z2_s0) z3_s0 z4_s0 z5_s0 z6_s0 (nar .boolean z1_s0) q0 q1 q2 q3)), .unset, .unset, .unset] []))
  refine Goes.go (fun _ k => XS.aload X17.here hx rfl (hb hby at_191) rfl rfl  k) ?_
  show Goes p e below s _ _ _ (T17.setTop (mkF m 193 #[.val (.long q0), .second, .val (.long q1), .second, .val (.long q2), .second, .val (.long q3), .second, .val (.long q4), .second, .val (.int p5), .val (.int z1_s0), .val (.int z2_s0), .val (.long z3_s0), .second, .val (.long z4_s0), .second, .val (.long z5_s0), .second, .val (.long z6_s0), .second, .val (.ref b7), .val (.ref b9), .val (.int z11_s0), .val (.int (f3 b7 b9 (nar .boolean z1_s0) q0 q1 q2 q3 (nar .boolean z2_s0) z3_s0 z4_s0 z5_s0 z6_s0)), .val (.int (f3 b9 b7 (nar .boolean z2_s0) z3_s0 z4_s0 z5_s0 z6_s0 (nar .boolean z1_s0) q0 q1 q2 q3)), .unset, .unset, .unset] [(.ref b7)]))
  refine Goes.go (fun _ k => XS.aload X17.here hx rfl (hb hby at_193) rfl rfl  k) ?_
  show Goes p e below s _ _ _ (T17.setTop (mkF m 195 #[.val (.long q0), .second, .val (.long q1), .second, .val (.long q2), .second, .val (.long q3), .second, .val (.long q4), .second, .val (.int p5), .val (.int z1_s0), .val (.int z2_s0), .val (.long z3_s0), .second, .val (.long z4_s0), .second, .val (.long z5_s0), .second, .val (.long z6_s0), .second, .val (.ref b7), .val (.ref b9), .val (.int z11_s0), .val (.int (f3 b7 b9 (nar .boolean z1_s0) q0 q1 q2 q3 (nar .boolean z2_s0) z3_s0 z4_s0 z5_s0 z6_s0)), .val (.int (f3 b9 b7 (nar .boolean z2_s0) z3_s0 z4_s0 z5_s0 z6_s0 (nar .boolean z1_s0) q0 q1 q2 q3)), .unset, .unset, .unset] [(.ref b7), (.ref b7)]))
  obtain ⟨cq18, kq18, q18a, q18b, q18c⟩ := isOf hZ e17 ((G8_0.ext E9).keep Kq10)
  obtain ⟨_, _, ⟨T18, L18, k18, n18⟩, -, X18, ⟨Lc18, hQ18, l18, y18, z18⟩, st18⟩ := X17.virtualBack hx (y := (⟨"com/example/danaid/danaid/Decision", "equals", "(Ljava/lang/Object;)Z"⟩ : MethodName)) (z := (⟨"com/example/danaid/danaid/Decision", "equals", "(Ljava/lang/Object;)Z"⟩ : MethodName)) hown (mvT hZ (hw _ (List.mem_of_getElem? (i := 19) rfl))) (mvT hZ (hw _ (List.mem_of_getElem? (i := 20) rfl))) (notFace_of_selects (args := #[]) (mvT hZ (hw _ (List.mem_of_getElem? (i := 22) rfl)))) (mvT hZ (hw _ (List.mem_of_getElem? (i := 22) rfl))) (mvT hZ (hw _ (List.mem_of_getElem? (i := 21) rfl))) (by decide) (backOf (W := 0) (rm3 l Z a0 hw [] b7 b7 (nar .boolean z1_s0) q0 q1 q2 q3 (nar .boolean z1_s0) q0 q1 q2 q3 h10 n0 Z10 ((G8_0.ext E9).keep Kq10) ((G8_1.ext E9).keep Kq10 (ninS (Nat.ne_of_lt (Nat.lt_of_lt_of_le G8_0.lt (Nat.le_of_eq g9.symm))) nin0)) ((G8_2.ext E9).keep Kq10 (ninS (Nat.ne_of_lt (Nat.lt_of_lt_of_le G8_0.lt (Nat.le_of_eq g9.symm))) nin0)) ((G8_3.ext E9).keep Kq10 (ninS (Nat.ne_of_lt (Nat.lt_of_lt_of_le G8_0.lt (Nat.le_of_eq g9.symm))) nin0)) ((G8_4.ext E9).keep Kq10 (ninS (Nat.ne_of_lt (Nat.lt_of_lt_of_le G8_0.lt (Nat.le_of_eq g9.symm))) nin0)) ((G8_5.ext E9).keep Kq10 (ninS (Nat.ne_of_lt (Nat.lt_of_lt_of_le G8_0.lt (Nat.le_of_eq g9.symm))) nin0)) ((G8_1.ext E9).keep Kq10 (ninS (Nat.ne_of_lt (Nat.lt_of_lt_of_le G8_0.lt (Nat.le_of_eq g9.symm))) nin0)) ((G8_2.ext E9).keep Kq10 (ninS (Nat.ne_of_lt (Nat.lt_of_lt_of_le G8_0.lt (Nat.le_of_eq g9.symm))) nin0)) ((G8_3.ext E9).keep Kq10 (ninS (Nat.ne_of_lt (Nat.lt_of_lt_of_le G8_0.lt (Nat.le_of_eq g9.symm))) nin0)) ((G8_4.ext E9).keep Kq10 (ninS (Nat.ne_of_lt (Nat.lt_of_lt_of_le G8_0.lt (Nat.le_of_eq g9.symm))) nin0)) ((G8_5.ext E9).keep Kq10 (ninS (Nat.ne_of_lt (Nat.lt_of_lt_of_le G8_0.lt (Nat.le_of_eq g9.symm))) nin0))) hZ (hw _ (List.mem_of_getElem? (i := 23) rfl)) (hw _ (List.mem_of_getElem? (i := 2) rfl)) (by decide) (by decide)) q18a q18c (g := (mkF m 195 #[.val (.long q0), .second, .val (.long q1), .second, .val (.long q2), .second, .val (.long q3), .second, .val (.long q4), .second, .val (.int p5), .val (.int z1_s0), .val (.int z2_s0), .val (.long z3_s0), .second, .val (.long z4_s0), .second, .val (.long z5_s0), .second, .val (.long z6_s0), .second, .val (.ref b7), .val (.ref b9), .val (.int z11_s0), .val (.int (f3 b7 b9 (nar .boolean z1_s0) q0 q1 q2 q3 (nar .boolean z2_s0) z3_s0 z4_s0 z5_s0 z6_s0)), .val (.int (f3 b9 b7 (nar .boolean z2_s0) z3_s0 z4_s0 z5_s0 z6_s0 (nar .boolean z1_s0) q0 q1 q2 q3)), .unset, .unset, .unset] [(.ref b7), (.ref b7)])) rfl (by rw [hml]; rfl) (Steps.refl _) (argsL := [(.ref b7)]) (rest := []) (lenOf pd_3 rfl) rfl (by show 2 * 0 + _ ≤ _; exact Nat.le_of_eq rfl) (hb hby at_195) (fun _ _ => ⟨rfl, e17, (by decide : 2 + 0 ≤ _), (by decide : 10 + 0 ≤ _)⟩)
  dsimp only [Pt.U, Pt.locs, Pt.cells, Pt.slots] at X18 l18 y18 z18 st18 hQ18
  subst l18 y18 z18
  obtain ⟨rfl, N18q, e18⟩ := hQ18
  have N18 := Fr.app N17 N18q
  refine Goes.tr st18 ?_
  show Goes p e below s _ _ _ (T18.setTop (mkF m 198 #[.val (.long q0), .second, .val (.long q1), .second, .val (.long q2), .second, .val (.long q3), .second, .val (.long q4), .second, .val (.int p5), .val (.int z1_s0), .val (.int z2_s0), .val (.long z3_s0), .second, .val (.long z4_s0), .second, .val (.long z5_s0), .second, .val (.long z6_s0), .second, .val (.ref b7), .val (.ref b9), .val (.int z11_s0), .val (.int (f3 b7 b9 (nar .boolean z1_s0) q0 q1 q2 q3 (nar .boolean z2_s0) z3_s0 z4_s0 z5_s0 z6_s0)), .val (.int (f3 b9 b7 (nar .boolean z2_s0) z3_s0 z4_s0 z5_s0 z6_s0 (nar .boolean z1_s0) q0 q1 q2 q3)), .unset, .unset, .unset] [(.int (f3 b7 b7 (nar .boolean z1_s0) q0 q1 q2 q3 (nar .boolean z1_s0) q0 q1 q2 q3))]))
  refine Goes.go (fun _ k => XS.istore X18.here hx rfl (hb hby at_198) rfl (l' := #[.val (.long q0), .second, .val (.long q1), .second, .val (.long q2), .second, .val (.long q3), .second, .val (.long q4), .second, .val (.int p5), .val (.int z1_s0), .val (.int z2_s0), .val (.long z3_s0), .second, .val (.long z4_s0), .second, .val (.long z5_s0), .second, .val (.long z6_s0), .second, .val (.ref b7), .val (.ref b9), .val (.int z11_s0), .val (.int (f3 b7 b9 (nar .boolean z1_s0) q0 q1 q2 q3 (nar .boolean z2_s0) z3_s0 z4_s0 z5_s0 z6_s0)), .val (.int (f3 b9 b7 (nar .boolean z2_s0) z3_s0 z4_s0 z5_s0 z6_s0 (nar .boolean z1_s0) q0 q1 q2 q3)), .val (.int (f3 b7 b7 (nar .boolean z1_s0) q0 q1 q2 q3 (nar .boolean z1_s0) q0 q1 q2 q3)), .unset, .unset]) rfl k) ?_
  show Goes p e below s _ _ _ (T18.setTop (mkF m 200 #[.val (.long q0), .second, .val (.long q1), .second, .val (.long q2), .second, .val (.long q3), .second, .val (.long q4), .second, .val (.int p5), .val (.int z1_s0), .val (.int z2_s0), .val (.long z3_s0), .second, .val (.long z4_s0), .second, .val (.long z5_s0), .second, .val (.long z6_s0), .second, .val (.ref b7), .val (.ref b9), .val (.int z11_s0), .val (.int (f3 b7 b9 (nar .boolean z1_s0) q0 q1 q2 q3 (nar .boolean z2_s0) z3_s0 z4_s0 z5_s0 z6_s0)), .val (.int (f3 b9 b7 (nar .boolean z2_s0) z3_s0 z4_s0 z5_s0 z6_s0 (nar .boolean z1_s0) q0 q1 q2 q3)), .val (.int (f3 b7 b7 (nar .boolean z1_s0) q0 q1 q2 q3 (nar .boolean z1_s0) q0 q1 q2 q3)), .unset, .unset] []))
  refine Goes.go (fun _ k => XS.aload X18.here hx rfl (hb hby at_200) rfl rfl  k) ?_
  show Goes p e below s _ _ _ (T18.setTop (mkF m 202 #[.val (.long q0), .second, .val (.long q1), .second, .val (.long q2), .second, .val (.long q3), .second, .val (.long q4), .second, .val (.int p5), .val (.int z1_s0), .val (.int z2_s0), .val (.long z3_s0), .second, .val (.long z4_s0), .second, .val (.long z5_s0), .second, .val (.long z6_s0), .second, .val (.ref b7), .val (.ref b9), .val (.int z11_s0), .val (.int (f3 b7 b9 (nar .boolean z1_s0) q0 q1 q2 q3 (nar .boolean z2_s0) z3_s0 z4_s0 z5_s0 z6_s0)), .val (.int (f3 b9 b7 (nar .boolean z2_s0) z3_s0 z4_s0 z5_s0 z6_s0 (nar .boolean z1_s0) q0 q1 q2 q3)), .val (.int (f3 b7 b7 (nar .boolean z1_s0) q0 q1 q2 q3 (nar .boolean z1_s0) q0 q1 q2 q3)), .unset, .unset] [(.ref b7)]))
  refine Goes.go (fun _ k => XS.aconstNull X18.here hx rfl (hb hby at_202) k) ?_
  show Goes p e below s _ _ _ (T18.setTop (mkF m 203 #[.val (.long q0), .second, .val (.long q1), .second, .val (.long q2), .second, .val (.long q3), .second, .val (.long q4), .second, .val (.int p5), .val (.int z1_s0), .val (.int z2_s0), .val (.long z3_s0), .second, .val (.long z4_s0), .second, .val (.long z5_s0), .second, .val (.long z6_s0), .second, .val (.ref b7), .val (.ref b9), .val (.int z11_s0), .val (.int (f3 b7 b9 (nar .boolean z1_s0) q0 q1 q2 q3 (nar .boolean z2_s0) z3_s0 z4_s0 z5_s0 z6_s0)), .val (.int (f3 b9 b7 (nar .boolean z2_s0) z3_s0 z4_s0 z5_s0 z6_s0 (nar .boolean z1_s0) q0 q1 q2 q3)), .val (.int (f3 b7 b7 (nar .boolean z1_s0) q0 q1 q2 q3 (nar .boolean z1_s0) q0 q1 q2 q3)), .unset, .unset] [.null, (.ref b7)]))
  obtain ⟨cq19, kq19, q19a, q19b, q19c⟩ := isOf hZ e18 ((G8_0.ext E9).keep Kq10)
  obtain ⟨_, _, ⟨T19, L19, k19, n19⟩, -, X19, ⟨Lc19, hQ19, l19, y19, z19⟩, st19⟩ := X18.virtualBack hx (y := (⟨"com/example/danaid/danaid/Decision", "equals", "(Ljava/lang/Object;)Z"⟩ : MethodName)) (z := (⟨"com/example/danaid/danaid/Decision", "equals", "(Ljava/lang/Object;)Z"⟩ : MethodName)) hown (mvT hZ (hw _ (List.mem_of_getElem? (i := 19) rfl))) (mvT hZ (hw _ (List.mem_of_getElem? (i := 20) rfl))) (notFace_of_selects (args := #[]) (mvT hZ (hw _ (List.mem_of_getElem? (i := 22) rfl)))) (mvT hZ (hw _ (List.mem_of_getElem? (i := 22) rfl))) (mvT hZ (hw _ (List.mem_of_getElem? (i := 21) rfl))) (by decide) (backOf (W := 0) (rm3n l Z a0 hw [] b7 h10 n0 Z10 ) hZ (hw _ (List.mem_of_getElem? (i := 23) rfl)) (hw _ (List.mem_of_getElem? (i := 2) rfl)) (by decide) (by decide)) q19a q19c (g := (mkF m 203 #[.val (.long q0), .second, .val (.long q1), .second, .val (.long q2), .second, .val (.long q3), .second, .val (.long q4), .second, .val (.int p5), .val (.int z1_s0), .val (.int z2_s0), .val (.long z3_s0), .second, .val (.long z4_s0), .second, .val (.long z5_s0), .second, .val (.long z6_s0), .second, .val (.ref b7), .val (.ref b9), .val (.int z11_s0), .val (.int (f3 b7 b9 (nar .boolean z1_s0) q0 q1 q2 q3 (nar .boolean z2_s0) z3_s0 z4_s0 z5_s0 z6_s0)), .val (.int (f3 b9 b7 (nar .boolean z2_s0) z3_s0 z4_s0 z5_s0 z6_s0 (nar .boolean z1_s0) q0 q1 q2 q3)), .val (.int (f3 b7 b7 (nar .boolean z1_s0) q0 q1 q2 q3 (nar .boolean z1_s0) q0 q1 q2 q3)), .unset, .unset] [.null, (.ref b7)])) rfl (by rw [hml]; rfl) (Steps.refl _) (argsL := [.null]) (rest := []) (lenOf pd_3 rfl) rfl (by show 2 * 0 + _ ≤ _; exact Nat.le_of_eq rfl) (hb hby at_203) (fun _ _ => ⟨rfl, e18, (by decide : 2 + 0 ≤ _), (by decide : 10 + 0 ≤ _)⟩)
  dsimp only [Pt.U, Pt.locs, Pt.cells, Pt.slots] at X19 l19 y19 z19 st19 hQ19
  subst l19 y19 z19
  obtain ⟨rfl, N19q, e19⟩ := hQ19
  have N19 := Fr.app N18 N19q
  refine Goes.tr st19 ?_
  show Goes p e below s _ _ _ (T19.setTop (mkF m 206 #[.val (.long q0), .second, .val (.long q1), .second, .val (.long q2), .second, .val (.long q3), .second, .val (.long q4), .second, .val (.int p5), .val (.int z1_s0), .val (.int z2_s0), .val (.long z3_s0), .second, .val (.long z4_s0), .second, .val (.long z5_s0), .second, .val (.long z6_s0), .second, .val (.ref b7), .val (.ref b9), .val (.int z11_s0), .val (.int (f3 b7 b9 (nar .boolean z1_s0) q0 q1 q2 q3 (nar .boolean z2_s0) z3_s0 z4_s0 z5_s0 z6_s0)), .val (.int (f3 b9 b7 (nar .boolean z2_s0) z3_s0 z4_s0 z5_s0 z6_s0 (nar .boolean z1_s0) q0 q1 q2 q3)), .val (.int (f3 b7 b7 (nar .boolean z1_s0) q0 q1 q2 q3 (nar .boolean z1_s0) q0 q1 q2 q3)), .unset, .unset] [(.int (f3n b7))]))
  refine Goes.go (fun _ k => XS.istore X19.here hx rfl (hb hby at_206) rfl (l' := #[.val (.long q0), .second, .val (.long q1), .second, .val (.long q2), .second, .val (.long q3), .second, .val (.long q4), .second, .val (.int p5), .val (.int z1_s0), .val (.int z2_s0), .val (.long z3_s0), .second, .val (.long z4_s0), .second, .val (.long z5_s0), .second, .val (.long z6_s0), .second, .val (.ref b7), .val (.ref b9), .val (.int z11_s0), .val (.int (f3 b7 b9 (nar .boolean z1_s0) q0 q1 q2 q3 (nar .boolean z2_s0) z3_s0 z4_s0 z5_s0 z6_s0)), .val (.int (f3 b9 b7 (nar .boolean z2_s0) z3_s0 z4_s0 z5_s0 z6_s0 (nar .boolean z1_s0) q0 q1 q2 q3)), .val (.int (f3 b7 b7 (nar .boolean z1_s0) q0 q1 q2 q3 (nar .boolean z1_s0) q0 q1 q2 q3)), .val (.int (f3n b7)), .unset]) rfl k) ?_
  show Goes p e below s _ _ _ (T19.setTop (mkF m 208 #[.val (.long q0), .second, .val (.long q1), .second, .val (.long q2), .second, .val (.long q3), .second, .val (.long q4), .second, .val (.int p5), .val (.int z1_s0), .val (.int z2_s0), .val (.long z3_s0), .second, .val (.long z4_s0), .second, .val (.long z5_s0), .second, .val (.long z6_s0), .second, .val (.ref b7), .val (.ref b9), .val (.int z11_s0), .val (.int (f3 b7 b9 (nar .boolean z1_s0) q0 q1 q2 q3 (nar .boolean z2_s0) z3_s0 z4_s0 z5_s0 z6_s0)), .val (.int (f3 b9 b7 (nar .boolean z2_s0) z3_s0 z4_s0 z5_s0 z6_s0 (nar .boolean z1_s0) q0 q1 q2 q3)), .val (.int (f3 b7 b7 (nar .boolean z1_s0) q0 q1 q2 q3 (nar .boolean z1_s0) q0 q1 q2 q3)), .val (.int (f3n b7)), .unset] []))
  refine Goes.go (fun _ k => XS.aload X19.here hx rfl (hb hby at_208) rfl rfl  k) ?_
  show Goes p e below s _ _ _ (T19.setTop (mkF m 210 #[.val (.long q0), .second, .val (.long q1), .second, .val (.long q2), .second, .val (.long q3), .second, .val (.long q4), .second, .val (.int p5), .val (.int z1_s0), .val (.int z2_s0), .val (.long z3_s0), .second, .val (.long z4_s0), .second, .val (.long z5_s0), .second, .val (.long z6_s0), .second, .val (.ref b7), .val (.ref b9), .val (.int z11_s0), .val (.int (f3 b7 b9 (nar .boolean z1_s0) q0 q1 q2 q3 (nar .boolean z2_s0) z3_s0 z4_s0 z5_s0 z6_s0)), .val (.int (f3 b9 b7 (nar .boolean z2_s0) z3_s0 z4_s0 z5_s0 z6_s0 (nar .boolean z1_s0) q0 q1 q2 q3)), .val (.int (f3 b7 b7 (nar .boolean z1_s0) q0 q1 q2 q3 (nar .boolean z1_s0) q0 q1 q2 q3)), .val (.int (f3n b7)), .unset] [(.ref b7)]))
  refine Goes.go (fun _ k => XS.lloadN X19.here hx rfl (hb hby at_210) rfl  k) ?_
  show Goes p e below s _ _ _ (T19.setTop (mkF m 211 #[.val (.long q0), .second, .val (.long q1), .second, .val (.long q2), .second, .val (.long q3), .second, .val (.long q4), .second, .val (.int p5), .val (.int z1_s0), .val (.int z2_s0), .val (.long z3_s0), .second, .val (.long z4_s0), .second, .val (.long z5_s0), .second, .val (.long z6_s0), .second, .val (.ref b7), .val (.ref b9), .val (.int z11_s0), .val (.int (f3 b7 b9 (nar .boolean z1_s0) q0 q1 q2 q3 (nar .boolean z2_s0) z3_s0 z4_s0 z5_s0 z6_s0)), .val (.int (f3 b9 b7 (nar .boolean z2_s0) z3_s0 z4_s0 z5_s0 z6_s0 (nar .boolean z1_s0) q0 q1 q2 q3)), .val (.int (f3 b7 b7 (nar .boolean z1_s0) q0 q1 q2 q3 (nar .boolean z1_s0) q0 q1 q2 q3)), .val (.int (f3n b7)), .unset] [(.long q0), (.ref b7)]))
  obtain ⟨_, _, ⟨T20, L20, k20, n20⟩, -, X20, ⟨Lc20, hQ20, l20, y20, z20⟩, st20⟩ := Jvm.LawKit.callS X19 hx (y := (⟨"java/lang/Long", "valueOf", "(J)Ljava/lang/Long;"⟩ : MethodName)) hown (mvT hZ (hw _ (List.mem_of_getElem? (i := 26) rfl))) (mvT hZ (hw _ (List.mem_of_getElem? (i := 27) rfl))) (mvT hZ (hw _ (List.mem_of_getElem? (i := 28) rfl))) (mvT hZ (hw _ (List.mem_of_getElem? (i := 29) rfl))) (by decide) (backOf (W := 1) (rm4 l Z a0 hw [] q0 ca h10 n0 Z10 (S_cache.ext (own_kx K10)) (HC.ext (own_kx K10))) hZ (hw _ (List.mem_of_getElem? (i := 29) rfl)) (hw _ (List.mem_of_getElem? (i := 28) rfl)) (by decide) (by decide)) (g := (mkF m 211 #[.val (.long q0), .second, .val (.long q1), .second, .val (.long q2), .second, .val (.long q3), .second, .val (.long q4), .second, .val (.int p5), .val (.int z1_s0), .val (.int z2_s0), .val (.long z3_s0), .second, .val (.long z4_s0), .second, .val (.long z5_s0), .second, .val (.long z6_s0), .second, .val (.ref b7), .val (.ref b9), .val (.int z11_s0), .val (.int (f3 b7 b9 (nar .boolean z1_s0) q0 q1 q2 q3 (nar .boolean z2_s0) z3_s0 z4_s0 z5_s0 z6_s0)), .val (.int (f3 b9 b7 (nar .boolean z2_s0) z3_s0 z4_s0 z5_s0 z6_s0 (nar .boolean z1_s0) q0 q1 q2 q3)), .val (.int (f3 b7 b7 (nar .boolean z1_s0) q0 q1 q2 q3 (nar .boolean z1_s0) q0 q1 q2 q3)), .val (.int (f3n b7)), .unset] [(.long q0), (.ref b7)])) rfl (by rw [hml]; rfl) (argsL := [(.long q0)]) (rest := [(.ref b7)]) (lenOf pd_4 rfl) rfl (by show 2 * 0 + _ ≤ _; exact Nat.le_of_eq rfl) (hb hby at_211) (fun _ _ => ⟨rfl, e19, (by decide : 2 + 1 ≤ _), (by decide : 10 + 1 ≤ _)⟩)
  dsimp only [Pt.U, Pt.locs, Pt.cells, Pt.slots] at X20 l20 y20 z20 st20 hQ20
  subst l20 y20 z20
  obtain ⟨h20, e20⟩ : ∃ z, T20.heap = z := ⟨_, rfl⟩
  rw [e20] at hQ20
  obtain ⟨a20, rfl, N20q, Kq20, Ea20⟩ := hQ20
  have N20 := Fr.app N19 N20q
  have K20 := Keep.trans K10 Kq20 all0
  have Z20 := Nat.le_trans Z10 Kq20.1
  refine Goes.go st20 ?_
  show Goes p e below s _ _ _ (T20.setTop (mkF m 214 #[.val (.long q0), .second, .val (.long q1), .second, .val (.long q2), .second, .val (.long q3), .second, .val (.long q4), .second, .val (.int p5), .val (.int z1_s0), .val (.int z2_s0), .val (.long z3_s0), .second, .val (.long z4_s0), .second, .val (.long z5_s0), .second, .val (.long z6_s0), .second, .val (.ref b7), .val (.ref b9), .val (.int z11_s0), .val (.int (f3 b7 b9 (nar .boolean z1_s0) q0 q1 q2 q3 (nar .boolean z2_s0) z3_s0 z4_s0 z5_s0 z6_s0)), .val (.int (f3 b9 b7 (nar .boolean z2_s0) z3_s0 z4_s0 z5_s0 z6_s0 (nar .boolean z1_s0) q0 q1 q2 q3)), .val (.int (f3 b7 b7 (nar .boolean z1_s0) q0 q1 q2 q3 (nar .boolean z1_s0) q0 q1 q2 q3)), .val (.int (f3n b7)), .unset] [(.ref a20), (.ref b7)]))
  obtain ⟨cq21, kq21, q21a, q21b, q21c⟩ := isOf hZ e20 (((G8_0.ext E9).keep Kq10).keep Kq20)
  obtain ⟨_, _, ⟨T21, L21, k21, n21⟩, -, X21, ⟨Lc21, hQ21, l21, y21, z21⟩, st21⟩ := X20.virtualBack hx (y := (⟨"com/example/danaid/danaid/Decision", "equals", "(Ljava/lang/Object;)Z"⟩ : MethodName)) (z := (⟨"com/example/danaid/danaid/Decision", "equals", "(Ljava/lang/Object;)Z"⟩ : MethodName)) hown (mvT hZ (hw _ (List.mem_of_getElem? (i := 19) rfl))) (mvT hZ (hw _ (List.mem_of_getElem? (i := 20) rfl))) (notFace_of_selects (args := #[]) (mvT hZ (hw _ (List.mem_of_getElem? (i := 22) rfl)))) (mvT hZ (hw _ (List.mem_of_getElem? (i := 22) rfl))) (mvT hZ (hw _ (List.mem_of_getElem? (i := 21) rfl))) (by decide) (backOf (W := 0) (rm3o l Z a0 hw [] b7 a20 h20 n0 Z20 Ea20) hZ (hw _ (List.mem_of_getElem? (i := 23) rfl)) (hw _ (List.mem_of_getElem? (i := 2) rfl)) (by decide) (by decide)) q21a q21c (g := (mkF m 214 #[.val (.long q0), .second, .val (.long q1), .second, .val (.long q2), .second, .val (.long q3), .second, .val (.long q4), .second, .val (.int p5), .val (.int z1_s0), .val (.int z2_s0), .val (.long z3_s0), .second, .val (.long z4_s0), .second, .val (.long z5_s0), .second, .val (.long z6_s0), .second, .val (.ref b7), .val (.ref b9), .val (.int z11_s0), .val (.int (f3 b7 b9 (nar .boolean z1_s0) q0 q1 q2 q3 (nar .boolean z2_s0) z3_s0 z4_s0 z5_s0 z6_s0)), .val (.int (f3 b9 b7 (nar .boolean z2_s0) z3_s0 z4_s0 z5_s0 z6_s0 (nar .boolean z1_s0) q0 q1 q2 q3)), .val (.int (f3 b7 b7 (nar .boolean z1_s0) q0 q1 q2 q3 (nar .boolean z1_s0) q0 q1 q2 q3)), .val (.int (f3n b7)), .unset] [(.ref a20), (.ref b7)])) rfl (by rw [hml]; rfl) (Steps.refl _) (argsL := [(.ref a20)]) (rest := []) (lenOf pd_3 rfl) rfl (by show 2 * 0 + _ ≤ _; exact Nat.le_of_eq rfl) (hb hby at_214) (fun _ _ => ⟨rfl, e20, (by decide : 3 + 0 ≤ _), (by decide : 11 + 0 ≤ _)⟩)
  dsimp only [Pt.U, Pt.locs, Pt.cells, Pt.slots] at X21 l21 y21 z21 st21 hQ21
  subst l21 y21 z21
  obtain ⟨rfl, N21q, e21⟩ := hQ21
  have N21 := Fr.app N20 N21q
  refine Goes.tr st21 ?_
  show Goes p e below s _ _ _ (T21.setTop (mkF m 217 #[.val (.long q0), .second, .val (.long q1), .second, .val (.long q2), .second, .val (.long q3), .second, .val (.long q4), .second, .val (.int p5), .val (.int z1_s0), .val (.int z2_s0), .val (.long z3_s0), .second, .val (.long z4_s0), .second, .val (.long z5_s0), .second, .val (.long z6_s0), .second, .val (.ref b7), .val (.ref b9), .val (.int z11_s0), .val (.int (f3 b7 b9 (nar .boolean z1_s0) q0 q1 q2 q3 (nar .boolean z2_s0) z3_s0 z4_s0 z5_s0 z6_s0)), .val (.int (f3 b9 b7 (nar .boolean z2_s0) z3_s0 z4_s0 z5_s0 z6_s0 (nar .boolean z1_s0) q0 q1 q2 q3)), .val (.int (f3 b7 b7 (nar .boolean z1_s0) q0 q1 q2 q3 (nar .boolean z1_s0) q0 q1 q2 q3)), .val (.int (f3n b7)), .unset] [(.int (f3o b7 a20))]))
  refine Goes.go (fun _ k => XS.istore X21.here hx rfl (hb hby at_217) rfl (l' := #[.val (.long q0), .second, .val (.long q1), .second, .val (.long q2), .second, .val (.long q3), .second, .val (.long q4), .second, .val (.int p5), .val (.int z1_s0), .val (.int z2_s0), .val (.long z3_s0), .second, .val (.long z4_s0), .second, .val (.long z5_s0), .second, .val (.long z6_s0), .second, .val (.ref b7), .val (.ref b9), .val (.int z11_s0), .val (.int (f3 b7 b9 (nar .boolean z1_s0) q0 q1 q2 q3 (nar .boolean z2_s0) z3_s0 z4_s0 z5_s0 z6_s0)), .val (.int (f3 b9 b7 (nar .boolean z2_s0) z3_s0 z4_s0 z5_s0 z6_s0 (nar .boolean z1_s0) q0 q1 q2 q3)), .val (.int (f3 b7 b7 (nar .boolean z1_s0) q0 q1 q2 q3 (nar .boolean z1_s0) q0 q1 q2 q3)), .val (.int (f3n b7)), .val (.int (f3o b7 a20))]) rfl k) ?_
  show Goes p e below s _ _ _ (T21.setTop (mkF m 219 #[.val (.long q0), .second, .val (.long q1), .second, .val (.long q2), .second, .val (.long q3), .second, .val (.long q4), .second, .val (.int p5), .val (.int z1_s0), .val (.int z2_s0), .val (.long z3_s0), .second, .val (.long z4_s0), .second, .val (.long z5_s0), .second, .val (.long z6_s0), .second, .val (.ref b7), .val (.ref b9), .val (.int z11_s0), .val (.int (f3 b7 b9 (nar .boolean z1_s0) q0 q1 q2 q3 (nar .boolean z2_s0) z3_s0 z4_s0 z5_s0 z6_s0)), .val (.int (f3 b9 b7 (nar .boolean z2_s0) z3_s0 z4_s0 z5_s0 z6_s0 (nar .boolean z1_s0) q0 q1 q2 q3)), .val (.int (f3 b7 b7 (nar .boolean z1_s0) q0 q1 q2 q3 (nar .boolean z1_s0) q0 q1 q2 q3)), .val (.int (f3n b7)), .val (.int (f3o b7 a20))] []))
  refine Goes.go (fun _ k => XS.iload X21.here hx rfl (hb hby at_219) rfl  k) ?_
  show Goes p e below s _ _ _ (T21.setTop (mkF m 221 #[.val (.long q0), .second, .val (.long q1), .second, .val (.long q2), .second, .val (.long q3), .second, .val (.long q4), .second, .val (.int p5), .val (.int z1_s0), .val (.int z2_s0), .val (.long z3_s0), .second, .val (.long z4_s0), .second, .val (.long z5_s0), .second, .val (.long z6_s0), .second, .val (.ref b7), .val (.ref b9), .val (.int z11_s0), .val (.int (f3 b7 b9 (nar .boolean z1_s0) q0 q1 q2 q3 (nar .boolean z2_s0) z3_s0 z4_s0 z5_s0 z6_s0)), .val (.int (f3 b9 b7 (nar .boolean z2_s0) z3_s0 z4_s0 z5_s0 z6_s0 (nar .boolean z1_s0) q0 q1 q2 q3)), .val (.int (f3 b7 b7 (nar .boolean z1_s0) q0 q1 q2 q3 (nar .boolean z1_s0) q0 q1 q2 q3)), .val (.int (f3n b7)), .val (.int (f3o b7 a20))] [(.int (f3 b7 b9 (nar .boolean z1_s0) q0 q1 q2 q3 (nar .boolean z2_s0) z3_s0 z4_s0 z5_s0 z6_s0))]))
  refine Goes.go (fun _ k => XS.iload X21.here hx rfl (hb hby at_221) rfl  k) ?_
  show Goes p e below s _ _ _ (T21.setTop (mkF m 223 #[.val (.long q0), .second, .val (.long q1), .second, .val (.long q2), .second, .val (.long q3), .second, .val (.long q4), .second, .val (.int p5), .val (.int z1_s0), .val (.int z2_s0), .val (.long z3_s0), .second, .val (.long z4_s0), .second, .val (.long z5_s0), .second, .val (.long z6_s0), .second, .val (.ref b7), .val (.ref b9), .val (.int z11_s0), .val (.int (f3 b7 b9 (nar .boolean z1_s0) q0 q1 q2 q3 (nar .boolean z2_s0) z3_s0 z4_s0 z5_s0 z6_s0)), .val (.int (f3 b9 b7 (nar .boolean z2_s0) z3_s0 z4_s0 z5_s0 z6_s0 (nar .boolean z1_s0) q0 q1 q2 q3)), .val (.int (f3 b7 b7 (nar .boolean z1_s0) q0 q1 q2 q3 (nar .boolean z1_s0) q0 q1 q2 q3)), .val (.int (f3n b7)), .val (.int (f3o b7 a20))] [(.int z11_s0), (.int (f3 b7 b9 (nar .boolean z1_s0) q0 q1 q2 q3 (nar .boolean z2_s0) z3_s0 z4_s0 z5_s0 z6_s0))]))
  have hc223_22 : (f3 b7 b9 (nar .boolean z1_s0) q0 q1 q2 q3 (nar .boolean z2_s0) z3_s0 z4_s0 z5_s0 z6_s0) = z11_s0 := by rw [hz11_s0]; exact own_f3 _ _ (own_b01 hz1_s0) (own_b01 hz2_s0) _ _ _ _ _ _ _ _
  refine Goes.go (fun _ k => XS.icmpNo X21.here hx rfl (hb hby at_223) rfl (teq hc223_22).2 k) ?_
  show Goes p e below s _ _ _ (T21.setTop (mkF m 226 #[.val (.long q0), .second, .val (.long q1), .second, .val (.long q2), .second, .val (.long q3), .second, .val (.long q4), .second, .val (.int p5), .val (.int z1_s0), .val (.int z2_s0), .val (.long z3_s0), .second, .val (.long z4_s0), .second, .val (.long z5_s0), .second, .val (.long z6_s0), .second, .val (.ref b7), .val (.ref b9), .val (.int z11_s0), .val (.int (f3 b7 b9 (nar .boolean z1_s0) q0 q1 q2 q3 (nar .boolean z2_s0) z3_s0 z4_s0 z5_s0 z6_s0)), .val (.int (f3 b9 b7 (nar .boolean z2_s0) z3_s0 z4_s0 z5_s0 z6_s0 (nar .boolean z1_s0) q0 q1 q2 q3)), .val (.int (f3 b7 b7 (nar .boolean z1_s0) q0 q1 q2 q3 (nar .boolean z1_s0) q0 q1 q2 q3)), .val (.int (f3n b7)), .val (.int (f3o b7 a20))] []))
  refine Goes.go (fun _ k => XS.iload X21.here hx rfl (hb hby at_226) rfl  k) ?_
  show Goes p e below s _ _ _ (T21.setTop (mkF m 228 #[.val (.long q0), .second, .val (.long q1), .second, .val (.long q2), .second, .val (.long q3), .second, .val (.long q4), .second, .val (.int p5), .val (.int z1_s0), .val (.int z2_s0), .val (.long z3_s0), .second, .val (.long z4_s0), .second, .val (.long z5_s0), .second, .val (.long z6_s0), .second, .val (.ref b7), .val (.ref b9), .val (.int z11_s0), .val (.int (f3 b7 b9 (nar .boolean z1_s0) q0 q1 q2 q3 (nar .boolean z2_s0) z3_s0 z4_s0 z5_s0 z6_s0)), .val (.int (f3 b9 b7 (nar .boolean z2_s0) z3_s0 z4_s0 z5_s0 z6_s0 (nar .boolean z1_s0) q0 q1 q2 q3)), .val (.int (f3 b7 b7 (nar .boolean z1_s0) q0 q1 q2 q3 (nar .boolean z1_s0) q0 q1 q2 q3)), .val (.int (f3n b7)), .val (.int (f3o b7 a20))] [(.int (f3 b9 b7 (nar .boolean z2_s0) z3_s0 z4_s0 z5_s0 z6_s0 (nar .boolean z1_s0) q0 q1 q2 q3))]))
  refine Goes.go (fun _ k => XS.iload X21.here hx rfl (hb hby at_228) rfl  k) ?_
  show Goes p e below s _ _ _ (T21.setTop (mkF m 230 #[.val (.long q0), .second, .val (.long q1), .second, .val (.long q2), .second, .val (.long q3), .second, .val (.long q4), .second, .val (.int p5), .val (.int z1_s0), .val (.int z2_s0), .val (.long z3_s0), .second, .val (.long z4_s0), .second, .val (.long z5_s0), .second, .val (.long z6_s0), .second, .val (.ref b7), .val (.ref b9), .val (.int z11_s0), .val (.int (f3 b7 b9 (nar .boolean z1_s0) q0 q1 q2 q3 (nar .boolean z2_s0) z3_s0 z4_s0 z5_s0 z6_s0)), .val (.int (f3 b9 b7 (nar .boolean z2_s0) z3_s0 z4_s0 z5_s0 z6_s0 (nar .boolean z1_s0) q0 q1 q2 q3)), .val (.int (f3 b7 b7 (nar .boolean z1_s0) q0 q1 q2 q3 (nar .boolean z1_s0) q0 q1 q2 q3)), .val (.int (f3n b7)), .val (.int (f3o b7 a20))] [(.int z11_s0), (.int (f3 b9 b7 (nar .boolean z2_s0) z3_s0 z4_s0 z5_s0 z6_s0 (nar .boolean z1_s0) q0 q1 q2 q3))]))
  have hc230_23 : (f3 b9 b7 (nar .boolean z2_s0) z3_s0 z4_s0 z5_s0 z6_s0 (nar .boolean z1_s0) q0 q1 q2 q3) = z11_s0 := by rw [hz11_s0]; exact own_f3s _ _ (own_b01 hz1_s0) (own_b01 hz2_s0) _ _ _ _ _ _ _ _
  refine Goes.go (fun _ k => XS.icmpNo X21.here hx rfl (hb hby at_230) rfl (teq hc230_23).2 k) ?_
  show Goes p e below s _ _ _ (T21.setTop (mkF m 233 #[.val (.long q0), .second, .val (.long q1), .second, .val (.long q2), .second, .val (.long q3), .second, .val (.long q4), .second, .val (.int p5), .val (.int z1_s0), .val (.int z2_s0), .val (.long z3_s0), .second, .val (.long z4_s0), .second, .val (.long z5_s0), .second, .val (.long z6_s0), .second, .val (.ref b7), .val (.ref b9), .val (.int z11_s0), .val (.int (f3 b7 b9 (nar .boolean z1_s0) q0 q1 q2 q3 (nar .boolean z2_s0) z3_s0 z4_s0 z5_s0 z6_s0)), .val (.int (f3 b9 b7 (nar .boolean z2_s0) z3_s0 z4_s0 z5_s0 z6_s0 (nar .boolean z1_s0) q0 q1 q2 q3)), .val (.int (f3 b7 b7 (nar .boolean z1_s0) q0 q1 q2 q3 (nar .boolean z1_s0) q0 q1 q2 q3)), .val (.int (f3n b7)), .val (.int (f3o b7 a20))] []))
  refine Goes.go (fun _ k => XS.iload X21.here hx rfl (hb hby at_233) rfl  k) ?_
  show Goes p e below s _ _ _ (T21.setTop (mkF m 235 #[.val (.long q0), .second, .val (.long q1), .second, .val (.long q2), .second, .val (.long q3), .second, .val (.long q4), .second, .val (.int p5), .val (.int z1_s0), .val (.int z2_s0), .val (.long z3_s0), .second, .val (.long z4_s0), .second, .val (.long z5_s0), .second, .val (.long z6_s0), .second, .val (.ref b7), .val (.ref b9), .val (.int z11_s0), .val (.int (f3 b7 b9 (nar .boolean z1_s0) q0 q1 q2 q3 (nar .boolean z2_s0) z3_s0 z4_s0 z5_s0 z6_s0)), .val (.int (f3 b9 b7 (nar .boolean z2_s0) z3_s0 z4_s0 z5_s0 z6_s0 (nar .boolean z1_s0) q0 q1 q2 q3)), .val (.int (f3 b7 b7 (nar .boolean z1_s0) q0 q1 q2 q3 (nar .boolean z1_s0) q0 q1 q2 q3)), .val (.int (f3n b7)), .val (.int (f3o b7 a20))] [(.int (f3 b7 b7 (nar .boolean z1_s0) q0 q1 q2 q3 (nar .boolean z1_s0) q0 q1 q2 q3))]))
  have hc235_24 : ¬ ((f3 b7 b7 (nar .boolean z1_s0) q0 q1 q2 q3 (nar .boolean z1_s0) q0 q1 q2 q3) = (0 : Int32)) := own_self _ _ (own_b01 hz1_s0) _ _ _ _
  refine Goes.go (fun _ k => XS.ifNo X21.here hx rfl (hb hby at_235) rfl ((if0 _ _).trans (feq hc235_24).1) k) ?_
  show Goes p e below s _ _ _ (T21.setTop (mkF m 238 #[.val (.long q0), .second, .val (.long q1), .second, .val (.long q2), .second, .val (.long q3), .second, .val (.long q4), .second, .val (.int p5), .val (.int z1_s0), .val (.int z2_s0), .val (.long z3_s0), .second, .val (.long z4_s0), .second, .val (.long z5_s0), .second, .val (.long z6_s0), .second, .val (.ref b7), .val (.ref b9), .val (.int z11_s0), .val (.int (f3 b7 b9 (nar .boolean z1_s0) q0 q1 q2 q3 (nar .boolean z2_s0) z3_s0 z4_s0 z5_s0 z6_s0)), .val (.int (f3 b9 b7 (nar .boolean z2_s0) z3_s0 z4_s0 z5_s0 z6_s0 (nar .boolean z1_s0) q0 q1 q2 q3)), .val (.int (f3 b7 b7 (nar .boolean z1_s0) q0 q1 q2 q3 (nar .boolean z1_s0) q0 q1 q2 q3)), .val (.int (f3n b7)), .val (.int (f3o b7 a20))] []))
  refine Goes.go (fun _ k => XS.iload X21.here hx rfl (hb hby at_238) rfl  k) ?_
  show Goes p e below s _ _ _ (T21.setTop (mkF m 240 #[.val (.long q0), .second, .val (.long q1), .second, .val (.long q2), .second, .val (.long q3), .second, .val (.long q4), .second, .val (.int p5), .val (.int z1_s0), .val (.int z2_s0), .val (.long z3_s0), .second, .val (.long z4_s0), .second, .val (.long z5_s0), .second, .val (.long z6_s0), .second, .val (.ref b7), .val (.ref b9), .val (.int z11_s0), .val (.int (f3 b7 b9 (nar .boolean z1_s0) q0 q1 q2 q3 (nar .boolean z2_s0) z3_s0 z4_s0 z5_s0 z6_s0)), .val (.int (f3 b9 b7 (nar .boolean z2_s0) z3_s0 z4_s0 z5_s0 z6_s0 (nar .boolean z1_s0) q0 q1 q2 q3)), .val (.int (f3 b7 b7 (nar .boolean z1_s0) q0 q1 q2 q3 (nar .boolean z1_s0) q0 q1 q2 q3)), .val (.int (f3n b7)), .val (.int (f3o b7 a20))] [(.int (f3n b7))]))
  have hc240_25 : (f3n b7) = (0 : Int32) := rfl
  refine Goes.go (fun _ k => XS.ifNo X21.here hx rfl (hb hby at_240) rfl ((if0 _ _).trans (teq hc240_25).2) k) ?_
  show Goes p e below s _ _ _ (T21.setTop (mkF m 243 #[.val (.long q0), .second, .val (.long q1), .second, .val (.long q2), .second, .val (.long q3), .second, .val (.long q4), .second, .val (.int p5), .val (.int z1_s0), .val (.int z2_s0), .val (.long z3_s0), .second, .val (.long z4_s0), .second, .val (.long z5_s0), .second, .val (.long z6_s0), .second, .val (.ref b7), .val (.ref b9), .val (.int z11_s0), .val (.int (f3 b7 b9 (nar .boolean z1_s0) q0 q1 q2 q3 (nar .boolean z2_s0) z3_s0 z4_s0 z5_s0 z6_s0)), .val (.int (f3 b9 b7 (nar .boolean z2_s0) z3_s0 z4_s0 z5_s0 z6_s0 (nar .boolean z1_s0) q0 q1 q2 q3)), .val (.int (f3 b7 b7 (nar .boolean z1_s0) q0 q1 q2 q3 (nar .boolean z1_s0) q0 q1 q2 q3)), .val (.int (f3n b7)), .val (.int (f3o b7 a20))] []))
  refine Goes.go (fun _ k => XS.iload X21.here hx rfl (hb hby at_243) rfl  k) ?_
  show Goes p e below s _ _ _ (T21.setTop (mkF m 245 #[.val (.long q0), .second, .val (.long q1), .second, .val (.long q2), .second, .val (.long q3), .second, .val (.long q4), .second, .val (.int p5), .val (.int z1_s0), .val (.int z2_s0), .val (.long z3_s0), .second, .val (.long z4_s0), .second, .val (.long z5_s0), .second, .val (.long z6_s0), .second, .val (.ref b7), .val (.ref b9), .val (.int z11_s0), .val (.int (f3 b7 b9 (nar .boolean z1_s0) q0 q1 q2 q3 (nar .boolean z2_s0) z3_s0 z4_s0 z5_s0 z6_s0)), .val (.int (f3 b9 b7 (nar .boolean z2_s0) z3_s0 z4_s0 z5_s0 z6_s0 (nar .boolean z1_s0) q0 q1 q2 q3)), .val (.int (f3 b7 b7 (nar .boolean z1_s0) q0 q1 q2 q3 (nar .boolean z1_s0) q0 q1 q2 q3)), .val (.int (f3n b7)), .val (.int (f3o b7 a20))] [(.int (f3o b7 a20))]))
  have hc245_26 : (f3o b7 a20) = (0 : Int32) := rfl
  refine Goes.go (fun _ k => XS.ifNo X21.here hx rfl (hb hby at_245) rfl ((if0 _ _).trans (teq hc245_26).2) k) ?_
  show Goes p e below s _ _ _ (T21.setTop (mkF m 248 #[.val (.long q0), .second, .val (.long q1), .second, .val (.long q2), .second, .val (.long q3), .second, .val (.long q4), .second, .val (.int p5), .val (.int z1_s0), .val (.int z2_s0), .val (.long z3_s0), .second, .val (.long z4_s0), .second, .val (.long z5_s0), .second, .val (.long z6_s0), .second, .val (.ref b7), .val (.ref b9), .val (.int z11_s0), .val (.int (f3 b7 b9 (nar .boolean z1_s0) q0 q1 q2 q3 (nar .boolean z2_s0) z3_s0 z4_s0 z5_s0 z6_s0)), .val (.int (f3 b9 b7 (nar .boolean z2_s0) z3_s0 z4_s0 z5_s0 z6_s0 (nar .boolean z1_s0) q0 q1 q2 q3)), .val (.int (f3 b7 b7 (nar .boolean z1_s0) q0 q1 q2 q3 (nar .boolean z1_s0) q0 q1 q2 q3)), .val (.int (f3n b7)), .val (.int (f3o b7 a20))] []))
  refine Goes.go (fun _ k => XS.iconst X21.here hx rfl (hb hby at_248) k) ?_
  show Goes p e below s _ _ _ (T21.setTop (mkF m 249 #[.val (.long q0), .second, .val (.long q1), .second, .val (.long q2), .second, .val (.long q3), .second, .val (.long q4), .second, .val (.int p5), .val (.int z1_s0), .val (.int z2_s0), .val (.long z3_s0), .second, .val (.long z4_s0), .second, .val (.long z5_s0), .second, .val (.long z6_s0), .second, .val (.ref b7), .val (.ref b9), .val (.int z11_s0), .val (.int (f3 b7 b9 (nar .boolean z1_s0) q0 q1 q2 q3 (nar .boolean z2_s0) z3_s0 z4_s0 z5_s0 z6_s0)), .val (.int (f3 b9 b7 (nar .boolean z2_s0) z3_s0 z4_s0 z5_s0 z6_s0 (nar .boolean z1_s0) q0 q1 q2 q3)), .val (.int (f3 b7 b7 (nar .boolean z1_s0) q0 q1 q2 q3 (nar .boolean z1_s0) q0 q1 q2 q3)), .val (.int (f3n b7)), .val (.int (f3o b7 a20))] [(.int (1 : Int32))]))
  refine Goes.go (fun _ k => XS.goto X21.here hx rfl (pc0 := 249) (pc' := 253) rfl (hb hby at_249) (by decide) (by decide) k) ?_
  show Goes p e below s _ _ _ (T21.setTop (mkF m 253 #[.val (.long q0), .second, .val (.long q1), .second, .val (.long q2), .second, .val (.long q3), .second, .val (.long q4), .second, .val (.int p5), .val (.int z1_s0), .val (.int z2_s0), .val (.long z3_s0), .second, .val (.long z4_s0), .second, .val (.long z5_s0), .second, .val (.long z6_s0), .second, .val (.ref b7), .val (.ref b9), .val (.int z11_s0), .val (.int (f3 b7 b9 (nar .boolean z1_s0) q0 q1 q2 q3 (nar .boolean z2_s0) z3_s0 z4_s0 z5_s0 z6_s0)), .val (.int (f3 b9 b7 (nar .boolean z2_s0) z3_s0 z4_s0 z5_s0 z6_s0 (nar .boolean z1_s0) q0 q1 q2 q3)), .val (.int (f3 b7 b7 (nar .boolean z1_s0) q0 q1 q2 q3 (nar .boolean z1_s0) q0 q1 q2 q3)), .val (.int (f3n b7)), .val (.int (f3o b7 a20))] [(.int (1 : Int32))]))
  refine Goes.retN .boolean X21 hx hlk Bd.returns (by simp) (hb hby at_253) ?_ (by decide) (by decide)
  exact ⟨rfl, N21⟩
set_option maxRecDepth 65536 in
set_option maxHeartbeats 40000000 in
theorem comes_1 {Post : Tables → Env → Array Value → State → Outcome → State → Prop} (hpost : ∀ tb e args s v u, (limb_1_1.after args s (.returned v) u = true ∧ limb_1_2.after args s (.returned v) u = true ∧ True) → FrameEnd s (.returned v) u (Jvm.fieldLocs frame_1_writes args s ++ Jvm.arrayLocs frame_1_arrays args s ++ Jvm.staticLocs frame_1_statics s) 16 128 → Post tb e args s (.returned v) u) :
    ArmFor flags0 classFile x code maxLocals ret World_1 tables_1 room_1 Calls_1 rest_1 Pre_1 Post := by
  intro l hfl _ _ p e ha hc hk s m args below hf hA hF happ hP
  obtain ⟨hcalls, hrest, hpre⟩ := hP
  obtain ⟨-, -, -, hnamed, -, -, -, hat⟩ := (Spec.applies_iff hf).mp happ
  obtain ⟨hg, hn⟩ := and_e (Cond.before_iff.mp (show (Jvm.Cond.and given_1 narrow_1).before args s = true from hpre))
  obtain ⟨gc, gr0⟩ := and_e hg
  obtain ⟨w0, w1, w2, w3, w4, w5, rfl⟩ : ∃ w0 w1 w2 w3 w4 w5 : Value, args = #[w0, w1, w2, w3, w4, w5] := by
    have hs : args.size = 6 := by simpa [Cond.value, given_1] using gc
    obtain ⟨L⟩ := args
    match L, hs with
    | [w0, w1, w2, w3, w4, w5], _ => exact ⟨w0, w1, w2, w3, w4, w5, rfl⟩
  have hw := fun d (hd : d ∈ tables_1) => atoms_spec (ws := Jvm.Cond.code x code maxLocals ret :: tables_1) hat d (List.mem_cons_of_mem _ hd)
  have hfit : Fit s := fun {y c} hc i hi => by
    obtain ⟨ha, rfl⟩ := Array.getElem?_eq_some_iff.mp hc
    have q := List.all_eq_true.mp ((Array.all_eq_true_iff_forall_mem.mp hF) _ (Array.getElem_mem ha)) i (List.mem_range.mpr hi)
    simpa [Array.getElem?_eq_getElem hi] using q
  obtain ⟨hsets, hown0⟩ := atoms_of _ (rest_1_c_eq ▸ (show rest_1_c.before _ s = true from hrest))
  obtain ⟨ga0, gr1⟩ := and_e gr0
  obtain ⟨i0, ei0⟩ := isL_v ga0
  obtain rfl : w0 = (.long i0) := Option.some.inj ei0
  obtain ⟨ga1, gr2⟩ := and_e gr1
  obtain ⟨i1, ei1⟩ := isL_v ga1
  obtain rfl : w1 = (.long i1) := Option.some.inj ei1
  obtain ⟨ga2, gr3⟩ := and_e gr2
  obtain ⟨i2, ei2⟩ := isL_v ga2
  obtain rfl : w2 = (.long i2) := Option.some.inj ei2
  obtain ⟨ga3, gr4⟩ := and_e gr3
  obtain ⟨i3, ei3⟩ := isL_v ga3
  obtain rfl : w3 = (.long i3) := Option.some.inj ei3
  obtain ⟨ga4, gr5⟩ := and_e gr4
  obtain ⟨i4, ei4⟩ := isL_v ga4
  obtain rfl : w4 = (.long i4) := Option.some.inj ei4
  obtain ⟨i5, ei5⟩ := is_v gr5
  obtain rfl : w5 = (.int i5) := Option.some.inj ei5
  obtain ⟨ca, ec⟩ := exa_v (Cond.before_iff.mp (hsets _ (List.mem_of_getElem? (i := 3) rfl)))
  have S_cache : Sta s s.heap "java/lang/Long$LongCache" "cache" "[Ljava/lang/Long;" (.ref ca) := Sta.start ec (Or.inl (hsets _ (List.mem_of_getElem? (i := 1) rfl)))
  have HC : LC s s.heap ca := own_lc ec (hsets _ (List.mem_of_getElem? (i := 2) rfl)) (hsets _ (List.mem_of_getElem? (i := 4) rfl)) (hsets _ (List.mem_of_getElem? (i := 5) rfl))
  obtain ⟨n, o, h1, h2, h3, _, L, rfl, ⟨rfl, N⟩, hq⟩ := rm0 l s _ hw tables_1 i0 i1 i2 i3 i4 i5 ca s.heap s.heap.size (Nat.le_refl _) S_cache HC p e ha hc hk s m _ below hf ((Spec.applies_iff_loose hf).mp happ).1 ⟨rfl, State.Warmed39.refl s, rfl⟩ trivial
  refine ⟨n, _, h1, h2, h3, hpost _ _ _ _ _ _ ⟨Cond.after_iff.mpr rfl, Cond.after_iff.mpr (eq_i res_at (Term.int_eval (1)) rfl), trivial⟩ ⟨hq.1, hq.2.1, (hq.2.2.sift fun y hy => Or.inr (N y hy)).mono (by decide) (by decide)⟩⟩
theorem main_1_1 : Claimed_1_1 := comes_1 fun _ _ _ _ _ _ h hF => ⟨h.1, hF⟩
theorem main_1_2 : Claimed_1_2 := comes_1 fun _ _ _ _ _ _ h hF => ⟨h.2.1, hF⟩
end Jvm.Pilot.@@N@@
namespace Jvm.Pilot.@@N@@
open Jvm Jvm.ClassFile Sem Op Lib Jvm.Free Jvm.Stand Jvm.Pilot.@@N@@.Jvm.D
/-! MADE BY PROGRAM (witnessworld.py) out of the Statement's table words and the real class files: 16 classes; the members and pool entries that the words name. The judged class is class 1, her method 1. -/
namespace start1
open Jvm.ClassFile
def u (s : String) : CpInfo := .utf8 (stringToUtf16 s)
/-- a pool by its gaps: so many unusable entries, then the entry; so many at the end -/
def gap : Nat → List CpInfo → List CpInfo
  | 0, r => r
  | n + 1, r => .unusable :: gap n r
def poolList (es : List (Nat × CpInfo)) (last : Nat) : List CpInfo := es.foldr (fun e r => gap e.1 (e.2 :: r)) (gap last [])
def pool (es : List (Nat × CpInfo)) (last : Nat) : Array CpInfo := ⟨poolList es last⟩
def fileOf (pool : Array CpInfo) (this : Nat) (attrs : Array Attribute := #[]) (ms : Array MethodInfo := #[]) (fl : Nat := 33) (sup : Nat := 0) (ifs : Array Nat := #[]) (fds : Array FieldInfo := #[]) : ClassFile where
  minorVersion := 0
  majorVersion := 65
  constantPool := pool
  accessFlags := fl
  thisClass := this
  superClass := sup
  interfaces := ifs
  fields := fds
  methods := ms
  attributes := attrs
def plain (name : String) (sup : Option ClassId) : Class where
  name := name
  kind := .ordinary
  loader := none
  accessFlags := 33
  super := sup
  interfaces := #[]
  cf := none
  fields := #[]
  methods := #[]
  instanceTypes := #[]
  staticTypes := #[]
  resolved := #[]
  callSites := []
  init := .initialized
  statics := none
  mirror := none

def pool0 : Array CpInfo := pool [(5, u "<init>"), (0, u "()V"), (1, .class_ 10), (1, u "java/lang/Object")] 113

def k0c0 : Code := { maxStack := 0, maxLocals := 1, code := object_method_1_code, exceptionTable := #[], attributes := #[] }
def k0m0 : Method := { name := "<init>", desc := "()V", sig := { parameters := [], returnType := none }, accessFlags := 1, code := some k0c0 }
/-- java/lang/Object -/
def k0 : Class := { plain "java/lang/Object" none with
  accessFlags := 33
  interfaces := #[]
  cf := some (fileOf pool0 8 #[] #[{ accessFlags := 1, nameIndex := 5, descriptorIndex := 6, attributes := #[] }] 33 0 #[] #[])
  fields := #[]
  methods := #[k0m0]
  instanceTypes := #[]
  staticTypes := #[]
  resolved := Array.replicate 124 none
  statics := none }

def pool1 : Array CpInfo := pool [(2, .class_ 4), (1, u "java/lang/Object"), (0, u "<init>"), (0, u "()V"), (0, .class_ 8), (0, u "com/example/danaid/danaid/Decision"), (0, .methodref 7 10), (0, .nameAndType 5 11), (0, u "(ZJJJJ)V"), (0, .methodref 7 13), (0, .nameAndType 14 15), (0, u "equals"), (0, u "(Ljava/lang/Object;)Z"), (0, .methodref 17 18), (0, .class_ 19), (0, .nameAndType 20 21), (0, u "java/lang/Long"), (0, u "valueOf"), (0, u "(J)Ljava/lang/Long;"), (0, .class_ 23), (0, u "com/example/danaid/danaid/DecisionEqualsPinLaw"), (2, u "law"), (0, u "(JJJJJI)Z")] 3

def k1m0 : Method := { name := "<init>", desc := "()V", sig := { parameters := [], returnType := none }, accessFlags := 1, code := none }
def k1c1 : Code := { maxStack := 11, maxLocals := 29, code := code, exceptionTable := #[], attributes := #[] }
def k1m1 : Method := { name := "law", desc := "(JJJJJI)Z", sig := { parameters := [.long, .long, .long, .long, .long, .int], returnType := some .boolean }, accessFlags := 9, code := some k1c1 }
/-- com/example/danaid/danaid/DecisionEqualsPinLaw -/
def k1 : Class := { plain "com/example/danaid/danaid/DecisionEqualsPinLaw" (some 0) with
  accessFlags := 49
  interfaces := #[]
  cf := some (fileOf pool1 22 #[] #[{ accessFlags := 1, nameIndex := 5, descriptorIndex := 6, attributes := #[] }, { accessFlags := 9, nameIndex := 26, descriptorIndex := 27, attributes := #[] }] 49 2 #[] #[])
  fields := #[]
  methods := #[k1m0, k1m1]
  instanceTypes := #[]
  staticTypes := #[]
  resolved := Array.replicate 31 none
  statics := none }

def pool2 : Array CpInfo := pool [(2, .class_ 4), (1, u "com/example/danaid/danaid/Decision"), (0, u "<init>"), (0, u "(ZJJJJ)V"), (0, .methodref 8 9), (0, .class_ 10), (0, .nameAndType 5 11), (0, u "java/lang/Object"), (0, u "()V"), (0, .fieldref 2 13), (0, .nameAndType 14 15), (0, u "admitted"), (0, u "Z"), (0, .fieldref 2 17), (0, .nameAndType 18 19), (0, u "permitsLeft"), (0, u "J"), (0, .fieldref 2 21), (0, .nameAndType 22 19), (0, u "retryAfterMillis"), (0, .fieldref 2 24), (0, .nameAndType 25 19), (0, u "resetMillis"), (0, .fieldref 2 27), (0, .nameAndType 28 19), (0, u "proceedAfterMillis"), (28, u "NEVER"), (7, u "equals"), (0, u "(Ljava/lang/Object;)Z")] 27

def k2c0 : Code := { maxStack := 3, maxLocals := 10, code := prog_3_method_2_code, exceptionTable := #[], attributes := #[] }
def k2m0 : Method := { name := "<init>", desc := "(ZJJJJ)V", sig := { parameters := [.boolean, .long, .long, .long, .long], returnType := none }, accessFlags := 0, code := some k2c0 }
def k2c1 : Code := { maxStack := 4, maxLocals := 3, code := prog_3_method_8_code, exceptionTable := #[], attributes := #[] }
def k2m1 : Method := { name := "equals", desc := "(Ljava/lang/Object;)Z", sig := { parameters := [(.object "java/lang/Object")], returnType := some .boolean }, accessFlags := 1, code := some k2c1 }
/-- com/example/danaid/danaid/Decision -/
def k2 : Class := { plain "com/example/danaid/danaid/Decision" (some 0) with
  accessFlags := 33
  interfaces := #[]
  cf := some (fileOf pool2 2 #[] #[{ accessFlags := 0, nameIndex := 5, descriptorIndex := 6, attributes := #[] }, { accessFlags := 1, nameIndex := 65, descriptorIndex := 66, attributes := #[] }] 33 8 #[] #[{ accessFlags := 25, nameIndex := 57, descriptorIndex := 19, attributes := #[] }, { accessFlags := 18, nameIndex := 14, descriptorIndex := 15, attributes := #[] }, { accessFlags := 18, nameIndex := 18, descriptorIndex := 19, attributes := #[] }, { accessFlags := 18, nameIndex := 22, descriptorIndex := 19, attributes := #[] }, { accessFlags := 18, nameIndex := 25, descriptorIndex := 19, attributes := #[] }, { accessFlags := 18, nameIndex := 28, descriptorIndex := 19, attributes := #[] }])
  fields := #[{ name := "NEVER", type := .long, accessFlags := 25, slot := 0, constantValue := 0 }, { name := "admitted", type := .boolean, accessFlags := 18, slot := 0, constantValue := 0 }, { name := "permitsLeft", type := .long, accessFlags := 18, slot := 1, constantValue := 0 }, { name := "retryAfterMillis", type := .long, accessFlags := 18, slot := 2, constantValue := 0 }, { name := "resetMillis", type := .long, accessFlags := 18, slot := 3, constantValue := 0 }, { name := "proceedAfterMillis", type := .long, accessFlags := 18, slot := 4, constantValue := 0 }]
  methods := #[k2m0, k2m1]
  instanceTypes := #[.boolean, .long, .long, .long, .long]
  staticTypes := #[.long]
  resolved := Array.replicate 94 none
  statics := none }

def pool3 : Array CpInfo := pool [(1, .class_ 2), (0, u "java/io/Serializable"), (0, .class_ 4), (0, u "java/lang/Object")] 2

/-- java/io/Serializable -/
def k3 : Class := { plain "java/io/Serializable" (some 0) with
  accessFlags := 1537
  interfaces := #[]
  cf := some (fileOf pool3 1 #[] #[] 1537 3 #[] #[])
  fields := #[]
  methods := #[]
  instanceTypes := #[]
  staticTypes := #[]
  resolved := Array.replicate 7 none
  statics := none }

def pool4 : Array CpInfo := pool [(1, .methodref 2 3), (0, .class_ 4), (0, .nameAndType 5 6), (0, u "java/lang/Object"), (0, u "<init>"), (0, u "()V"), (1, .class_ 10), (1, u "java/lang/Number"), (2, .class_ 14), (0, u "java/io/Serializable"), (0, u "serialVersionUID"), (0, u "J")] 20

def k4c0 : Code := { maxStack := 1, maxLocals := 1, code := jdk_18_method_1_code, exceptionTable := #[], attributes := #[] }
def k4m0 : Method := { name := "<init>", desc := "()V", sig := { parameters := [], returnType := none }, accessFlags := 1, code := some k4c0 }
/-- java/lang/Number -/
def k4 : Class := { plain "java/lang/Number" (some 0) with
  accessFlags := 1057
  interfaces := #[3]
  cf := some (fileOf pool4 8 #[] #[{ accessFlags := 1, nameIndex := 5, descriptorIndex := 6, attributes := #[] }] 1057 2 #[13] #[{ accessFlags := 26, nameIndex := 15, descriptorIndex := 16, attributes := #[] }])
  fields := #[{ name := "serialVersionUID", type := .long, accessFlags := 26, slot := 0, constantValue := 0 }]
  methods := #[k4m0]
  instanceTypes := #[]
  staticTypes := #[.long]
  resolved := Array.replicate 37 none
  statics := none }

def pool5 : Array CpInfo := pool [(1, .class_ 2), (0, u "java/lang/Comparable"), (0, .class_ 4), (0, u "java/lang/Object")] 7

/-- java/lang/Comparable -/
def k5 : Class := { plain "java/lang/Comparable" (some 0) with
  accessFlags := 1537
  interfaces := #[]
  cf := some (fileOf pool5 1 #[] #[] 1537 3 #[] #[])
  fields := #[]
  methods := #[]
  instanceTypes := #[]
  staticTypes := #[]
  resolved := Array.replicate 12 none
  statics := none }

def pool6 : Array CpInfo := pool [(1, .class_ 2), (0, u "java/lang/constant/Constable"), (0, .class_ 4), (0, u "java/lang/Object")] 6

/-- java/lang/constant/Constable -/
def k6 : Class := { plain "java/lang/constant/Constable" (some 0) with
  accessFlags := 1537
  interfaces := #[]
  cf := some (fileOf pool6 1 #[] #[] 1537 3 #[] #[])
  fields := #[]
  methods := #[]
  instanceTypes := #[]
  staticTypes := #[]
  resolved := Array.replicate 11 none
  statics := none }

def pool7 : Array CpInfo := pool [(1, .class_ 2), (0, u "java/lang/constant/ConstantDesc"), (0, .class_ 4), (0, u "java/lang/Object")] 32

/-- java/lang/constant/ConstantDesc -/
def k7 : Class := { plain "java/lang/constant/ConstantDesc" (some 0) with
  accessFlags := 1537
  interfaces := #[]
  cf := some (fileOf pool7 1 #[] #[] 1537 3 #[] #[])
  fields := #[]
  methods := #[]
  instanceTypes := #[]
  staticTypes := #[]
  resolved := Array.replicate 37 none
  statics := none }

def pool8 : Array CpInfo := pool [(1, .class_ 2), (0, u "java/lang/Long"), (55, .nameAndType 59 60), (0, u "<init>"), (0, u "()V"), (24, u "valueOf"), (143, u "(J)Ljava/lang/Long;"), (0, .long 18446744073709551488), (1, .long 127), (1, .fieldref 235 236), (0, .class_ 237), (0, .nameAndType 238 239), (0, u "java/lang/Long$LongCache"), (0, u "cache"), (0, u "[Ljava/lang/Long;"), (0, .methodref 1 241), (0, .nameAndType 59 242), (0, u "(J)V"), (27, .methodref 271 58), (0, .class_ 272), (0, u "java/lang/Number"), (0, .fieldref 1 274), (0, .nameAndType 275 276), (0, u "value"), (0, u "J"), (84, u "TYPE"), (0, u "Ljava/lang/Class;"), (0, .class_ 364), (0, u "java/lang/Comparable"), (0, .class_ 366), (0, u "java/lang/constant/Constable"), (0, .class_ 368), (0, u "java/lang/constant/ConstantDesc"), (0, u "MIN_VALUE"), (1, u "MAX_VALUE"), (4, u "SIZE"), (0, u "I"), (1, u "BYTES"), (1, u "serialVersionUID")] 142

def k8c0 : Code := { maxStack := 4, maxLocals := 3, code := jdk_35_method_24_code, exceptionTable := #[], attributes := #[] }
def k8m0 : Method := { name := "valueOf", desc := "(J)Ljava/lang/Long;", sig := { parameters := [.long], returnType := some (.object "java/lang/Long") }, accessFlags := 9, code := some k8c0 }
def k8c1 : Code := { maxStack := 3, maxLocals := 3, code := jdk_35_method_26_code, exceptionTable := #[], attributes := #[] }
def k8m1 : Method := { name := "<init>", desc := "(J)V", sig := { parameters := [.long], returnType := none }, accessFlags := 1, code := some k8c1 }
/-- java/lang/Long -/
def k8 : Class := { plain "java/lang/Long" (some 4) with
  accessFlags := 49
  interfaces := #[5, 6, 7]
  cf := some (fileOf pool8 1 #[.nestMembers #[235]] #[{ accessFlags := 9, nameIndex := 85, descriptorIndex := 229, attributes := #[] }, { accessFlags := 1, nameIndex := 59, descriptorIndex := 242, attributes := #[] }] 49 271 #[363, 365, 367] #[{ accessFlags := 25, nameIndex := 369, descriptorIndex := 276, attributes := #[] }, { accessFlags := 25, nameIndex := 371, descriptorIndex := 276, attributes := #[] }, { accessFlags := 25, nameIndex := 361, descriptorIndex := 362, attributes := #[] }, { accessFlags := 18, nameIndex := 275, descriptorIndex := 276, attributes := #[] }, { accessFlags := 25, nameIndex := 376, descriptorIndex := 377, attributes := #[] }, { accessFlags := 25, nameIndex := 379, descriptorIndex := 377, attributes := #[] }, { accessFlags := 26, nameIndex := 381, descriptorIndex := 276, attributes := #[] }])
  fields := #[{ name := "MIN_VALUE", type := .long, accessFlags := 25, slot := 0, constantValue := 0 }, { name := "MAX_VALUE", type := .long, accessFlags := 25, slot := 1, constantValue := 0 }, { name := "TYPE", type := (.object "java/lang/Class"), accessFlags := 25, slot := 2, constantValue := 0 }, { name := "value", type := .long, accessFlags := 18, slot := 0, constantValue := 0 }, { name := "SIZE", type := .int, accessFlags := 25, slot := 3, constantValue := 0 }, { name := "BYTES", type := .int, accessFlags := 25, slot := 4, constantValue := 0 }, { name := "serialVersionUID", type := .long, accessFlags := 26, slot := 5, constantValue := 0 }]
  methods := #[k8m0, k8m1]
  instanceTypes := #[.long]
  staticTypes := #[.long, .long, (.object "java/lang/Class"), .int, .int, .long]
  resolved := Array.replicate 524 none
  statics := none }

def pool9 : Array CpInfo := pool [(2, .class_ 4), (1, u "java/lang/Object"), (0, u "<init>"), (0, u "()V"), (0, .class_ 8), (0, u "java/lang/Long"), (7, .class_ 18), (1, u "java/lang/Long$LongCache"), (0, u "$assertionsDisabled"), (0, u "Z"), (8, u "archivedCache"), (0, u "[Ljava/lang/Long;"), (7, u "cache")] 24

def k9m0 : Method := { name := "<init>", desc := "()V", sig := { parameters := [], returnType := none }, accessFlags := 2, code := none }
/-- java/lang/Long$LongCache -/
def k9 : Class := { plain "java/lang/Long$LongCache" (some 0) with
  accessFlags := 48
  interfaces := #[]
  cf := some (fileOf pool9 16 #[.nestHost 7] #[{ accessFlags := 2, nameIndex := 5, descriptorIndex := 6, attributes := #[] }] 48 2 #[] #[{ accessFlags := 24, nameIndex := 38, descriptorIndex := 30, attributes := #[] }, { accessFlags := 8, nameIndex := 29, descriptorIndex := 30, attributes := #[] }, { accessFlags := 4120, nameIndex := 19, descriptorIndex := 20, attributes := #[] }])
  fields := #[{ name := "cache", type := (.array (.object "java/lang/Long")), accessFlags := 24, slot := 0, constantValue := 0 }, { name := "archivedCache", type := (.array (.object "java/lang/Long")), accessFlags := 8, slot := 1, constantValue := 0 }, { name := "$assertionsDisabled", type := .boolean, accessFlags := 4120, slot := 2, constantValue := 0 }]
  methods := #[k9m0]
  instanceTypes := #[]
  staticTypes := #[(.array (.object "java/lang/Long")), (.array (.object "java/lang/Long")), .boolean]
  resolved := Array.replicate 63 none
  statics := some 0 }

def pool10 : Array CpInfo := pool [(1, u "java/lang/Cloneable"), (0, .class_ 1), (0, u "java/lang/Object"), (0, .class_ 3)] 3

/-- java/lang/Cloneable -/
def k10 : Class := { plain "java/lang/Cloneable" (some 0) with
  accessFlags := 1537
  interfaces := #[]
  cf := some (fileOf pool10 2 #[] #[] 1537 4 #[] #[])
  fields := #[]
  methods := #[]
  instanceTypes := #[]
  staticTypes := #[]
  resolved := Array.replicate 8 none
  statics := none }

/-- the primitive byte -/
def k11 : Class := { plain "byte" none with kind := .primitive 'B', accessFlags := 0x411 }
/-- [B -/
def k12 : Class := { plain "[B" (some 0) with kind := .array 11 .byte, interfaces := #[10, 3], accessFlags := 1041 }

/-- the primitive int -/
def k13 : Class := { plain "int" none with kind := .primitive 'I', accessFlags := 0x411 }
/-- [I -/
def k14 : Class := { plain "[I" (some 0) with kind := .array 13 .int, interfaces := #[10, 3], accessFlags := 1041 }

/-- [Ljava/lang/Long; -/
def k15 : Class := { plain "[Ljava/lang/Long;" (some 0) with kind := .array 8 (.object "java/lang/Long"), interfaces := #[10, 3], accessFlags := 1041 }

def heap : Heap := #[{ cls := 9, slots := #[.ref 1, .null, .int 0], vm := .statics 9 },
  { cls := 15, slots := #[.ref 2, .ref 3, .ref 4, .ref 5, .ref 6, .ref 7, .ref 8, .ref 9, .ref 10, .ref 11, .ref 12, .ref 13, .ref 14, .ref 15, .ref 16, .ref 17, .ref 18, .ref 19, .ref 20, .ref 21, .ref 22, .ref 23, .ref 24, .ref 25, .ref 26, .ref 27, .ref 28, .ref 29, .ref 30, .ref 31, .ref 32, .ref 33, .ref 34, .ref 35, .ref 36, .ref 37, .ref 38, .ref 39, .ref 40, .ref 41, .ref 42, .ref 43, .ref 44, .ref 45, .ref 46, .ref 47, .ref 48, .ref 49, .ref 50, .ref 51, .ref 52, .ref 53, .ref 54, .ref 55, .ref 56, .ref 57, .ref 58, .ref 59, .ref 60, .ref 61, .ref 62, .ref 63, .ref 64, .ref 65, .ref 66, .ref 67, .ref 68, .ref 69, .ref 70, .ref 71, .ref 72, .ref 73, .ref 74, .ref 75, .ref 76, .ref 77, .ref 78, .ref 79, .ref 80, .ref 81, .ref 82, .ref 83, .ref 84, .ref 85, .ref 86, .ref 87, .ref 88, .ref 89, .ref 90, .ref 91, .ref 92, .ref 93, .ref 94, .ref 95, .ref 96, .ref 97, .ref 98, .ref 99, .ref 100, .ref 101, .ref 102, .ref 103, .ref 104, .ref 105, .ref 106, .ref 107, .ref 108, .ref 109, .ref 110, .ref 111, .ref 112, .ref 113, .ref 114, .ref 115, .ref 116, .ref 117, .ref 118, .ref 119, .ref 120, .ref 121, .ref 122, .ref 123, .ref 124, .ref 125, .ref 126, .ref 127, .ref 128, .ref 129, .ref 130, .ref 131, .ref 132, .ref 133, .ref 134, .ref 135, .ref 136, .ref 137, .ref 138, .ref 139, .ref 140, .ref 141, .ref 142, .ref 143, .ref 144, .ref 145, .ref 146, .ref 147, .ref 148, .ref 149, .ref 150, .ref 151, .ref 152, .ref 153, .ref 154, .ref 155, .ref 156, .ref 157, .ref 158, .ref 159, .ref 160, .ref 161, .ref 162, .ref 163, .ref 164, .ref 165, .ref 166, .ref 167, .ref 168, .ref 169, .ref 170, .ref 171, .ref 172, .ref 173, .ref 174, .ref 175, .ref 176, .ref 177, .ref 178, .ref 179, .ref 180, .ref 181, .ref 182, .ref 183, .ref 184, .ref 185, .ref 186, .ref 187, .ref 188, .ref 189, .ref 190, .ref 191, .ref 192, .ref 193, .ref 194, .ref 195, .ref 196, .ref 197, .ref 198, .ref 199, .ref 200, .ref 201, .ref 202, .ref 203, .ref 204, .ref 205, .ref 206, .ref 207, .ref 208, .ref 209, .ref 210, .ref 211, .ref 212, .ref 213, .ref 214, .ref 215, .ref 216, .ref 217, .ref 218, .ref 219, .ref 220, .ref 221, .ref 222, .ref 223, .ref 224, .ref 225, .ref 226, .ref 227, .ref 228, .ref 229, .ref 230, .ref 231, .ref 232, .ref 233, .ref 234, .ref 235, .ref 236, .ref 237, .ref 238, .ref 239, .ref 240, .ref 241, .ref 242, .ref 243, .ref 244, .ref 245, .ref 246, .ref 247, .ref 248, .ref 249, .ref 250, .ref 251, .ref 252, .ref 253, .ref 254, .ref 255, .ref 256, .ref 257], vm := .none },
  { cls := 8, slots := #[.long (-128)], vm := .none },
  { cls := 8, slots := #[.long (-127)], vm := .none },
  { cls := 8, slots := #[.long (-126)], vm := .none },
  { cls := 8, slots := #[.long (-125)], vm := .none },
  { cls := 8, slots := #[.long (-124)], vm := .none },
  { cls := 8, slots := #[.long (-123)], vm := .none },
  { cls := 8, slots := #[.long (-122)], vm := .none },
  { cls := 8, slots := #[.long (-121)], vm := .none },
  { cls := 8, slots := #[.long (-120)], vm := .none },
  { cls := 8, slots := #[.long (-119)], vm := .none },
  { cls := 8, slots := #[.long (-118)], vm := .none },
  { cls := 8, slots := #[.long (-117)], vm := .none },
  { cls := 8, slots := #[.long (-116)], vm := .none },
  { cls := 8, slots := #[.long (-115)], vm := .none },
  { cls := 8, slots := #[.long (-114)], vm := .none },
  { cls := 8, slots := #[.long (-113)], vm := .none },
  { cls := 8, slots := #[.long (-112)], vm := .none },
  { cls := 8, slots := #[.long (-111)], vm := .none },
  { cls := 8, slots := #[.long (-110)], vm := .none },
  { cls := 8, slots := #[.long (-109)], vm := .none },
  { cls := 8, slots := #[.long (-108)], vm := .none },
  { cls := 8, slots := #[.long (-107)], vm := .none },
  { cls := 8, slots := #[.long (-106)], vm := .none },
  { cls := 8, slots := #[.long (-105)], vm := .none },
  { cls := 8, slots := #[.long (-104)], vm := .none },
  { cls := 8, slots := #[.long (-103)], vm := .none },
  { cls := 8, slots := #[.long (-102)], vm := .none },
  { cls := 8, slots := #[.long (-101)], vm := .none },
  { cls := 8, slots := #[.long (-100)], vm := .none },
  { cls := 8, slots := #[.long (-99)], vm := .none },
  { cls := 8, slots := #[.long (-98)], vm := .none },
  { cls := 8, slots := #[.long (-97)], vm := .none },
  { cls := 8, slots := #[.long (-96)], vm := .none },
  { cls := 8, slots := #[.long (-95)], vm := .none },
  { cls := 8, slots := #[.long (-94)], vm := .none },
  { cls := 8, slots := #[.long (-93)], vm := .none },
  { cls := 8, slots := #[.long (-92)], vm := .none },
  { cls := 8, slots := #[.long (-91)], vm := .none },
  { cls := 8, slots := #[.long (-90)], vm := .none },
  { cls := 8, slots := #[.long (-89)], vm := .none },
  { cls := 8, slots := #[.long (-88)], vm := .none },
  { cls := 8, slots := #[.long (-87)], vm := .none },
  { cls := 8, slots := #[.long (-86)], vm := .none },
  { cls := 8, slots := #[.long (-85)], vm := .none },
  { cls := 8, slots := #[.long (-84)], vm := .none },
  { cls := 8, slots := #[.long (-83)], vm := .none },
  { cls := 8, slots := #[.long (-82)], vm := .none },
  { cls := 8, slots := #[.long (-81)], vm := .none },
  { cls := 8, slots := #[.long (-80)], vm := .none },
  { cls := 8, slots := #[.long (-79)], vm := .none },
  { cls := 8, slots := #[.long (-78)], vm := .none },
  { cls := 8, slots := #[.long (-77)], vm := .none },
  { cls := 8, slots := #[.long (-76)], vm := .none },
  { cls := 8, slots := #[.long (-75)], vm := .none },
  { cls := 8, slots := #[.long (-74)], vm := .none },
  { cls := 8, slots := #[.long (-73)], vm := .none },
  { cls := 8, slots := #[.long (-72)], vm := .none },
  { cls := 8, slots := #[.long (-71)], vm := .none },
  { cls := 8, slots := #[.long (-70)], vm := .none },
  { cls := 8, slots := #[.long (-69)], vm := .none },
  { cls := 8, slots := #[.long (-68)], vm := .none },
  { cls := 8, slots := #[.long (-67)], vm := .none },
  { cls := 8, slots := #[.long (-66)], vm := .none },
  { cls := 8, slots := #[.long (-65)], vm := .none },
  { cls := 8, slots := #[.long (-64)], vm := .none },
  { cls := 8, slots := #[.long (-63)], vm := .none },
  { cls := 8, slots := #[.long (-62)], vm := .none },
  { cls := 8, slots := #[.long (-61)], vm := .none },
  { cls := 8, slots := #[.long (-60)], vm := .none },
  { cls := 8, slots := #[.long (-59)], vm := .none },
  { cls := 8, slots := #[.long (-58)], vm := .none },
  { cls := 8, slots := #[.long (-57)], vm := .none },
  { cls := 8, slots := #[.long (-56)], vm := .none },
  { cls := 8, slots := #[.long (-55)], vm := .none },
  { cls := 8, slots := #[.long (-54)], vm := .none },
  { cls := 8, slots := #[.long (-53)], vm := .none },
  { cls := 8, slots := #[.long (-52)], vm := .none },
  { cls := 8, slots := #[.long (-51)], vm := .none },
  { cls := 8, slots := #[.long (-50)], vm := .none },
  { cls := 8, slots := #[.long (-49)], vm := .none },
  { cls := 8, slots := #[.long (-48)], vm := .none },
  { cls := 8, slots := #[.long (-47)], vm := .none },
  { cls := 8, slots := #[.long (-46)], vm := .none },
  { cls := 8, slots := #[.long (-45)], vm := .none },
  { cls := 8, slots := #[.long (-44)], vm := .none },
  { cls := 8, slots := #[.long (-43)], vm := .none },
  { cls := 8, slots := #[.long (-42)], vm := .none },
  { cls := 8, slots := #[.long (-41)], vm := .none },
  { cls := 8, slots := #[.long (-40)], vm := .none },
  { cls := 8, slots := #[.long (-39)], vm := .none },
  { cls := 8, slots := #[.long (-38)], vm := .none },
  { cls := 8, slots := #[.long (-37)], vm := .none },
  { cls := 8, slots := #[.long (-36)], vm := .none },
  { cls := 8, slots := #[.long (-35)], vm := .none },
  { cls := 8, slots := #[.long (-34)], vm := .none },
  { cls := 8, slots := #[.long (-33)], vm := .none },
  { cls := 8, slots := #[.long (-32)], vm := .none },
  { cls := 8, slots := #[.long (-31)], vm := .none },
  { cls := 8, slots := #[.long (-30)], vm := .none },
  { cls := 8, slots := #[.long (-29)], vm := .none },
  { cls := 8, slots := #[.long (-28)], vm := .none },
  { cls := 8, slots := #[.long (-27)], vm := .none },
  { cls := 8, slots := #[.long (-26)], vm := .none },
  { cls := 8, slots := #[.long (-25)], vm := .none },
  { cls := 8, slots := #[.long (-24)], vm := .none },
  { cls := 8, slots := #[.long (-23)], vm := .none },
  { cls := 8, slots := #[.long (-22)], vm := .none },
  { cls := 8, slots := #[.long (-21)], vm := .none },
  { cls := 8, slots := #[.long (-20)], vm := .none },
  { cls := 8, slots := #[.long (-19)], vm := .none },
  { cls := 8, slots := #[.long (-18)], vm := .none },
  { cls := 8, slots := #[.long (-17)], vm := .none },
  { cls := 8, slots := #[.long (-16)], vm := .none },
  { cls := 8, slots := #[.long (-15)], vm := .none },
  { cls := 8, slots := #[.long (-14)], vm := .none },
  { cls := 8, slots := #[.long (-13)], vm := .none },
  { cls := 8, slots := #[.long (-12)], vm := .none },
  { cls := 8, slots := #[.long (-11)], vm := .none },
  { cls := 8, slots := #[.long (-10)], vm := .none },
  { cls := 8, slots := #[.long (-9)], vm := .none },
  { cls := 8, slots := #[.long (-8)], vm := .none },
  { cls := 8, slots := #[.long (-7)], vm := .none },
  { cls := 8, slots := #[.long (-6)], vm := .none },
  { cls := 8, slots := #[.long (-5)], vm := .none },
  { cls := 8, slots := #[.long (-4)], vm := .none },
  { cls := 8, slots := #[.long (-3)], vm := .none },
  { cls := 8, slots := #[.long (-2)], vm := .none },
  { cls := 8, slots := #[.long (-1)], vm := .none },
  { cls := 8, slots := #[.long 0], vm := .none },
  { cls := 8, slots := #[.long 1], vm := .none },
  { cls := 8, slots := #[.long 2], vm := .none },
  { cls := 8, slots := #[.long 3], vm := .none },
  { cls := 8, slots := #[.long 4], vm := .none },
  { cls := 8, slots := #[.long 5], vm := .none },
  { cls := 8, slots := #[.long 6], vm := .none },
  { cls := 8, slots := #[.long 7], vm := .none },
  { cls := 8, slots := #[.long 8], vm := .none },
  { cls := 8, slots := #[.long 9], vm := .none },
  { cls := 8, slots := #[.long 10], vm := .none },
  { cls := 8, slots := #[.long 11], vm := .none },
  { cls := 8, slots := #[.long 12], vm := .none },
  { cls := 8, slots := #[.long 13], vm := .none },
  { cls := 8, slots := #[.long 14], vm := .none },
  { cls := 8, slots := #[.long 15], vm := .none },
  { cls := 8, slots := #[.long 16], vm := .none },
  { cls := 8, slots := #[.long 17], vm := .none },
  { cls := 8, slots := #[.long 18], vm := .none },
  { cls := 8, slots := #[.long 19], vm := .none },
  { cls := 8, slots := #[.long 20], vm := .none },
  { cls := 8, slots := #[.long 21], vm := .none },
  { cls := 8, slots := #[.long 22], vm := .none },
  { cls := 8, slots := #[.long 23], vm := .none },
  { cls := 8, slots := #[.long 24], vm := .none },
  { cls := 8, slots := #[.long 25], vm := .none },
  { cls := 8, slots := #[.long 26], vm := .none },
  { cls := 8, slots := #[.long 27], vm := .none },
  { cls := 8, slots := #[.long 28], vm := .none },
  { cls := 8, slots := #[.long 29], vm := .none },
  { cls := 8, slots := #[.long 30], vm := .none },
  { cls := 8, slots := #[.long 31], vm := .none },
  { cls := 8, slots := #[.long 32], vm := .none },
  { cls := 8, slots := #[.long 33], vm := .none },
  { cls := 8, slots := #[.long 34], vm := .none },
  { cls := 8, slots := #[.long 35], vm := .none },
  { cls := 8, slots := #[.long 36], vm := .none },
  { cls := 8, slots := #[.long 37], vm := .none },
  { cls := 8, slots := #[.long 38], vm := .none },
  { cls := 8, slots := #[.long 39], vm := .none },
  { cls := 8, slots := #[.long 40], vm := .none },
  { cls := 8, slots := #[.long 41], vm := .none },
  { cls := 8, slots := #[.long 42], vm := .none },
  { cls := 8, slots := #[.long 43], vm := .none },
  { cls := 8, slots := #[.long 44], vm := .none },
  { cls := 8, slots := #[.long 45], vm := .none },
  { cls := 8, slots := #[.long 46], vm := .none },
  { cls := 8, slots := #[.long 47], vm := .none },
  { cls := 8, slots := #[.long 48], vm := .none },
  { cls := 8, slots := #[.long 49], vm := .none },
  { cls := 8, slots := #[.long 50], vm := .none },
  { cls := 8, slots := #[.long 51], vm := .none },
  { cls := 8, slots := #[.long 52], vm := .none },
  { cls := 8, slots := #[.long 53], vm := .none },
  { cls := 8, slots := #[.long 54], vm := .none },
  { cls := 8, slots := #[.long 55], vm := .none },
  { cls := 8, slots := #[.long 56], vm := .none },
  { cls := 8, slots := #[.long 57], vm := .none },
  { cls := 8, slots := #[.long 58], vm := .none },
  { cls := 8, slots := #[.long 59], vm := .none },
  { cls := 8, slots := #[.long 60], vm := .none },
  { cls := 8, slots := #[.long 61], vm := .none },
  { cls := 8, slots := #[.long 62], vm := .none },
  { cls := 8, slots := #[.long 63], vm := .none },
  { cls := 8, slots := #[.long 64], vm := .none },
  { cls := 8, slots := #[.long 65], vm := .none },
  { cls := 8, slots := #[.long 66], vm := .none },
  { cls := 8, slots := #[.long 67], vm := .none },
  { cls := 8, slots := #[.long 68], vm := .none },
  { cls := 8, slots := #[.long 69], vm := .none },
  { cls := 8, slots := #[.long 70], vm := .none },
  { cls := 8, slots := #[.long 71], vm := .none },
  { cls := 8, slots := #[.long 72], vm := .none },
  { cls := 8, slots := #[.long 73], vm := .none },
  { cls := 8, slots := #[.long 74], vm := .none },
  { cls := 8, slots := #[.long 75], vm := .none },
  { cls := 8, slots := #[.long 76], vm := .none },
  { cls := 8, slots := #[.long 77], vm := .none },
  { cls := 8, slots := #[.long 78], vm := .none },
  { cls := 8, slots := #[.long 79], vm := .none },
  { cls := 8, slots := #[.long 80], vm := .none },
  { cls := 8, slots := #[.long 81], vm := .none },
  { cls := 8, slots := #[.long 82], vm := .none },
  { cls := 8, slots := #[.long 83], vm := .none },
  { cls := 8, slots := #[.long 84], vm := .none },
  { cls := 8, slots := #[.long 85], vm := .none },
  { cls := 8, slots := #[.long 86], vm := .none },
  { cls := 8, slots := #[.long 87], vm := .none },
  { cls := 8, slots := #[.long 88], vm := .none },
  { cls := 8, slots := #[.long 89], vm := .none },
  { cls := 8, slots := #[.long 90], vm := .none },
  { cls := 8, slots := #[.long 91], vm := .none },
  { cls := 8, slots := #[.long 92], vm := .none },
  { cls := 8, slots := #[.long 93], vm := .none },
  { cls := 8, slots := #[.long 94], vm := .none },
  { cls := 8, slots := #[.long 95], vm := .none },
  { cls := 8, slots := #[.long 96], vm := .none },
  { cls := 8, slots := #[.long 97], vm := .none },
  { cls := 8, slots := #[.long 98], vm := .none },
  { cls := 8, slots := #[.long 99], vm := .none },
  { cls := 8, slots := #[.long 100], vm := .none },
  { cls := 8, slots := #[.long 101], vm := .none },
  { cls := 8, slots := #[.long 102], vm := .none },
  { cls := 8, slots := #[.long 103], vm := .none },
  { cls := 8, slots := #[.long 104], vm := .none },
  { cls := 8, slots := #[.long 105], vm := .none },
  { cls := 8, slots := #[.long 106], vm := .none },
  { cls := 8, slots := #[.long 107], vm := .none },
  { cls := 8, slots := #[.long 108], vm := .none },
  { cls := 8, slots := #[.long 109], vm := .none },
  { cls := 8, slots := #[.long 110], vm := .none },
  { cls := 8, slots := #[.long 111], vm := .none },
  { cls := 8, slots := #[.long 112], vm := .none },
  { cls := 8, slots := #[.long 113], vm := .none },
  { cls := 8, slots := #[.long 114], vm := .none },
  { cls := 8, slots := #[.long 115], vm := .none },
  { cls := 8, slots := #[.long 116], vm := .none },
  { cls := 8, slots := #[.long 117], vm := .none },
  { cls := 8, slots := #[.long 118], vm := .none },
  { cls := 8, slots := #[.long 119], vm := .none },
  { cls := 8, slots := #[.long 120], vm := .none },
  { cls := 8, slots := #[.long 121], vm := .none },
  { cls := 8, slots := #[.long 122], vm := .none },
  { cls := 8, slots := #[.long 123], vm := .none },
  { cls := 8, slots := #[.long 124], vm := .none },
  { cls := 8, slots := #[.long 125], vm := .none },
  { cls := 8, slots := #[.long 126], vm := .none },
  { cls := 8, slots := #[.long 127], vm := .none }]
def classes : Array Class := #[k0, k1, k2, k3, k4, k5, k6, k7, k8, k9, k10, k11, k12, k13, k14, k15]
def interned : List (Array UInt16 × Addr) := []
def slotsUsed : Nat := 515
def theMethod : MethodId := ⟨1, 1⟩
def args0 : Array Value := #[.long 5, .long 5, .long 5, .long 5, .long 5, .int 5]
def aboutOver (below : List Frame) : State where
  vm := { classes := classes, interned := interned.toArray }
  heap := heap
  slotsUsed := slotsUsed
  threads := #[{ frames := .invoking theMethod args0 :: below }]
def below0 : List Frame := [.native { method := ⟨0, 0⟩, args := #[] }]
def about1 : State := aboutOver below0
def p0 : Program := .bare "" "" ""
def e0 : Env := launch0.env 0 0 0
theorem w_frames : about1.frames = Frame.invoking theMethod args0 :: below0 := rfl
set_option maxRecDepth 65536 in
theorem w_args : argsFit about1.vm theMethod args0 = true := by decide +kernel
set_option maxRecDepth 65536 in
theorem w_heap : heapFits about1 = true := by decide +kernel
set_option maxRecDepth 65536 in
theorem w_runnable : about1.curStatus? = some .runnable := by decide +kernel
set_option maxRecDepth 65536 in
theorem w_alone : about1.alone = true := by decide +kernel
set_option maxRecDepth 65536 in
theorem w_named : about1.methodNamed? x = some theMethod := by decide +kernel
set_option maxRecDepth 65536 in
theorem w_hears : about1.hears theMethod below0 = true := by decide +kernel
set_option maxRecDepth 65536 in
theorem w_ripe : about1.ripe theMethod args0 below0 = true := by decide +kernel
theorem w_running : about1.status = .running := rfl
set_option maxRecDepth 65536 in
theorem w_room : about1.hasRoom e0.platform room_1 = true :=
  launch0.hasRoom_least _ room_1 (by decide +kernel) (by decide +kernel) (by decide +kernel) (by decide +kernel) (by decide +kernel) (by decide +kernel)
theorem allAtoms_all (ts : List Jvm.Cond) (a : Array Jvm.Value) (st : Jvm.State) : (allAtoms ts).before a st = ts.all (fun c => c.before a st) := by
  induction ts with
  | nil => rfl
  | cons c t ih =>
    show (Jvm.Cond.and c (allAtoms t)).before a st = _
    rw [Jvm.Cond.before_and, ih, List.all_cons]
def words1 : List Jvm.Cond := Jvm.Cond.code x code maxLocals ret :: tables_1
/-- a 'code' word, met by the world's own term for the bytes: nothing is compared byte by byte -/
theorem code_word {y : MethodName} {bytes : ByteArray} {mx : Nat} {rt : Option FieldType} {a : Array Value} {s : State} {m : MethodId} {meth : Method} {c : Code} (h1 : s.methodNamed? y = some m) (h2 : s.vm.method? m = some meth) (h3 : meth.code = some c) (h4 : c.code = bytes)
    (h5 : (c.maxLocals == mx && c.exceptionTable.isEmpty && decide (c.maxStack ≤ mostOperands) && decide (meth.sig.returnType = rt) && !meth.locks && decide (parseMethodDescriptor y.desc = some meth.sig)) = true) : (Jvm.Cond.code y bytes mx rt).before a s = true := by
  simp only [Bool.and_eq_true, beq_iff_eq, Bool.not_eq_true', decide_eq_true_eq] at h5
  obtain ⟨⟨⟨⟨⟨g1, g2⟩, g3⟩, g4⟩, g5⟩, g6⟩ := h5
  simp [Cond.before, Cond.holds, Cond.value, h1, h2, h3, h4, g1, g2, g3, g4, g5, g6]
def isCode : Jvm.Cond → Bool
  | .code _ _ _ _ => true
  | _ => false
theorem all_split {L : List Jvm.Cond} {P : Jvm.Cond → Bool} (h1 : L.all (fun c => isCode c || P c) = true) (h2 : ∀ c ∈ L.filter isCode, P c = true) : L.all P = true := by
  refine List.all_eq_true.mpr fun c hc => ?_
  have h := List.all_eq_true.mp h1 c hc
  rcases Bool.eq_false_or_eq_true (isCode c) with hi | hi
  · exact h2 c (List.mem_filter.mpr ⟨hc, hi⟩)
  · simpa [hi] using h
set_option maxRecDepth 65536 in
theorem w_c0 : (Jvm.Cond.code x code maxLocals ret).before args0 about1 = true := code_word (m := ⟨1, 1⟩) (meth := k1m1) (c := k1c1) (by decide +kernel) rfl rfl rfl (by decide +kernel)
set_option maxRecDepth 65536 in
theorem w_c1 : (Jvm.Cond.code ({ cls := "com/example/danaid/danaid/Decision", name := "<init>", desc := "(ZJJJJ)V" } : Jvm.MethodName) prog_3_method_2_code (10 : Nat) (Option.none : Option Jvm.ClassFile.FieldType)).before args0 about1 = true := code_word (m := ⟨2, 0⟩) (meth := k2m0) (c := k2c0) (by decide +kernel) rfl rfl rfl (by decide +kernel)
set_option maxRecDepth 65536 in
theorem w_c2 : (Jvm.Cond.code ({ cls := "java/lang/Object", name := "<init>", desc := "()V" } : Jvm.MethodName) object_method_1_code (1 : Nat) (Option.none : Option Jvm.ClassFile.FieldType)).before args0 about1 = true := code_word (m := ⟨0, 0⟩) (meth := k0m0) (c := k0c0) (by decide +kernel) rfl rfl rfl (by decide +kernel)
set_option maxRecDepth 65536 in
theorem w_c3 : (Jvm.Cond.code ({ cls := "com/example/danaid/danaid/Decision", name := "equals", desc := "(Ljava/lang/Object;)Z" } : Jvm.MethodName) prog_3_method_8_code (3 : Nat) (Option.some Jvm.ClassFile.FieldType.boolean)).before args0 about1 = true := code_word (m := ⟨2, 1⟩) (meth := k2m1) (c := k2c1) (by decide +kernel) rfl rfl rfl (by decide +kernel)
set_option maxRecDepth 65536 in
theorem w_c4 : (Jvm.Cond.code ({ cls := "java/lang/Long", name := "valueOf", desc := "(J)Ljava/lang/Long;" } : Jvm.MethodName) jdk_35_method_24_code (3 : Nat) (Option.some (Jvm.ClassFile.FieldType.object "java/lang/Long"))).before args0 about1 = true := code_word (m := ⟨8, 0⟩) (meth := k8m0) (c := k8c0) (by decide +kernel) rfl rfl rfl (by decide +kernel)
set_option maxRecDepth 65536 in
theorem w_c5 : (Jvm.Cond.code ({ cls := "java/lang/Long", name := "<init>", desc := "(J)V" } : Jvm.MethodName) jdk_35_method_26_code (3 : Nat) (Option.none : Option Jvm.ClassFile.FieldType)).before args0 about1 = true := code_word (m := ⟨8, 1⟩) (meth := k8m1) (c := k8c1) (by decide +kernel) rfl rfl rfl (by decide +kernel)
set_option maxRecDepth 65536 in
theorem w_c6 : (Jvm.Cond.code ({ cls := "java/lang/Number", name := "<init>", desc := "()V" } : Jvm.MethodName) jdk_18_method_1_code (1 : Nat) (Option.none : Option Jvm.ClassFile.FieldType)).before args0 about1 = true := code_word (m := ⟨4, 0⟩) (meth := k4m0) (c := k4c0) (by decide +kernel) rfl rfl rfl (by decide +kernel)
def codes1 : List Jvm.Cond := [Jvm.Cond.code x code maxLocals ret, Jvm.Cond.code ({ cls := "com/example/danaid/danaid/Decision", name := "<init>", desc := "(ZJJJJ)V" } : Jvm.MethodName) prog_3_method_2_code (10 : Nat) (Option.none : Option Jvm.ClassFile.FieldType), Jvm.Cond.code ({ cls := "java/lang/Object", name := "<init>", desc := "()V" } : Jvm.MethodName) object_method_1_code (1 : Nat) (Option.none : Option Jvm.ClassFile.FieldType), Jvm.Cond.code ({ cls := "com/example/danaid/danaid/Decision", name := "equals", desc := "(Ljava/lang/Object;)Z" } : Jvm.MethodName) prog_3_method_8_code (3 : Nat) (Option.some Jvm.ClassFile.FieldType.boolean), Jvm.Cond.code ({ cls := "java/lang/Long", name := "valueOf", desc := "(J)Ljava/lang/Long;" } : Jvm.MethodName) jdk_35_method_24_code (3 : Nat) (Option.some (Jvm.ClassFile.FieldType.object "java/lang/Long")), Jvm.Cond.code ({ cls := "java/lang/Long", name := "<init>", desc := "(J)V" } : Jvm.MethodName) jdk_35_method_26_code (3 : Nat) (Option.none : Option Jvm.ClassFile.FieldType), Jvm.Cond.code ({ cls := "java/lang/Number", name := "<init>", desc := "()V" } : Jvm.MethodName) jdk_18_method_1_code (1 : Nat) (Option.none : Option Jvm.ClassFile.FieldType)]
set_option maxRecDepth 65536 in
theorem codes_eq : words1.filter isCode = codes1 := rfl
theorem w_codes : ∀ c ∈ words1.filter isCode, c.before args0 about1 = true := by
  rw [codes_eq]
  intro c hc
  simp only [codes1, List.mem_cons, List.not_mem_nil, or_false] at hc
  rcases hc with rfl | rfl | rfl | rfl | rfl | rfl | rfl
  · exact w_c0
  · exact w_c1
  · exact w_c2
  · exact w_c3
  · exact w_c4
  · exact w_c5
  · exact w_c6
set_option maxRecDepth 65536 in
theorem w_t1 : (words1.take 24).all (fun c => isCode c || c.before args0 about1) = true := by decide +kernel
set_option maxRecDepth 65536 in
theorem w_t2 : ((words1.drop 24).take 24).all (fun c => isCode c || c.before args0 about1) = true := by decide +kernel
set_option maxRecDepth 65536 in
theorem w_t3 : ((words1.drop 24).drop 24).all (fun c => isCode c || c.before args0 about1) = true := by decide +kernel
theorem w_tables : (allAtoms (Jvm.Cond.code x code maxLocals ret :: tables_1)).before args0 about1 = true := by
  rw [allAtoms_all]
  show words1.all (fun c => c.before args0 about1) = true
  refine all_split ?_ w_codes
  rw [← List.take_append_drop 24 words1, List.all_append, w_t1, ← List.take_append_drop 24 (words1.drop 24), List.all_append, w_t2, w_t3]
  rfl
set_option maxRecDepth 65536 in
theorem w_rest : rest_1_c.before args0 about1 = true := by decide +kernel
set_option maxRecDepth 65536 in
theorem w_case : (Jvm.Cond.and given_1 narrow_1).before args0 about1 = true := by decide +kernel
theorem w_applies : (headSpec (Jvm.Cond.code x code maxLocals ret :: tables_1) room_1).applies x e0.platform about1 = true :=
  (Spec.applies_iff w_frames).mpr ⟨w_running, w_runnable, w_alone, w_named, w_hears, w_ripe, w_room, w_tables⟩
theorem atStart : AtStart classFile x code maxLocals ret World_1 tables_1 room_1 Calls_1 rest_1 Pre_1 launch0 p0 e0 about1 theMethod args0 below0 :=
  ⟨lists_1, trivial, launch0.admits_env _ _ _, launch0.least_env, fairChoices_fair.cas, fairChoices_fair.clock, w_frames, w_args, w_heap, w_applies, trivial, w_rest, w_case⟩
end start1
theorem witness_1 : WitnessClaimed_1 := ⟨start1.p0, start1.e0, start1.about1, start1.theMethod, start1.args0, start1.below0, start1.atStart⟩
end Jvm.Pilot.@@N@@
