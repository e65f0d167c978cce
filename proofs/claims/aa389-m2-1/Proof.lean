import JvmDerived
import JvmDerived.Pilot.@@N@@Statement
import JvmDerived.Pilot.@@N@@Code
set_option linter.unusedVariables false
set_option linter.unusedSimpArgs false
@@BLOCK:NumsL.lean.txt@@
namespace Jvm.RoadKit
open Sem ClassFile Op Lib Jvm.Stand Jvm.Free Jvm.LawKit
section Goes
variable {p : Program} {l : Launch} {e : Env} {R : Room} {s : State} {m : MethodId} {args : Array Value} {below : List Frame} {meth : Method} {c : Code} {T : State} {locs : List Loc} {cells slots : Nat}
/-- from here the run comes to its return, and Q holds there -/
def Goes (p : Program) (e : Env) (below : List Frame) (s : State) (Q : Option Value → Heap → List Loc → Prop) (kc ks : Nat) (S : State) : Prop :=
  ∃ s₂ o, Steps p.tables e below S s₂ ∧ s₂.status = .running ∧ Ended s₂ below o ∧ ∃ v L, o = .returned v ∧ Q v s₂.heap L ∧ FrameEnd s o s₂ L kc ks
variable {Q Q' : Option Value → Heap → List Loc → Prop} {kc ks : Nat} {A B : State}
theorem Goes.go (h : ∀ t, Steps p.tables e below A t → Steps p.tables e below B t) (g : Goes p e below s Q kc ks A) : Goes p e below s Q kc ks B := by
  obtain ⟨s2, o, h1, h2⟩ := g
  exact ⟨s2, o, h _ h1, h2⟩
theorem Goes.tr (h : Steps p.tables e below B A) (g : Goes p e below s Q kc ks A) : Goes p e below s Q kc ks B := g.go fun _ k => h.trans k
theorem Goes.weaken (h : ∀ v hp L, Q' v hp L → Q v hp L) (g : Goes p e below s Q' kc ks A) : Goes p e below s Q kc ks A := by
  obtain ⟨s2, o, h1, h2, h3, v, L, h4, h5, h6⟩ := g
  exact ⟨s2, o, h1, h2, h3, v, L, h4, h _ _ _ h5, h6⟩
theorem Goes.castQ (h : Q = Q') (g : Goes p e below s Q' kc ks A) : Goes p e below s Q kc ks A := h ▸ g
theorem Goes.out (X : Stand p l e R s m args below meth c T locs cells slots) (hlk : meth.locks = false) {v : Option Value} (hv : meth.sig.returnType = none → v = none) {F : State}
    (hstep : ∀ fs, (∀ (f : JFrame) (acts : List Action), f.method = m → f.locked = none → f.entered = [] → (doReturn e (T.setTop f) acts v).1 = T.setFrames fs) → Steps p.tables e below F (T.setFrames fs))
    (hq : Q v T.heap locs) (hc : cells ≤ kc) (hs : slots ≤ ks) : Goes p e below s Q kc ks F := by
  obtain ⟨fs, hr, hrun, hended, hW, hsame⟩ := X.leave (v := v) hv hlk
  exact ⟨_, _, hstep fs hr, hrun, hended, _, _, rfl, hq, ⟨_, rfl⟩, hW, hsame.mono hc hs⟩
theorem retI (X : Stand p l e R s m args below meth c T locs cells slots) (hx : p.tables.exec = Jvm.exec) {pc : Nat} {Ls : Array Slot} {z : Int32} {rest : List Value} (hret : meth.sig.returnType = some .int) (hd : decode c.code pc = .ok (.ireturn, 1)) {fs : List Frame}
    (hl : ∀ (f : JFrame) (acts : List Action), f.method = m → f.locked = none → f.entered = [] → (doReturn e (T.setTop f) acts (some (.int z))).1 = T.setFrames fs) : Steps p.tables e below (T.setTop (mkF m pc Ls (.int z :: rest))) (T.setFrames fs) := by
  have hm' : T.vm.method? m = some meth := X.method'
  have hn : narrow .int (.int z) = .int z := rfl
  show Steps p.tables e below (T.setTop { method := m, pc := pc, locals := Ls, stack := _ :: rest, locked := none }) _
  jvm_step X.here [X.here.top, hx, hd, hm', hret, hn]
  first | (intro acts; rw [hl _ acts rfl rfl rfl]) | rw [hl _ _ rfl rfl rfl]
  exact Steps.refl _
theorem Goes.retI (X : Stand p l e R s m args below meth c T locs cells slots) (hx : p.tables.exec = Jvm.exec) (hlk : meth.locks = false) (hret : meth.sig.returnType = some .int) {pc : Nat} {Ls : Array Slot} {z : Int32} {rest : List Value} (hd : decode c.code pc = .ok (.ireturn, 1))
    (hq : Q (some (.int z)) T.heap locs) (hc : cells ≤ kc) (hs : slots ≤ ks) : Goes p e below s Q kc ks (T.setTop (mkF m pc Ls (.int z :: rest))) :=
  Goes.out X hlk (fun h => by rw [hret] at h; cases h) (fun fs hr => Jvm.RoadKit.retI X hx hret hd hr) hq hc hs
theorem Goes.retN (t : FieldType) (X : Stand p l e R s m args below meth c T locs cells slots) (hx : p.tables.exec = Jvm.exec) (hlk : meth.locks = false) (hret : meth.sig.returnType = some t) (ht : t = .boolean ∨ t = .byte ∨ t = .char ∨ t = .short) {pc : Nat} {Ls : Array Slot} {z : Int32} {rest : List Value} (hd : decode c.code pc = .ok (.ireturn, 1))
    (hq : Q (some (.int (nar t z))) T.heap locs) (hc : cells ≤ kc) (hs : slots ≤ ks) : Goes p e below s Q kc ks (T.setTop (mkF m pc Ls (.int z :: rest))) :=
  Goes.out X hlk (fun h => by rw [hret] at h; cases h) (fun fs hr => Jvm.RoadKit.retN X hx hret ht hd hr) hq hc hs
theorem Goes.ret0 (X : Stand p l e R s m args below meth c T locs cells slots) (hx : p.tables.exec = Jvm.exec) (hlk : meth.locks = false) (hret : meth.sig.returnType = none) {pc : Nat} {Ls : Array Slot} (hd : decode c.code pc = .ok (.return_, 1))
    (hq : Q none T.heap locs) (hc : cells ≤ kc) (hs : slots ≤ ks) : Goes p e below s Q kc ks (T.setTop (mkF m pc Ls [])) :=
  Goes.out X hlk (fun _ => rfl) (fun fs hr => X.returnOut hx hret hd hr) hq hc hs
theorem Goes.retJ (X : Stand p l e R s m args below meth c T locs cells slots) (hx : p.tables.exec = Jvm.exec) (hlk : meth.locks = false) (hret : meth.sig.returnType = some .long) {pc : Nat} {Ls : Array Slot} {z : Int64} (hd : decode c.code pc = .ok (.lreturn, 1))
    (hq : Q (some (.long z)) T.heap locs) (hc : cells ≤ kc) (hs : slots ≤ ks) : Goes p e below s Q kc ks (T.setTop (mkF m pc Ls [.long z])) :=
  Goes.out X hlk (fun h => by rw [hret] at h; cases h) (fun fs hr => X.lreturnOut hx hret hd hr) hq hc hs
theorem Goes.retA (X : Stand p l e R s m args below meth c T locs cells slots) (hx : p.tables.exec = Jvm.exec) (hlk : meth.locks = false) {w : Value} (hw : w.isRef = true) {t : FieldType} (hret : meth.sig.returnType = some t) (ht : t.isReference = true) {pc : Nat} {Ls : Array Slot} (hd : decode c.code pc = .ok (.areturn, 1))
    (hq : Q (some w) T.heap locs) (hc : cells ≤ kc) (hs : slots ≤ ks) : Goes p e below s Q kc ks (T.setTop (mkF m pc Ls [w])) :=
  Goes.out X hlk (fun h => by rw [hret] at h; cases h) (fun fs hr => X.areturnOut hx hw hret ht hd hr) hq hc hs
/-- the answer of a method that writes nothing -/
def Qp (z : Value) (h0 : Heap) (n0 : Nat) (v : Option Value) (h : Heap) (L : List Loc) : Prop := v = some z ∧ Fr n0 L ∧ h = h0
/-- the answer of a method that writes nothing and returns nothing -/
def Qn (h0 : Heap) (n0 : Nat) (v : Option Value) (h : Heap) (L : List Loc) : Prop := v = none ∧ Fr n0 L ∧ h = h0
theorem Goes.qi {z z' : Int32} {h0 : Heap} {n0 : Nat} (h : z = z') (g : Goes p e below s (Qp (.int z') h0 n0) kc ks A) : Goes p e below s (Qp (.int z) h0 n0) kc ks A := h ▸ g
theorem Goes.qj {z z' : Int64} {h0 : Heap} {n0 : Nat} (h : z = z') (g : Goes p e below s (Qp (.long z') h0 n0) kc ks A) : Goes p e below s (Qp (.long z) h0 n0) kc ks A := h ▸ g
end Goes
end Jvm.RoadKit
namespace Jvm.RoadKit
open Sem ClassFile Op Lib Jvm.Stand Jvm.Free Jvm.LawKit
/-- an array of ints (bytes, chars, booleans): its length and what each place holds -/
def IA (Z : State) (h : Heap) (a : Addr) (ty : FieldType) (n : Nat) (f : Nat → Int32) : Prop :=
  ∃ c : Cell, Arr Z h a c ty ∧ c.slots.size = n ∧ n < 2 ^ 31 ∧ ∀ i, i < n → c.slots[i]? = some (.int (f i)) ∧ fits ty (.int (f i)) = true
def own_upd (f : Nat → Int32) (i : Nat) (v : Int32) : Nat → Int32 := fun k => if k = i then v else f k
section IAs
variable {p : Program} {l : Launch} {e : Env} {R : Room} {s : State} {m : MethodId} {args : Array Value} {below : List Frame} {meth : Method} {c : Code} {T : State} {locs : List Loc} {cells slots : Nat} {Z : State} {a0 : Array Value} {h h' : Heap} {a b : Addr} {ty : FieldType} {n : Nat} {f f' : Nat → Int32} {sl : Nat} {v : Value} {ws : List Addr}
theorem IA.lt (F : IA Z h a ty n f) : a < h.size := by obtain ⟨c, A, -⟩ := F; exact A.lt
theorem IA.ext (F : IA Z h a ty n f) (E : Ext h h') : IA Z h' a ty n f := by obtain ⟨c, A, r⟩ := F; exact ⟨c, A.ext E, r⟩
theorem IA.other (F : IA Z h b ty n f) (W : Wr h h' a sl v) (q : b ≠ a) : IA Z h' b ty n f := by obtain ⟨c, A, r⟩ := F; exact ⟨c, A.other W q, r⟩
theorem IA.keep (F : IA Z h a ty n f) (K : Keep h h' ws) (q : a ∉ ws) : IA Z h' a ty n f := by obtain ⟨c, A, r⟩ := F; exact ⟨c, ⟨K.2.1 a c A.1 q, A.2⟩, r⟩
theorem IA.as (F : IA Z h a ty n f) (q : ∀ i, i < n → f i = f' i) : IA Z h a ty n f' := by
  obtain ⟨c, A, S, M, H⟩ := F
  exact ⟨c, A, S, M, fun i hi => by rw [← q i hi]; exact H i hi⟩
theorem IA.bound (F : IA Z h a ty n f) : n < 2 ^ 31 := by obtain ⟨c, A, S, M, H⟩ := F; exact M
theorem own_nat {i : Nat} (hi : i < 2 ^ 31) : (Int32.ofNat i).toInt = i := Int32.toInt_ofNat_of_lt (by omega)
theorem own_cl {i : Nat} (hi : i < 2 ^ 31) : (Int32.ofNat i).toNatClampNeg = i := by
  have := own_nat hi
  show (Int32.ofNat i).toInt.toNat = i
  omega
theorem own_in {i : Nat} (hi : i < n) (hn : n < 2 ^ 31) : ¬ (Int32.ofNat i < 0 ∨ n ≤ (Int32.ofNat i).toNatClampNeg) := by
  rw [own_cl (by omega)]
  rintro (q | q)
  · have := Int32.lt_iff_toInt_lt.mp q
    rw [own_nat (by omega)] at this
    have z : (0 : Int32).toInt = 0 := rfl
    omega
  · omega
theorem IA.set {c : Cell} (A : Arr Z h a c ty) (S : c.slots.size = n) (M : n < 2 ^ 31) (H : ∀ i, i < n → c.slots[i]? = some (.int (f i)) ∧ fits ty (.int (f i)) = true) {i : Nat} (hi : i < n) {x : Int32} (hx : fits ty (.int x) = true) (W : Wr h h' a i (.int x)) : IA Z h' a ty n (own_upd f i x) := by
  refine ⟨c.setSlot i (.int x), A.same W, by rw [sz_set]; exact S, M, fun k hk => ?_⟩
  by_cases q : k = i
  · subst q
    simp only [own_upd, if_pos]
    exact ⟨by simp [Cell.setSlot, S, hk], hx⟩
  · simp only [own_upd, if_neg q]
    refine ⟨?_, (H k hk).2⟩
    rw [← (H k hk).1]
    simp only [Cell.setSlot]
    exact Array.getElem?_setIfInBounds_ne (Ne.symm q)
theorem own_newA (X : Stand p l e R s m args below meth c T locs cells slots) (hx : p.tables.exec = Jvm.exec) (hZ : Z.Warmed39 s.vm) {aty : ArrayType} (w : (Cond.arrayClass (newarray.typeOf aty)).before a0 Z = true) (eT : T.heap = h) {g : JFrame} (hg : g.method = m) (hd : decode c.code g.pc = .ok (.newarray aty, 2)) {z : Int32} {rest : List Value} (hs : g.stack = .int z :: rest)
    {n : Nat} (hz : z = Int32.ofNat n) {cap : Nat} (hcap : n ≤ cap) (hb : cap * 8 ≤ 536870912) (hc : cells + 1 ≤ R.cells) (hl : slots + cap ≤ R.slots) (hdv : defaultValue (newarray.typeOf aty) = .int 0) (hft : fits (newarray.typeOf aty) (.int 0) = true) {ad : String} (had : "[" ++ (newarray.typeOf aty).toString = ad) :
    ∃ T' h', Stand p l e R s m args below meth c T' locs (cells + 1) (slots + cap) ∧ T'.heap = h' ∧ Ext h h' ∧ IA Z h' h.size (newarray.typeOf aty) n (fun _ => 0) ∧ Exa Z h' h.size ad ∧
      ∀ target, Steps p.tables e below (T'.setTop { g with pc := g.pc + 2, stack := .ref h.size :: rest }) target → Steps p.tables e below (T.setTop g) target := by
  have hn31 : n < 2 ^ 31 := by omega
  have hcl : z.toNatClampNeg = n := by rw [hz]; exact own_cl hn31
  have hneg : ¬ z < 0 := by
    rw [hz]; intro q
    have := Int32.lt_iff_toInt_lt.mp q
    rw [own_nat hn31] at this
    have z : (0 : Int32).toInt = 0 := rfl
    omega
  obtain ⟨T', h', cA, X', e', E, A, EX, st⟩ := newPE X hx hZ w eT hg hd hs hneg (cap := cap) (by rw [hcl]; exact hcap) hb hc hl had
  refine ⟨T', h', X', e', E, ⟨_, A, by rw [sz_new]; exact hcl, hn31, fun i hi => ⟨?_, hft⟩⟩, EX, st⟩
  have := get_new (cA := cA) (ty := newarray.typeOf aty) (n := z) (k := Int32.ofNat i) (by rw [hcl]; exact own_in hi hn31)
  rw [own_cl (by omega), hdv] at this
  exact this
theorem own_stI (X : Stand p l e R s m args below meth c T locs cells slots) (hx : p.tables.exec = Jvm.exec) (hZ : Z.Warmed39 s.vm) (eT : T.heap = h) (A : IA Z h a .int n f) {j x : Int32} {i : Nat} (hj : j = Int32.ofNat i) (hi : i < n) {g : JFrame} (hg : g.method = m) {rest : List Value} (hs : g.stack = .int x :: .int j :: .ref a :: rest) (hd : decode c.code g.pc = .ok (.iastore, 1)) :
    ∃ T' h', Stand p l e R s m args below meth c T' (locs ++ [⟨a, i⟩]) cells slots ∧ T'.heap = h' ∧ Wr h h' a i (.int x) ∧ IA Z h' a .int n (own_upd f i x) ∧ ∀ target, Steps p.tables e below (T'.setTop { g with pc := g.pc + 1, stack := rest }) target → Steps p.tables e below (T.setTop g) target := by
  obtain ⟨cl, A, S, M, H⟩ := A
  subst hj
  obtain ⟨T', h', X', e', W, st⟩ := stI X hx hZ eT A (j := Int32.ofNat i) (by rw [S]; exact own_in hi M) hg hs hd
  rw [own_cl (by omega)] at X' W
  exact ⟨T', h', X', e', W, IA.set A S M H hi rfl W, st⟩
theorem own_stB (X : Stand p l e R s m args below meth c T locs cells slots) (hx : p.tables.exec = Jvm.exec) (hZ : Z.Warmed39 s.vm) (eT : T.heap = h) (A : IA Z h a .byte n f) {j x : Int32} {i : Nat} (hj : j = Int32.ofNat i) (hi : i < n) {g : JFrame} (hg : g.method = m) {rest : List Value} (hs : g.stack = .int x :: .int j :: .ref a :: rest) (hd : decode c.code g.pc = .ok (.bastore, 1)) :
    ∃ T' h', Stand p l e R s m args below meth c T' (locs ++ [⟨a, i⟩]) cells slots ∧ T'.heap = h' ∧ Wr h h' a i (.int (nar .byte x)) ∧ IA Z h' a .byte n (own_upd f i (nar .byte x)) ∧ ∀ target, Steps p.tables e below (T'.setTop { g with pc := g.pc + 1, stack := rest }) target → Steps p.tables e below (T.setTop g) target := by
  obtain ⟨cl, A, S, M, H⟩ := A
  subst hj
  obtain ⟨T', h', X', e', W, st⟩ := stB X hx hZ eT A (j := Int32.ofNat i) (by rw [S]; exact own_in hi M) hg hs hd
  rw [own_cl (by omega)] at X' W
  exact ⟨T', h', X', e', W, IA.set A S M H hi (fits_nar_byte _) W, st⟩
theorem own_stC (X : Stand p l e R s m args below meth c T locs cells slots) (hx : p.tables.exec = Jvm.exec) (hZ : Z.Warmed39 s.vm) (eT : T.heap = h) (A : IA Z h a .char n f) {j x : Int32} {i : Nat} (hj : j = Int32.ofNat i) (hi : i < n) {g : JFrame} (hg : g.method = m) {rest : List Value} (hs : g.stack = .int x :: .int j :: .ref a :: rest) (hd : decode c.code g.pc = .ok (.castore, 1)) :
    ∃ T' h', Stand p l e R s m args below meth c T' (locs ++ [⟨a, i⟩]) cells slots ∧ T'.heap = h' ∧ Wr h h' a i (.int (nar .char x)) ∧ IA Z h' a .char n (own_upd f i (nar .char x)) ∧ ∀ target, Steps p.tables e below (T'.setTop { g with pc := g.pc + 1, stack := rest }) target → Steps p.tables e below (T.setTop g) target := by
  obtain ⟨cl, A, S, M, H⟩ := A
  subst hj
  obtain ⟨T', h', X', e', W, st⟩ := stC X hx hZ eT A (j := Int32.ofNat i) (by rw [S]; exact own_in hi M) hg hs hd
  rw [own_cl (by omega)] at X' W
  exact ⟨T', h', X', e', W, IA.set A S M H hi (fits_nar_char _) W, st⟩
theorem own_stZ (X : Stand p l e R s m args below meth c T locs cells slots) (hx : p.tables.exec = Jvm.exec) (hZ : Z.Warmed39 s.vm) (eT : T.heap = h) (A : IA Z h a .boolean n f) {j x : Int32} {i : Nat} (hj : j = Int32.ofNat i) (hi : i < n) {g : JFrame} (hg : g.method = m) {rest : List Value} (hs : g.stack = .int x :: .int j :: .ref a :: rest) (hd : decode c.code g.pc = .ok (.bastore, 1)) :
    ∃ T' h', Stand p l e R s m args below meth c T' (locs ++ [⟨a, i⟩]) cells slots ∧ T'.heap = h' ∧ Wr h h' a i (.int (nar .boolean x)) ∧ IA Z h' a .boolean n (own_upd f i (nar .boolean x)) ∧ ∀ target, Steps p.tables e below (T'.setTop { g with pc := g.pc + 1, stack := rest }) target → Steps p.tables e below (T.setTop g) target := by
  obtain ⟨cl, A, S, M, H⟩ := A
  subst hj
  obtain ⟨T', h', X', e', W, st⟩ := stZ X hx hZ eT A (j := Int32.ofNat i) (by rw [S]; exact own_in hi M) hg hs hd
  rw [own_cl (by omega)] at X' W
  exact ⟨T', h', X', e', W, IA.set A S M H hi (fits_nar_bool _) W, st⟩
theorem own_ldI (X : Stand p l e R s m args below meth c T locs cells slots) (hx : p.tables.exec = Jvm.exec) (hZ : Z.Warmed39 s.vm) (eT : T.heap = h) (A : IA Z h a .int n f) {j : Int32} {i : Nat} (hj : j = Int32.ofNat i) (hi : i < n) {g : JFrame} (hg : g.method = m) {rest : List Value} (hs : g.stack = .int j :: .ref a :: rest) (hd : decode c.code g.pc = .ok (.iaload, 1)) :
    ∀ target, Steps p.tables e below (T.setTop { g with pc := g.pc + 1, stack := .int (f i) :: rest }) target → Steps p.tables e below (T.setTop g) target := by
  obtain ⟨cl, A, S, M, H⟩ := A
  subst hj
  exact X.iaload hx (j := Int32.ofNat i) (v := .int (f i)) (by rw [eT]; exact A.1) (State.isArrayOf_alike hZ.alike A.2.1) A.2.2 (by rw [S]; exact own_in hi M) (by rw [own_cl (by omega)]; exact (H i hi).1) hg hs hd
theorem own_ldB (X : Stand p l e R s m args below meth c T locs cells slots) (hx : p.tables.exec = Jvm.exec) (hZ : Z.Warmed39 s.vm) (eT : T.heap = h) (A : IA Z h a .byte n f) {j : Int32} {i : Nat} (hj : j = Int32.ofNat i) (hi : i < n) {g : JFrame} (hg : g.method = m) {rest : List Value} (hs : g.stack = .int j :: .ref a :: rest) (hd : decode c.code g.pc = .ok (.baload, 1)) :
    ∀ target, Steps p.tables e below (T.setTop { g with pc := g.pc + 1, stack := .int (f i) :: rest }) target → Steps p.tables e below (T.setTop g) target := by
  obtain ⟨cl, A, S, M, H⟩ := A
  subst hj
  exact X.baloadBytes hx (j := Int32.ofNat i) (v := .int (f i)) (by rw [eT]; exact A.1) (State.isArrayOf_alike hZ.alike A.2.1) A.2.2 (by rw [S]; exact own_in hi M) (by rw [own_cl (by omega)]; exact (H i hi).1) hg hs hd
theorem own_ldZ (X : Stand p l e R s m args below meth c T locs cells slots) (hx : p.tables.exec = Jvm.exec) (hZ : Z.Warmed39 s.vm) (eT : T.heap = h) (A : IA Z h a .boolean n f) {j : Int32} {i : Nat} (hj : j = Int32.ofNat i) (hi : i < n) {g : JFrame} (hg : g.method = m) {rest : List Value} (hs : g.stack = .int j :: .ref a :: rest) (hd : decode c.code g.pc = .ok (.baload, 1)) :
    ∀ target, Steps p.tables e below (T.setTop { g with pc := g.pc + 1, stack := .int (f i) :: rest }) target → Steps p.tables e below (T.setTop g) target := by
  obtain ⟨cl, A, S, M, H⟩ := A
  subst hj
  exact X.baloadBooleans hx (j := Int32.ofNat i) (v := .int (f i)) (by rw [eT]; exact A.1) (State.isArrayOf_alike hZ.alike A.2.1) A.2.2 (by rw [S]; exact own_in hi M) (by rw [own_cl (by omega)]; exact (H i hi).1) hg hs hd
theorem own_ldC (X : Stand p l e R s m args below meth c T locs cells slots) (hx : p.tables.exec = Jvm.exec) (hZ : Z.Warmed39 s.vm) (eT : T.heap = h) (A : IA Z h a .char n f) {j : Int32} {i : Nat} (hj : j = Int32.ofNat i) (hi : i < n) {g : JFrame} (hg : g.method = m) {rest : List Value} (hs : g.stack = .int j :: .ref a :: rest) (hd : decode c.code g.pc = .ok (.caload, 1)) :
    ∀ target, Steps p.tables e below (T.setTop { g with pc := g.pc + 1, stack := .int (f i) :: rest }) target → Steps p.tables e below (T.setTop g) target := by
  obtain ⟨cl, A, S, M, H⟩ := A
  subst hj
  exact X.caload hx (j := Int32.ofNat i) (v := .int (f i)) (by rw [eT]; exact A.1) (State.isArrayOf_alike hZ.alike A.2.1) A.2.2 (by rw [S]; exact own_in hi M) (by rw [own_cl (by omega)]; exact (H i hi).1) hg hs hd
theorem own_len (X : Stand p l e R s m args below meth c T locs cells slots) (hx : p.tables.exec = Jvm.exec) (hZ : Z.Warmed39 s.vm) (eT : T.heap = h) (A : IA Z h a ty n f) {g : JFrame} (hg : g.method = m) {rest : List Value} (hs : g.stack = .ref a :: rest) (hd : decode c.code g.pc = .ok (.arraylength, 1)) :
    ∀ target, Steps p.tables e below (T.setTop { g with pc := g.pc + 1, stack := .int (Int32.ofNat n) :: rest }) target → Steps p.tables e below (T.setTop g) target := by
  obtain ⟨cl, A, S, M, H⟩ := A
  subst S
  exact X.arraylength hx (by rw [eT]; exact A.1) (State.isArrayOf_alike hZ.alike A.2.1) hg hs hd
end IAs
end Jvm.RoadKit
namespace Jvm.RoadKit
open Sem ClassFile Op Lib Jvm.Stand Jvm.Free Jvm.LawKit
theorem own_eqNat {x : Int32} {n : Nat} (h : x.toInt = n) : x = Int32.ofNat n := Int32.toInt_inj.mp (by rw [h, own_nat (by have := x.toInt_lt; omega)])
theorem own_andN (x m : Int32) (k : Nat) (hk : k < 32) (hm : m.toBitVec.toNat = 2 ^ k - 1) : ∃ n : Nat, n < 2 ^ k ∧ x &&& m = Int32.ofNat n := by
  have h := Jvm.Kit.i32_mask x m hk hm
  have hpos : (0 : Int) < 2 ^ k := Int.pow_pos (by decide)
  have h1 := Int.emod_nonneg x.toInt (Int.ne_of_gt hpos)
  have h2 := Int.emod_lt_of_pos x.toInt hpos
  refine ⟨(x.toInt % 2 ^ k).toNat, ?_, own_eqNat ?_⟩
  · have e : ((2 ^ k : Nat) : Int) = (2 : Int) ^ k := by rw [Int.natCast_pow]; rfl
    omega
  · rw [h]; omega
theorem own_modN (x : Int32) (d : Nat) (h0 : 0 < d) (hd : d < 2 ^ 31) : ∃ n : Nat, n < d ∧ (x &&& 2147483647) % Int32.ofNat d = Int32.ofNat n := by
  have h := Jvm.Kit.i32_mask x 2147483647 (k := 31) (by decide) (by decide)
  have h1 := Int.emod_nonneg x.toInt (show (2 : Int) ^ 31 ≠ 0 by decide)
  have e := Jvm.Kit.i32_rem_nonneg (x := x &&& 2147483647) (y := Int32.ofNat d) (by rw [h]; exact h1)
  rw [own_nat hd] at e
  have h2 := Int.emod_nonneg (x &&& 2147483647).toInt (show (d : Int) ≠ 0 by omega)
  have h3 := Int.emod_lt_of_pos (x &&& 2147483647).toInt (show (0 : Int) < d by omega)
  exact ⟨((x &&& 2147483647).toInt % d).toNat, by omega, own_eqNat (by rw [e]; omega)⟩
theorem own_lt {i n : Nat} (hi : i < 2 ^ 31) (hn : n < 2 ^ 31) : Int32.ofNat i < Int32.ofNat n ↔ i < n := by
  rw [Int32.lt_iff_toInt_lt, own_nat hi, own_nat hn]; omega
theorem own_inj {i n : Nat} (hi : i < 2 ^ 31) (hn : n < 2 ^ 31) : Int32.ofNat i = Int32.ofNat n ↔ i = n := by
  rw [← Int32.toInt_inj, own_nat hi, own_nat hn]; omega
theorem own_add {i n : Nat} (h : i + n < 2 ^ 31) : Int32.ofNat i + Int32.ofNat n = Int32.ofNat (i + n) :=
  own_eqNat (by rw [Jvm.Kit.i32_add (by rw [own_nat (by omega), own_nat (by omega)]; omega) (by rw [own_nat (by omega), own_nat (by omega)]; omega), own_nat (by omega), own_nat (by omega)]; omega)
end Jvm.RoadKit
namespace Jvm.RoadKit
open Sem ClassFile Op Lib Jvm.Stand Jvm.Free Jvm.LawKit
section Switch
variable {p : Program} {l : Launch} {e : Env} {R : Room} {s : State} {m : MethodId} {args : Array Value} {below : List Frame} {meth : Method} {c : Code} {T : State} {locs : List Loc} {cells slots : Nat}
theorem own_lswH (X : Stand p l e R s m args below meth c T locs cells slots) (hx : p.tables.exec = Jvm.exec) {g : JFrame} (hg : g.method = m) {k : Int32} {rest : List Value} {pc0 pc' : Nat} (hpc : g.pc = pc0)
    (hs : g.stack = .int k :: rest) {dflt : Int} {pairs : Array (Int × Int)} {len : Nat} (hd : decode c.code g.pc = .ok (.lookupswitch dflt pairs, len))
    (hsorted : (pairs.toList.zip (pairs.toList.drop 1)).all (fun (a, next) => a.1 < next.1) = true) {a off : Int} (hfind : pairs.find? (·.1 == k.toInt) = some (a, off)) (ho : 0 ≤ (pc0 : Int) + off) (hp : ((pc0 : Int) + off).toNat = pc')
    (target : State) (hr : Steps p.tables e below (T.setTop { g with pc := pc', stack := rest }) target) : Steps p.tables e below (T.setTop g) target := by
  subst hpc hp
  exact X.lookupswitchHit hx hg hs hd hsorted hfind ho target hr
theorem own_lswM (X : Stand p l e R s m args below meth c T locs cells slots) (hx : p.tables.exec = Jvm.exec) {g : JFrame} (hg : g.method = m) {k : Int32} {rest : List Value} {pc0 pc' : Nat} (hpc : g.pc = pc0)
    (hs : g.stack = .int k :: rest) {dflt : Int} {pairs : Array (Int × Int)} {len : Nat} (hd : decode c.code g.pc = .ok (.lookupswitch dflt pairs, len))
    (hsorted : (pairs.toList.zip (pairs.toList.drop 1)).all (fun (a, next) => a.1 < next.1) = true) (hfind : ∀ q ∈ pairs.toList, q.1 ≠ k.toInt) (ho : 0 ≤ (pc0 : Int) + dflt) (hp : ((pc0 : Int) + dflt).toNat = pc')
    (target : State) (hr : Steps p.tables e below (T.setTop { g with pc := pc', stack := rest }) target) : Steps p.tables e below (T.setTop g) target := by
  subst hpc hp
  exact X.lookupswitchMiss hx hg hs hd hsorted (find_miss hfind) ho target hr
theorem own_nk {x y : Int32} {z : Int} (hz : y.toInt = z) (h : ¬ x = y) : z ≠ x.toInt := fun q => h (Int32.toInt_inj.mp (q.symm.trans hz.symm))
end Switch
end Jvm.RoadKit
namespace Jvm.RoadKit
open Sem ClassFile Op Lib Jvm.Stand Jvm.Free Jvm.LawKit
section Statics
variable {Z : State} {args : Array Value} {C n d K : String} {t : Term} {a : Addr}
theorem own_sta (h : (Cond.exactly (.static C n d) K).value args Z none Z [] = some true) (hi : (Cond.initialized C).before args Z = true) (hl : (Cond.laysStatic C n d).before args Z = true) : ∃ a, (Term.static C n d).eval args Z none [] Z = some (.ref a) ∧ Sta Z Z.heap C n d (.ref a) ∧ Exa Z Z.heap a K := by
  obtain ⟨a, e⟩ := exa_v h
  exact ⟨a, e, Sta.start e (Or.inr ⟨hi, hl⟩), Exa.start e h⟩
theorem own_stfI {k : Int32} (e : t.eval args Z none [] Z = some (.ref a)) (h : (Cond.eq (.field t C n d) (.int k)).value args Z none Z [] = some true) : Fld Z Z.heap a C n d (.int k) := by
  apply Fld.start
  simp only [Cond.value, Term.eval, e, Option.bind_eq_bind, Option.bind_some] at h
  cases hf : Z.fieldOf? a C n d with
  | none => simp [hf] at h
  | some x => cases x <;> simp [hf] at h ⊢; exact h
theorem own_stfJ {k : Int64} (e : t.eval args Z none [] Z = some (.ref a)) (h : (Cond.eq (.field t C n d) (.long k)).value args Z none Z [] = some true) : Fld Z Z.heap a C n d (.long k) := by
  apply Fld.start
  simp only [Cond.value, Term.eval, e, Option.bind_eq_bind, Option.bind_some] at h
  cases hf : Z.fieldOf? a C n d with
  | none => simp [hf] at h
  | some x => cases x <;> simp [hf] at h ⊢; exact h
end Statics
end Jvm.RoadKit
namespace Jvm.RoadKit
open Sem ClassFile Op Lib Jvm.Stand Jvm.Free Jvm.LawKit
theorem own_lrem {tb : Tables} [Ours tb] {e : Env} {below : List Frame} {T target : State} {m : MethodId} {c : Code} {g : JFrame} (h : At T m c below) (hx : tb.exec = Jvm.exec) (hg : g.method = m) {x y : Int64} {rest : List Value} (hd : decode c.code g.pc = .ok (.lrem, 1)) (hs : g.stack = .long y :: .long x :: rest) (hy : y ≠ 0)
    (hr : Steps tb e below (T.setTop { g with pc := g.pc + 1, stack := .long (x % y) :: rest }) target) : Steps tb e below (T.setTop g) target :=
  XS.lrem h hx hg hd hs hy (by rw [lrem_mod]; exact hr)
theorem own_irem_mod (x y : Int32) : x - (x / y) * y = x % y := by
  apply Int32.toInt_inj.mp
  have h1 := Int32.le_toInt (x % y)
  have h2 := Int32.toInt_lt (x % y)
  rw [Int32.toInt_sub, Int32.toInt_mul, Int32.toInt_div, Int.bmod_mul_bmod, Int.sub_bmod_bmod, Int.mul_comm (x.toInt.tdiv y.toInt), ← Int.tmod_def, ← Int32.toInt_mod]
  exact Int.bmod_eq_of_le_mul_two (by omega) (by omega)
theorem own_irem {tb : Tables} [Ours tb] {e : Env} {below : List Frame} {T target : State} {m : MethodId} {c : Code} {g : JFrame} (h : At T m c below) (hx : tb.exec = Jvm.exec) (hg : g.method = m) {x y : Int32} {rest : List Value} (hd : decode c.code g.pc = .ok (.irem, 1)) (hs : g.stack = .int y :: .int x :: rest) (hy : y ≠ 0)
    (hr : Steps tb e below (T.setTop { g with pc := g.pc + 1, stack := .int (x % y) :: rest }) target) : Steps tb e below (T.setTop g) target :=
  XS.irem h hx hg hd hs hy (by rw [own_irem_mod]; exact hr)
theorem own_div1 (x : Int64) : x / 1 = x := Int64.toInt_inj.mp (by
  rw [Jvm.Kit.i64_div (fun q => by have := q.2; revert this; decide)]
  show x.toInt.tdiv 1 = x.toInt
  exact Int.tdiv_one _)
end Jvm.RoadKit
namespace Jvm.RoadKit
open Sem ClassFile Op Lib Jvm.Stand Jvm.Free Jvm.LawKit
theorem own_kx {h h' : Heap} (K : Keep h h' []) : Ext h h' := ⟨K.1, fun a c q => K.2.1 a c q nin0⟩
section Unlike
variable {Z : State} {a0 : Array Value}
theorem own_nsroot {O K : String} {n : Nat} (w : (Cond.noSuperclass O).before a0 Z = true) (wk : (Cond.instantiable K n).before a0 Z = true) (hn : O ≠ K) : NS Z O K := by
  obtain ⟨c, k, h1, h2, h3, -, -⟩ := Cond.noSuperclass_spec w
  obtain ⟨t, k', g1, g2, -⟩ := Cond.instantiable_spec wk
  have ne := ids_ne h1 g1 hn
  refine ⟨c, t, h1, g1, fun fuel => ?_⟩
  cases fuel with
  | zero => rfl
  | succ f => simp [Vm.isSubclassAux, ne, h2, h3]
theorem own_nsno {C S K : String} {n : Nat} (w : (Cond.superclass C S).before a0 Z = true) (wk : (Cond.instantiable K n).before a0 Z = true) (N : NS Z C K) (hn : C ≠ K) : ∃ c t, Z.vm.findClass C = some c ∧ Z.vm.findClass K = some t ∧ Z.vm.assignable c t = false := by
  obtain ⟨c, t, h0, g0, n3⟩ := N
  obtain ⟨p, k, kp, h1, h2, h3, h4, h5, -, h7⟩ := Cond.superclass_spec h0 w
  obtain ⟨t', k', g1, g2, g3, g4, -⟩ := Cond.instantiable_spec wk
  cases g0.symm.trans g1
  have g7 : k'.isInterface = false := by
    cases hq : k'.isInterface with
    | false => rfl
    | true => rw [hq] at g4; simp at g4
  have ne := ids_ne h0 g0 hn
  refine ⟨c, t, h0, g0, ?_⟩
  show Z.vm.assignableAux (255 + 1) c t = false
  simp [Vm.assignableAux, ne, h2, g2, h5, g3, g7, Vm.isSubclass, n3]
end Unlike
end Jvm.RoadKit
namespace Jvm.RoadKit
open Sem ClassFile Op Lib Jvm.Stand Jvm.Free Jvm.LawKit
section Clone
variable {p : Program} {l : Launch} {e : Env} {R : Room} {s : State} {m : MethodId} {args : Array Value} {below : List Frame} {meth : Method} {c : Code} {T : State} {locs : List Loc} {cells slots : Nat} {Z : State} {a0 : Array Value} {h : Heap} {a : Addr} {ty : FieldType} {n : Nat} {f : Nat → Int32}
theorem own_clone (X : Stand p l e R s m args below meth c T locs cells slots) (hx : p.tables.exec = Jvm.exec) (hZ : Z.Warmed39 s.vm) {own ad : String} {index : Nat} (hown : s.vm.findClass own = some m.cls)
    (w1 : (Cond.methodLink own index ⟨ad, "clone", "()Ljava/lang/Object;"⟩).before a0 Z = true) (w2 : (Cond.sameMethod ad "java/lang/Object" "clone" "()Ljava/lang/Object;").before a0 Z = true) (w3 : (Cond.native ⟨"java/lang/Object", "clone", "()Ljava/lang/Object;"⟩).before a0 Z = true)
    (w4 : (Cond.instanceMethod ⟨"java/lang/Object", "clone", "()Ljava/lang/Object;"⟩).before a0 Z = true) (w5 : (Cond.selects ad ⟨ad, "clone", "()Ljava/lang/Object;"⟩ ⟨"java/lang/Object", "clone", "()Ljava/lang/Object;"⟩).before a0 Z = true) (w6 : (Cond.castable ad "java/lang/Cloneable").before a0 Z = true)
    (eT : T.heap = h) (A : IA Z h a ty n f) (E : Exa Z h a ad) {g : JFrame} (hg : g.method = m) (hsize : g.locals.size = c.maxLocals) {rest : List Value} (hs : g.stack = .ref a :: rest) (hd : decode c.code g.pc = .ok (.invokevirtual index, 3))
    (hf : 1 ≤ R.frames) {W cap : Nat} (hW : 2 * g.monitorRoom + (rest.map fun v => v.category).sum ≤ W) (hl : W + 14 ≤ R.locals) (hcap : n ≤ cap) (hc : cells + 1 ≤ R.cells) (hsl : slots + cap ≤ R.slots) :
    ∃ T' h', Stand p l e R s m args below meth c T' locs (cells + 1) (slots + cap) ∧ T'.heap = h' ∧ Ext h h' ∧ IA Z h' h.size ty n f ∧ Exa Z h' h.size ad ∧
      ∀ target, Steps p.tables e below (T'.setTop { g with pc := g.pc + 3, stack := .ref h.size :: rest }) target → Steps p.tables e below (T.setTop g) target := by
  obtain ⟨cl, A, S, M, H⟩ := A
  have FC : FitC Z cl := fitC_of A fun i hi v hv => by
    rw [S] at hi
    rw [(H i hi).1] at hv
    cases hv
    exact (H i hi).2
  obtain ⟨T', h', X', e', ex, A', E', st⟩ := cloneA X hx hZ hown w1 w2 w3 w4 w5 w6 eT A E FC hg hsize hs hd hf hW hl (by rw [S]; exact hcap) hc hsl
  exact ⟨T', h', X', e', ex, ⟨cloneOf cl, A', S, M, H⟩, E', st⟩
end Clone
theorem own_sub {i n : Nat} (h : n ≤ i) (hi : i < 2 ^ 31) : Int32.ofNat i - Int32.ofNat n = Int32.ofNat (i - n) :=
  own_eqNat (by rw [Jvm.Kit.i32_sub (by rw [own_nat (by omega), own_nat (by omega)]; omega) (by rw [own_nat (by omega), own_nat (by omega)]; omega), own_nat (by omega), own_nat (by omega)]; omega)
end Jvm.RoadKit
namespace Jvm.RoadKit
open Sem ClassFile Op Lib Jvm.Stand Jvm.Free Jvm.LawKit
theorem own_stak {Z : State} {h h' : Heap} {C n d D : String} {v : Value} {a : Addr} (F : Sta Z h C n d v) (K : Keep h h' [a]) (E : Exa Z h a D) : Sta Z h' C n d v := by
  obtain ⟨cf, i, k, f, st, cell, h1, h2, h3, h4, h5, h6, h7⟩ := F
  obtain ⟨cell', k', e1, -, -, e4, -⟩ := E
  have ne : st ≠ a := fun q => by
    subst q
    cases h5.symm.trans e1
    rw [e4] at h6
    cases h6
  exact ⟨cf, i, k, f, st, cell, h1, h2, h3, h4, K.2.1 _ _ h5 (ninS ne nin0), h6, h7⟩
end Jvm.RoadKit
namespace Jvm.Pilot.@@N@@
open Jvm Jvm.ClassFile Sem Op Lib Jvm.Free Jvm.Stand Jvm.LawKit Jvm.RoadKit Bundle Jvm.Pilot.@@N@@.Jvm.D
theorem pd_0 : parseMethodDescriptor "()V" = some ⟨[], none⟩ := by decide +kernel
theorem pd_1 : parseMethodDescriptor "(J[B)V" = some ⟨[.long, (.array .byte)], none⟩ := by decide +kernel
theorem pd_2 : parseMethodDescriptor "()Z" = some ⟨[], some .boolean⟩ := by decide +kernel
theorem d2_0 : decode jdk_30_method_1_code 0 = .ok (.aload_n 0, 1) := by decide +kernel
theorem d2_1 : decode jdk_30_method_1_code 1 = .ok (.invokespecial 1, 3) := by decide +kernel
theorem d2_4 : decode jdk_30_method_1_code 4 = .ok (.return_, 1) := by decide +kernel
theorem pn_2 : plainName "java/lang/Record" = true := by first | (simp [plainName, overriddenIn]; done) | decide +kernel
theorem ef_rm2 (m : MethodId) (x0 : Addr) : entryFrame m #[(.ref x0)] 1 = mkF m 0 #[.val (.ref x0)] [] := by first | (simp [entryFrame, mkF, argsToLocals, Value.category]; done) | rfl
set_option maxRecDepth 65536 in
set_option maxHeartbeats 40000000 in
theorem rm2 (l : Launch) (Z : State) (a0 : Array Value) (hw : ∀ d ∈ tables_1, d.before a0 Z = true) (ws : List Jvm.Cond) (r0 : Addr) (h0 : Heap) (n0 : Nat) (Z0 : n0 ≤ h0.size) :
    MetFree l (⟨"java/lang/Record", "<init>", "()V"⟩ : MethodName) (head1 (Jvm.Cond.code (⟨"java/lang/Record", "<init>", "()V"⟩ : MethodName) jdk_30_method_1_code 1 none :: ws) ({ frames := 1, cells := 0, slots := 0, locals := 12 } : Room)) (fun a U => a = #[(.ref r0)] ∧ Z.Warmed39 U.vm ∧ U.heap = h0) (fun _ _ _ _ _ => True) (fun _ U o U' => ∃ v L, o = .returned v ∧ Qn h0 n0 v U'.heap L ∧ FrameEnd U o U' L ({ frames := 1, cells := 0, slots := 0, locals := 12 } : Room).cells ({ frames := 1, cells := 0, slots := 0, locals := 12 } : Room).slots) := by
  refine MetFree.of_bodySF (plainFor_of_name pn_2) hisR ?_
  intro p e s m args below meth c s₁ Bd hml0 hP hK
  obtain ⟨rfl, hZ, hh⟩ := hP
  have hx := Bd.exec
  have hby := Bd.bytes
  have hml : c.maxLocals = 1 := hml0
  have hown : s.vm.findClass "java/lang/Record" = some m.cls := findClass_of_methodNamed Bd.named
  have hnm := (name_of_methodNamed Bd.named Bd.method).1
  have hlk : meth.locks = false := BodyLoose.notSynchronized Bd
  have X0 : Stand p l e ({ frames := 1, cells := 0, slots := 0, locals := 12 } : Room) s m #[(.ref r0)] below meth c s₁ [] 0 0 := Stand.of_body Bd
  have e0 : s₁.heap = h0 := by rw [← hh, Bd.state]; rfl
  have N0 := Fr.nil n0
  have K0 : Keep h0 h0 [] := Keep.refl _ _
  show Goes p e below s (Qn h0 n0) ({ frames := 1, cells := 0, slots := 0, locals := 12 } : Room).cells ({ frames := 1, cells := 0, slots := 0, locals := 12 } : Room).slots (s₁.setTop (entryFrame m #[(.ref r0)] 1))
  rw [ef_rm2]
  show Goes p e below s _ _ _ (s₁.setTop (mkF m 0 #[.val (.ref r0)] []))
  refine Goes.go (fun _ k => XS.aloadN X0.here hx rfl (hb hby d2_0) rfl rfl  k) ?_
  show Goes p e below s _ _ _ (s₁.setTop (mkF m 1 #[.val (.ref r0)] [(.ref r0)]))
  obtain ⟨T1, X1, e1, st1⟩ := initO X0 hx hZ hown (hw _ (List.mem_of_getElem? (i := 12) rfl)) (hw _ (List.mem_of_getElem? (i := 13) rfl)) (hw _ (List.mem_of_getElem? (i := 14) rfl)) e0 (g := (mkF m 1 #[.val (.ref r0)] [(.ref r0)])) rfl (by rw [hml]; rfl) rfl (hb hby d2_1) (by decide) (W := 0) (by show 2 * 0 + _ ≤ _; exact Nat.le_of_eq rfl) (by decide)
  refine Goes.go st1 ?_
  show Goes p e below s _ _ _ (T1.setTop (mkF m 4 #[.val (.ref r0)] []))
  refine Goes.ret0 X1 hx hlk Bd.returns (hb hby d2_4) ?_ (by decide) (by decide)
  exact ⟨rfl, N0, e1⟩
theorem d1_0 : decode prog_58_method_1_code 0 = .ok (.aload_n 0, 1) := by decide +kernel
theorem d1_1 : decode prog_58_method_1_code 1 = .ok (.invokespecial 1, 3) := by decide +kernel
theorem d1_4 : decode prog_58_method_1_code 4 = .ok (.aload_n 0, 1) := by decide +kernel
theorem d1_5 : decode prog_58_method_1_code 5 = .ok (.lload_n 1, 1) := by decide +kernel
theorem d1_6 : decode prog_58_method_1_code 6 = .ok (.putfield 7, 3) := by decide +kernel
theorem d1_9 : decode prog_58_method_1_code 9 = .ok (.aload_n 0, 1) := by decide +kernel
theorem d1_10 : decode prog_58_method_1_code 10 = .ok (.aload_n 3, 1) := by decide +kernel
theorem d1_11 : decode prog_58_method_1_code 11 = .ok (.putfield 13, 3) := by decide +kernel
theorem d1_14 : decode prog_58_method_1_code 14 = .ok (.return_, 1) := by decide +kernel
theorem pn_1 : plainName "com/example/ack4/ack4/store/ExpiryAndProperties" = true := by first | (simp [plainName, overriddenIn]; done) | decide +kernel
theorem ef_rm1 (m : MethodId) (x0 : Addr) (x1 : Int64) (x2 : Addr) : entryFrame m #[(.ref x0), (.long x1), (.ref x2)] 4 = mkF m 0 #[.val (.ref x0), .val (.long x1), .second, .val (.ref x2)] [] := by first | (simp [entryFrame, mkF, argsToLocals, Value.category]; done) | rfl
def Q_rm1 (Z : State) (r0 : Addr) (q1 : Int64) (r2 : Addr) (h0 : Heap) (n0 : Nat) (v : Option Value) (h : Heap) (L : List Loc) : Prop := v = none ∧ Fr n0 L ∧ Keep h0 h [r0] ∧ Exa Z h r0 "com/example/ack4/ack4/store/ExpiryAndProperties" ∧ Fld Z h r0 "com/example/ack4/ack4/store/ExpiryAndProperties" "expiresAt" "J" (.long q1) ∧ Fld Z h r0 "com/example/ack4/ack4/store/ExpiryAndProperties" "properties" "[B" (.ref r2)
set_option maxRecDepth 65536 in
set_option maxHeartbeats 40000000 in
theorem rm1 (l : Launch) (Z : State) (a0 : Array Value) (hw : ∀ d ∈ tables_1, d.before a0 Z = true) (ws : List Jvm.Cond) (r0 : Addr) (q1 : Int64) (r2 : Addr) (h0 : Heap) (n0 : Nat) (Z0 : n0 ≤ h0.size) (E_r0 : Exa Z h0 r0 "com/example/ack4/ack4/store/ExpiryAndProperties") (g_r0 : n0 ≤ r0) (F_r0_expiresAt : Fld Z h0 r0 "com/example/ack4/ack4/store/ExpiryAndProperties" "expiresAt" "J" (.long (0 : Int64))) (F_r0_properties : Fld Z h0 r0 "com/example/ack4/ack4/store/ExpiryAndProperties" "properties" "[B" .null) :
    MetFree l (⟨"com/example/ack4/ack4/store/ExpiryAndProperties", "<init>", "(J[B)V"⟩ : MethodName) (head1 (Jvm.Cond.code (⟨"com/example/ack4/ack4/store/ExpiryAndProperties", "<init>", "(J[B)V"⟩ : MethodName) prog_58_method_1_code 4 none :: ws) ({ frames := 2, cells := 0, slots := 0, locals := 24 } : Room)) (fun a U => a = #[(.ref r0), (.long q1), (.ref r2)] ∧ Z.Warmed39 U.vm ∧ U.heap = h0) (fun _ _ _ _ _ => True) (fun _ U o U' => ∃ v L, o = .returned v ∧ Q_rm1 Z r0 q1 r2 h0 n0 v U'.heap L ∧ FrameEnd U o U' L ({ frames := 2, cells := 0, slots := 0, locals := 24 } : Room).cells ({ frames := 2, cells := 0, slots := 0, locals := 24 } : Room).slots) := by
  refine MetFree.of_bodySF (plainFor_of_name pn_1) hisR ?_
  intro p e s m args below meth c s₁ Bd hml0 hP hK
  obtain ⟨rfl, hZ, hh⟩ := hP
  have hx := Bd.exec
  have hby := Bd.bytes
  have hml : c.maxLocals = 4 := hml0
  have hown : s.vm.findClass "com/example/ack4/ack4/store/ExpiryAndProperties" = some m.cls := findClass_of_methodNamed Bd.named
  have hnm := (name_of_methodNamed Bd.named Bd.method).1
  have hlk : meth.locks = false := BodyLoose.notSynchronized Bd
  have X0 : Stand p l e ({ frames := 2, cells := 0, slots := 0, locals := 24 } : Room) s m #[(.ref r0), (.long q1), (.ref r2)] below meth c s₁ [] 0 0 := Stand.of_body Bd
  have e0 : s₁.heap = h0 := by rw [← hh, Bd.state]; rfl
  have N0 := Fr.nil n0
  have K0 : Keep h0 h0 [r0] := Keep.refl _ _
  show Goes p e below s (Q_rm1 Z r0 q1 r2 h0 n0) ({ frames := 2, cells := 0, slots := 0, locals := 24 } : Room).cells ({ frames := 2, cells := 0, slots := 0, locals := 24 } : Room).slots (s₁.setTop (entryFrame m #[(.ref r0), (.long q1), (.ref r2)] 4))
  rw [ef_rm1]
  show Goes p e below s _ _ _ (s₁.setTop (mkF m 0 #[.val (.ref r0), .val (.long q1), .second, .val (.ref r2)] []))
  refine Goes.go (fun _ k => XS.aloadN X0.here hx rfl (hb hby d1_0) rfl rfl  k) ?_
  show Goes p e below s _ _ _ (s₁.setTop (mkF m 1 #[.val (.ref r0), .val (.long q1), .second, .val (.ref r2)] [(.ref r0)]))
  obtain ⟨_, _, ⟨T1, L1, k1, n1⟩, -, X1, ⟨Lc1, hQ1, l1, y1, z1⟩, st1⟩ := X0.specialBack hx (y := (⟨"java/lang/Record", "<init>", "()V"⟩ : MethodName)) rfl hown (mvT hZ (hw _ (List.mem_of_getElem? (i := 7) rfl))) (mvT hZ (hw _ (List.mem_of_getElem? (i := 8) rfl))) (mvT hZ (hw _ (List.mem_of_getElem? (i := 11) rfl))) (by decide) (backOf (W := 0) (rm2 l Z a0 hw [] r0 h0 n0 Z0 ) hZ (hw _ (List.mem_of_getElem? (i := 11) rfl)) (hw _ (List.mem_of_getElem? (i := 10) rfl)) (by decide) (by decide)) (g := (mkF m 1 #[.val (.ref r0), .val (.long q1), .second, .val (.ref r2)] [(.ref r0)])) rfl (by rw [hml]; rfl) (Steps.refl _) (a := r0) (argsL := []) (rest := []) (lenOf pd_0 rfl) rfl (by show 2 * 0 + _ ≤ _; exact Nat.le_of_eq rfl) (hb hby d1_1) (fun _ _ => ⟨rfl, e0, (by decide : 0 + 0 ≤ _), (by decide : 0 + 0 ≤ _)⟩)
  dsimp only [Pt.U, Pt.locs, Pt.cells, Pt.slots] at X1 l1 y1 z1 st1 hQ1
  subst l1 y1 z1
  obtain ⟨rfl, N1q, e1⟩ := hQ1
  have N1 := Fr.app N0 N1q
  refine Goes.tr st1 ?_
  show Goes p e below s _ _ _ (T1.setTop (mkF m 4 #[.val (.ref r0), .val (.long q1), .second, .val (.ref r2)] []))
  refine Goes.go (fun _ k => XS.aloadN X1.here hx rfl (hb hby d1_4) rfl rfl  k) ?_
  show Goes p e below s _ _ _ (T1.setTop (mkF m 5 #[.val (.ref r0), .val (.long q1), .second, .val (.ref r2)] [(.ref r0)]))
  refine Goes.go (fun _ k => XS.lloadN X1.here hx rfl (hb hby d1_5) rfl  k) ?_
  show Goes p e below s _ _ _ (T1.setTop (mkF m 6 #[.val (.ref r0), .val (.long q1), .second, .val (.ref r2)] [(.long q1), (.ref r0)]))
  obtain ⟨T2, h2, X2, e2, W2, st2⟩ := putF X1 hx hZ hown (host := "") (Or.inl (hw _ (List.mem_of_getElem? (i := 15) rfl))) Via.refl e1 F_r0_expiresAt E_r0 (Or.inr ⟨(hw _ (List.mem_of_getElem? (i := 16) rfl)), rfl, hnm⟩) (hw _ (List.mem_of_getElem? (i := 2) rfl)) (ty := .long) (by decide) rfl rfl (g := (mkF m 6 #[.val (.ref r0), .val (.long q1), .second, .val (.ref r2)] [(.long q1), (.ref r0)])) rfl rfl (hb hby d1_6)
  have Fw2 := F_r0_expiresAt.same W2
  have N2 := Fr.snoc X2 N1 g_r0
  have Z2 := Nat.le_trans Z0 (Keep.of_wr W2).1
  have K2 := Keep.wr K0 W2 (Or.inl (List.mem_of_getElem? (i := 0) rfl))
  refine Goes.go st2 ?_
  show Goes p e below s _ _ _ (T2.setTop (mkF m 9 #[.val (.ref r0), .val (.long q1), .second, .val (.ref r2)] []))
  refine Goes.go (fun _ k => XS.aloadN X2.here hx rfl (hb hby d1_9) rfl rfl  k) ?_
  show Goes p e below s _ _ _ (T2.setTop (mkF m 10 #[.val (.ref r0), .val (.long q1), .second, .val (.ref r2)] [(.ref r0)]))
  refine Goes.go (fun _ k => XS.aloadN X2.here hx rfl (hb hby d1_10) rfl rfl  k) ?_
  show Goes p e below s _ _ _ (T2.setTop (mkF m 11 #[.val (.ref r0), .val (.long q1), .second, .val (.ref r2)] [(.ref r2), (.ref r0)]))
  obtain ⟨T3, h3, X3, e3, W3, st3⟩ := putF X2 hx hZ hown (host := "") (Or.inl (hw _ (List.mem_of_getElem? (i := 17) rfl))) Via.refl e2 (F_r0_properties.other W2 (Or.inr (slot_ne (Or.inr (hw _ (List.mem_of_getElem? (i := 18) rfl))) (Or.inr (hw _ (List.mem_of_getElem? (i := 16) rfl))) (by decide) (t := (.array .byte)) (t' := .long) (by decide) (by decide)))) (E_r0.wr W2) (Or.inr ⟨(hw _ (List.mem_of_getElem? (i := 18) rfl)), rfl, hnm⟩) (hw _ (List.mem_of_getElem? (i := 2) rfl)) (ty := (.array .byte)) (by decide) rfl rfl (g := (mkF m 11 #[.val (.ref r0), .val (.long q1), .second, .val (.ref r2)] [(.ref r2), (.ref r0)])) rfl rfl (hb hby d1_11)
  have Fw3 := (F_r0_properties.other W2 (Or.inr (slot_ne (Or.inr (hw _ (List.mem_of_getElem? (i := 18) rfl))) (Or.inr (hw _ (List.mem_of_getElem? (i := 16) rfl))) (by decide) (t := (.array .byte)) (t' := .long) (by decide) (by decide)))).same W3
  have N3 := Fr.snoc X3 N2 g_r0
  have Z3 := Nat.le_trans Z2 (Keep.of_wr W3).1
  have K3 := Keep.wr K2 W3 (Or.inl (List.mem_of_getElem? (i := 0) rfl))
  refine Goes.go st3 ?_
  show Goes p e below s _ _ _ (T3.setTop (mkF m 14 #[.val (.ref r0), .val (.long q1), .second, .val (.ref r2)] []))
  refine Goes.ret0 X3 hx hlk Bd.returns (hb hby d1_14) ?_ (by decide) (by decide)
  exact (show Q_rm1 Z r0 q1 r2 h0 n0 _ T3.heap _ by rw [e3]; exact ⟨rfl, N3, K3, ((E_r0.wr W2).wr W3), (Fw2.other W3 (Or.inr (slot_ne (Or.inr (hw _ (List.mem_of_getElem? (i := 16) rfl))) (Or.inr (hw _ (List.mem_of_getElem? (i := 18) rfl))) (by decide) (t := .long) (t' := (.array .byte)) (by decide) (by decide)))), Fw3⟩)
theorem d4_0 : decode prog_58_method_2_code 0 = .ok (.aload_n 0, 1) := by decide +kernel
theorem d4_1 : decode prog_58_method_2_code 1 = .ok (.getfield 7, 3) := by decide +kernel
theorem d4_4 : decode prog_58_method_2_code 4 = .ok (.ldc2_w 17, 3) := by decide +kernel
theorem d4_7 : decode prog_58_method_2_code 7 = .ok (.lcmp, 1) := by decide +kernel
theorem d4_8 : decode prog_58_method_2_code 8 = .ok (.ifCond .ne 11, 3) := by decide +kernel
theorem d4_11 : decode prog_58_method_2_code 11 = .ok (.aload_n 0, 1) := by decide +kernel
theorem d4_12 : decode prog_58_method_2_code 12 = .ok (.getfield 13, 3) := by decide +kernel
theorem d4_15 : decode prog_58_method_2_code 15 = .ok (.arraylength, 1) := by decide +kernel
theorem d4_16 : decode prog_58_method_2_code 16 = .ok (.ifCond .le 7, 3) := by decide +kernel
theorem d4_19 : decode prog_58_method_2_code 19 = .ok (.iconst 1, 1) := by decide +kernel
theorem d4_20 : decode prog_58_method_2_code 20 = .ok (.goto 4, 3) := by decide +kernel
theorem d4_23 : decode prog_58_method_2_code 23 = .ok (.iconst 0, 1) := by decide +kernel
theorem d4_24 : decode prog_58_method_2_code 24 = .ok (.ireturn, 1) := by decide +kernel
theorem pn_4 : plainName "com/example/ack4/ack4/store/ExpiryAndProperties" = true := by first | (simp [plainName, overriddenIn]; done) | decide +kernel
theorem ef_rm4 (m : MethodId) (x0 : Addr) : entryFrame m #[(.ref x0)] 1 = mkF m 0 #[.val (.ref x0)] [] := by first | (simp [entryFrame, mkF, argsToLocals, Value.category]; done) | rfl
def f4 (r0 : Addr) (w_r0_expiresAt : Int64) (w_r0_properties : Addr) (n_w_r0_properties : Nat) (v_w_r0_properties : Nat → Int32) : Int32 := (if w_r0_expiresAt = (-1 : Int64) then (nar .boolean (if (0 : Int32) < (Int32.ofNat n_w_r0_properties) then (1 : Int32) else (0 : Int32))) else (1 : Int32))
set_option maxRecDepth 65536 in
set_option maxHeartbeats 40000000 in
theorem rm4 (l : Launch) (Z : State) (a0 : Array Value) (hw : ∀ d ∈ tables_1, d.before a0 Z = true) (ws : List Jvm.Cond) (r0 : Addr) (w_r0_expiresAt : Int64) (w_r0_properties : Addr) (n_w_r0_properties : Nat) (v_w_r0_properties : Nat → Int32) (h0 : Heap) (n0 : Nat) (Z0 : n0 ≤ h0.size) (F_r0_expiresAt : Fld Z h0 r0 "com/example/ack4/ack4/store/ExpiryAndProperties" "expiresAt" "J" (.long w_r0_expiresAt)) (F_r0_properties : Fld Z h0 r0 "com/example/ack4/ack4/store/ExpiryAndProperties" "properties" "[B" (.ref w_r0_properties)) (A_w_r0_properties : IA Z h0 w_r0_properties .byte n_w_r0_properties v_w_r0_properties) :
    MetFree l (⟨"com/example/ack4/ack4/store/ExpiryAndProperties", "present", "()Z"⟩ : MethodName) (head1 (Jvm.Cond.code (⟨"com/example/ack4/ack4/store/ExpiryAndProperties", "present", "()Z"⟩ : MethodName) prog_58_method_2_code 1 (some .boolean) :: ws) ({ frames := 0, cells := 0, slots := 0, locals := 0 } : Room)) (fun a U => a = #[(.ref r0)] ∧ Z.Warmed39 U.vm ∧ U.heap = h0) (fun _ _ _ _ _ => True) (fun _ U o U' => ∃ v L, o = .returned v ∧ Qp (.int (f4 r0 w_r0_expiresAt w_r0_properties n_w_r0_properties v_w_r0_properties)) h0 n0 v U'.heap L ∧ FrameEnd U o U' L ({ frames := 0, cells := 0, slots := 0, locals := 0 } : Room).cells ({ frames := 0, cells := 0, slots := 0, locals := 0 } : Room).slots) := by
  refine MetFree.of_bodySF (plainFor_of_name pn_4) hisR ?_
  intro p e s m args below meth c s₁ Bd hml0 hP hK
  obtain ⟨rfl, hZ, hh⟩ := hP
  have hx := Bd.exec
  have hby := Bd.bytes
  have hml : c.maxLocals = 1 := hml0
  have hown : s.vm.findClass "com/example/ack4/ack4/store/ExpiryAndProperties" = some m.cls := findClass_of_methodNamed Bd.named
  have hnm := (name_of_methodNamed Bd.named Bd.method).1
  have hlk : meth.locks = false := BodyLoose.notSynchronized Bd
  have X0 : Stand p l e ({ frames := 0, cells := 0, slots := 0, locals := 0 } : Room) s m #[(.ref r0)] below meth c s₁ [] 0 0 := Stand.of_body Bd
  have e0 : s₁.heap = h0 := by rw [← hh, Bd.state]; rfl
  have N0 := Fr.nil n0
  have K0 : Keep h0 h0 [] := Keep.refl _ _
  show Goes p e below s (Qp (.int (f4 r0 w_r0_expiresAt w_r0_properties n_w_r0_properties v_w_r0_properties)) h0 n0) ({ frames := 0, cells := 0, slots := 0, locals := 0 } : Room).cells ({ frames := 0, cells := 0, slots := 0, locals := 0 } : Room).slots (s₁.setTop (entryFrame m #[(.ref r0)] 1))
  rw [ef_rm4]
  show Goes p e below s _ _ _ (s₁.setTop (mkF m 0 #[.val (.ref r0)] []))
  refine Goes.go (fun _ k => XS.aloadN X0.here hx rfl (hb hby d4_0) rfl rfl  k) ?_
  show Goes p e below s _ _ _ (s₁.setTop (mkF m 1 #[.val (.ref r0)] [(.ref r0)]))
  obtain ⟨T1, X1, e1, st1⟩ := getF X0 hx hZ hown (host := "") (Or.inl (hw _ (List.mem_of_getElem? (i := 15) rfl))) Via.refl e0 F_r0_expiresAt (g := (mkF m 1 #[.val (.ref r0)] [(.ref r0)])) rfl rfl (hb hby d4_1)
  refine Goes.go st1 ?_
  show Goes p e below s _ _ _ (T1.setTop (mkF m 4 #[.val (.ref r0)] [(.long w_r0_expiresAt)]))
  refine Goes.go (fun _ k => X1.ldc2Long hx hown (mvT hZ (hw _ (List.mem_of_getElem? (i := 24) rfl))) (g := (mkF m 4 #[.val (.ref r0)] [(.long w_r0_expiresAt)])) rfl (hb hby d4_4) _ k) ?_
  show Goes p e below s _ _ _ (T1.setTop (mkF m 7 #[.val (.ref r0)] [(.long (-1 : Int64)), (.long w_r0_expiresAt)]))
  refine Goes.go (fun _ k => XS.lcmp X1.here hx rfl (hb hby d4_7) rfl k) ?_
  show Goes p e below s _ _ _ (T1.setTop (mkF m 8 #[.val (.ref r0)] [(.int (lcmpW w_r0_expiresAt (-1 : Int64)))]))
  by_cases hc8_2 : w_r0_expiresAt = (-1 : Int64)
  · skip
    refine Goes.qi (if_pos hc8_2) ?_
    refine Goes.go (fun _ k => XS.ifNo X1.here hx rfl (hb hby d4_8) rfl ((if0 _ _).trans (teq ((lw_eq w_r0_expiresAt (-1 : Int64)).mpr hc8_2)).2) k) ?_
    show Goes p e below s _ _ _ (T1.setTop (mkF m 11 #[.val (.ref r0)] []))
    refine Goes.go (fun _ k => XS.aloadN X1.here hx rfl (hb hby d4_11) rfl rfl  k) ?_
    show Goes p e below s _ _ _ (T1.setTop (mkF m 12 #[.val (.ref r0)] [(.ref r0)]))
    obtain ⟨T3, X3, e3, st3⟩ := getF X1 hx hZ hown (host := "") (Or.inl (hw _ (List.mem_of_getElem? (i := 17) rfl))) Via.refl e1 F_r0_properties (g := (mkF m 12 #[.val (.ref r0)] [(.ref r0)])) rfl rfl (hb hby d4_12)
    refine Goes.go st3 ?_
    show Goes p e below s _ _ _ (T3.setTop (mkF m 15 #[.val (.ref r0)] [(.ref w_r0_properties)]))
    refine Goes.go (own_len X3 hx hZ e3 A_w_r0_properties (g := (mkF m 15 #[.val (.ref r0)] [(.ref w_r0_properties)])) rfl rfl (hb hby d4_15)) ?_
    show Goes p e below s _ _ _ (T3.setTop (mkF m 16 #[.val (.ref r0)] [(.int (Int32.ofNat n_w_r0_properties))]))
    obtain ⟨z4_s0, hz4_s0⟩ : ∃ z : Int32, z = if (0 : Int32) < (Int32.ofNat n_w_r0_properties) then (1 : Int32) else (0 : Int32) := ⟨_, rfl⟩
    have sm4 : ∀ t, Steps p.tables e below (T3.setTop (mkF m 24 #[.val (.ref r0)] [(.int z4_s0)])) t → Steps p.tables e below (T3.setTop (mkF m 16 #[.val (.ref r0)] [(.int (Int32.ofNat n_w_r0_properties))])) t := by
      intro t k
      by_cases hc16_4 : (0 : Int32) < (Int32.ofNat n_w_r0_properties)
      · have k2 : Steps p.tables e below (T3.setTop (mkF m 24 #[.val (.ref r0)] [(.int (1 : Int32))])) t := by simpa only [hz4_s0, if_pos hc16_4] using k
        show Steps p.tables e below (T3.setTop (mkF m 16 #[.val (.ref r0)] [(.int (Int32.ofNat n_w_r0_properties))])) _
        refine XS.ifNo X3.here hx rfl (hb hby d4_16) rfl ((if0 _ _).trans (tlt hc16_4).2.2.2) ?_
        show Steps p.tables e below (T3.setTop (mkF m 19 #[.val (.ref r0)] [])) _
        refine XS.iconst X3.here hx rfl (hb hby d4_19) ?_
        show Steps p.tables e below (T3.setTop (mkF m 20 #[.val (.ref r0)] [(.int (1 : Int32))])) _
        refine XS.goto X3.here hx rfl (pc0 := 20) (pc' := 24) rfl (hb hby d4_20) (by decide) (by decide) ?_
        exact k2
      · have k2 : Steps p.tables e below (T3.setTop (mkF m 24 #[.val (.ref r0)] [(.int (0 : Int32))])) t := by simpa only [hz4_s0, if_neg hc16_4] using k
        show Steps p.tables e below (T3.setTop (mkF m 16 #[.val (.ref r0)] [(.int (Int32.ofNat n_w_r0_properties))])) _
        refine XS.ifYes X3.here hx rfl (pc0 := 16) (pc' := 23) rfl (hb hby d4_16) rfl ((if0 _ _).trans (flt hc16_4).2.2.2) (by decide) (by decide) ?_
        show Steps p.tables e below (T3.setTop (mkF m 23 #[.val (.ref r0)] [])) _
        refine XS.iconst X3.here hx rfl (hb hby d4_23) ?_
        exact k2
    refine Goes.go sm4 ?_
    show Goes p e below s _ _ _ (T3.setTop (mkF m 24 #[.val (.ref r0)] [(.int z4_s0)]))
    refine Goes.retN .boolean X3 hx hlk Bd.returns (by simp) (hb hby d4_24) ?_ (by decide) (by decide)
    exact ⟨by subst hz4_s0; rfl, N0, e3⟩
  · skip
    refine Goes.qi (if_neg hc8_2) ?_
    refine Goes.go (fun _ k => XS.ifYes X1.here hx rfl (pc0 := 8) (pc' := 19) rfl (hb hby d4_8) rfl ((if0 _ _).trans (feq (mt (lw_eq w_r0_expiresAt (-1 : Int64)).mp hc8_2)).2) (by decide) (by decide) k) ?_
    show Goes p e below s _ _ _ (T1.setTop (mkF m 19 #[.val (.ref r0)] []))
    refine Goes.go (fun _ k => XS.iconst X1.here hx rfl (hb hby d4_19) k) ?_
    show Goes p e below s _ _ _ (T1.setTop (mkF m 20 #[.val (.ref r0)] [(.int (1 : Int32))]))
    refine Goes.go (fun _ k => XS.goto X1.here hx rfl (pc0 := 20) (pc' := 24) rfl (hb hby d4_20) (by decide) (by decide) k) ?_
    show Goes p e below s _ _ _ (T1.setTop (mkF m 24 #[.val (.ref r0)] [(.int (1 : Int32))]))
    refine Goes.retN .boolean X1 hx hlk Bd.returns (by simp) (hb hby d4_24) ?_ (by decide) (by decide)
    exact ⟨by rfl, N0, e1⟩
theorem own_law (r a : Addr) (x : Int64) (n : Nat) (v : Nat → Int32) : f4 r x a n v = (if (0 : Int32) < (Int32.ofNat n) then (1 : Int32) else (if x = (-1 : Int64) then (0 : Int32) else (1 : Int32))) := by
  unfold f4
  by_cases h1 : x = -1 <;> by_cases h2 : (0 : Int32) < Int32.ofNat n <;> simp [h1, h2, nar]
theorem pn_0 : plainName "com/example/ack4/ack4/store/ExpiryAndPropertiesPresentPinLaw" = true := by first | (simp [plainName, overriddenIn]; done) | decide +kernel
theorem ef_rm0 (m : MethodId) (x0 : Int64) (x1 : Int32) (x2 : Int32) : entryFrame m #[(.long x0), (.int x1), (.int x2)] maxLocals = mkF m 0 #[.val (.long x0), .second, .val (.int x1), .val (.int x2), .unset, .unset, .unset, .unset, .unset, .unset, .unset] [] := by first | (simp [entryFrame, mkF, argsToLocals, Value.category, maxLocals]; done) | rfl
def Q0 (n0 : Nat) (v : Option Value) (h : Heap) (L : List Loc) : Prop := v = some (.int 1) ∧ Fr n0 L
set_option maxRecDepth 65536 in
set_option maxHeartbeats 40000000 in
theorem rm0 (l : Launch) (Z : State) (a0 : Array Value) (hw : ∀ d ∈ tables_1, d.before a0 Z = true) (ws : List Jvm.Cond) (q0 : Int64) (p1 : Int32) (p2 : Int32) (h0 : Heap) (n0 : Nat) (Z0 : n0 ≤ h0.size) :
    MetFree l x (head1 (Jvm.Cond.code x code maxLocals ret :: ws) room_1) (fun a U => a = #[(.long q0), (.int p1), (.int p2)] ∧ Z.Warmed39 U.vm ∧ U.heap = h0) (fun _ _ _ _ _ => True) (fun _ U o U' => ∃ v L, o = .returned v ∧ Q0 n0 v U'.heap L ∧ FrameEnd U o U' L room_1.cells room_1.slots) := by
  refine MetFree.of_bodySF (plainFor_of_name pn_0) hisR ?_
  intro p e s m args below meth c s₁ Bd hml0 hP hK
  obtain ⟨rfl, hZ, hh⟩ := hP
  have hx := Bd.exec
  have hby := Bd.bytes
  have hml : c.maxLocals = 11 := hml0
  have hown : s.vm.findClass "com/example/ack4/ack4/store/ExpiryAndPropertiesPresentPinLaw" = some m.cls := findClass_of_methodNamed Bd.named
  have hnm := (name_of_methodNamed Bd.named Bd.method).1
  have hlk : meth.locks = false := BodyLoose.notSynchronized Bd
  have X0 : Stand p l e room_1 s m #[(.long q0), (.int p1), (.int p2)] below meth c s₁ [] 0 0 := Stand.of_body Bd
  have e0 : s₁.heap = h0 := by rw [← hh, Bd.state]; rfl
  have N0 := Fr.nil n0
  have K0 : Keep h0 h0 [] := Keep.refl _ _
  show Goes p e below s (Q0 n0) room_1.cells room_1.slots (s₁.setTop (entryFrame m #[(.long q0), (.int p1), (.int p2)] maxLocals))
  rw [ef_rm0]
  show Goes p e below s _ _ _ (s₁.setTop (mkF m 0 #[.val (.long q0), .second, .val (.int p1), .val (.int p2), .unset, .unset, .unset, .unset, .unset, .unset, .unset] []))
  refine Goes.go (fun _ k => XS.iloadN X0.here hx rfl (hb hby at_0) rfl  k) ?_
  show Goes p e below s _ _ _ (s₁.setTop (mkF m 1 #[.val (.long q0), .second, .val (.int p1), .val (.int p2), .unset, .unset, .unset, .unset, .unset, .unset, .unset] [(.int p1)]))
  refine Goes.go (fun _ k => XS.iconst X0.here hx rfl (hb hby at_1) k) ?_
  show Goes p e below s _ _ _ (s₁.setTop (mkF m 2 #[.val (.long q0), .second, .val (.int p1), .val (.int p2), .unset, .unset, .unset, .unset, .unset, .unset, .unset] [(.int (1 : Int32)), (.int p1)]))
  refine Goes.go (fun _ k => XS.iand X0.here hx rfl (hb hby at_2) rfl k) ?_
  show Goes p e below s _ _ _ (s₁.setTop (mkF m 3 #[.val (.long q0), .second, .val (.int p1), .val (.int p2), .unset, .unset, .unset, .unset, .unset, .unset, .unset] [(.int (p1 &&& (1 : Int32)))]))
  obtain ⟨z1_s0, hz1_s0⟩ : ∃ z : Int32, z = if (p1 &&& (1 : Int32)) = (0 : Int32) then (0 : Int32) else (1 : Int32) := ⟨_, rfl⟩
  have sm1 : ∀ t, Steps p.tables e below (s₁.setTop (mkF m 11 #[.val (.long q0), .second, .val (.int p1), .val (.int p2), .unset, .unset, .unset, .unset, .unset, .unset, .unset] [(.int z1_s0)])) t → Steps p.tables e below (s₁.setTop (mkF m 3 #[.val (.long q0), .second, .val (.int p1), .val (.int p2), .unset, .unset, .unset, .unset, .unset, .unset, .unset] [(.int (p1 &&& (1 : Int32)))])) t := by
    intro t k
    by_cases hc3_1 : (p1 &&& (1 : Int32)) = (0 : Int32)
    · have k2 : Steps p.tables e below (s₁.setTop (mkF m 11 #[.val (.long q0), .second, .val (.int p1), .val (.int p2), .unset, .unset, .unset, .unset, .unset, .unset, .unset] [(.int (0 : Int32))])) t := by simpa only [hz1_s0, if_pos hc3_1] using k
      show Steps p.tables e below (s₁.setTop (mkF m 3 #[.val (.long q0), .second, .val (.int p1), .val (.int p2), .unset, .unset, .unset, .unset, .unset, .unset, .unset] [(.int (p1 &&& (1 : Int32)))])) _
      refine XS.ifYes X0.here hx rfl (pc0 := 3) (pc' := 10) rfl (hb hby at_3) rfl ((if0 _ _).trans (teq hc3_1).1) (by decide) (by decide) ?_
      show Steps p.tables e below (s₁.setTop (mkF m 10 #[.val (.long q0), .second, .val (.int p1), .val (.int p2), .unset, .unset, .unset, .unset, .unset, .unset, .unset] [])) _
      refine XS.iconst X0.here hx rfl (hb hby at_10) ?_
      exact k2
    · have k2 : Steps p.tables e below (s₁.setTop (mkF m 11 #[.val (.long q0), .second, .val (.int p1), .val (.int p2), .unset, .unset, .unset, .unset, .unset, .unset, .unset] [(.int (1 : Int32))])) t := by simpa only [hz1_s0, if_neg hc3_1] using k
      show Steps p.tables e below (s₁.setTop (mkF m 3 #[.val (.long q0), .second, .val (.int p1), .val (.int p2), .unset, .unset, .unset, .unset, .unset, .unset, .unset] [(.int (p1 &&& (1 : Int32)))])) _
      refine XS.ifNo X0.here hx rfl (hb hby at_3) rfl ((if0 _ _).trans (feq hc3_1).1) ?_
      show Steps p.tables e below (s₁.setTop (mkF m 6 #[.val (.long q0), .second, .val (.int p1), .val (.int p2), .unset, .unset, .unset, .unset, .unset, .unset, .unset] [])) _
      refine XS.iconst X0.here hx rfl (hb hby at_6) ?_
      show Steps p.tables e below (s₁.setTop (mkF m 7 #[.val (.long q0), .second, .val (.int p1), .val (.int p2), .unset, .unset, .unset, .unset, .unset, .unset, .unset] [(.int (1 : Int32))])) _
      refine XS.goto X0.here hx rfl (pc0 := 7) (pc' := 11) rfl (hb hby at_7) (by decide) (by decide) ?_
      exact k2
  refine Goes.go sm1 ?_
  show Goes p e below s _ _ _ (s₁.setTop (mkF m 11 #[.val (.long q0), .second, .val (.int p1), .val (.int p2), .unset, .unset, .unset, .unset, .unset, .unset, .unset] [(.int z1_s0)]))
  refine Goes.go (fun _ k => XS.istore X0.here hx rfl (hb hby at_11) rfl (l' := #[.val (.long q0), .second, .val (.int p1), .val (.int p2), .val (.int z1_s0), .unset, .unset, .unset, .unset, .unset, .unset]) rfl k) ?_
  show Goes p e below s _ _ _ (s₁.setTop (mkF m 13 #[.val (.long q0), .second, .val (.int p1), .val (.int p2), .val (.int z1_s0), .unset, .unset, .unset, .unset, .unset, .unset] []))
  refine Goes.go (fun _ k => XS.iload X0.here hx rfl (hb hby at_13) rfl  k) ?_
  show Goes p e below s _ _ _ (s₁.setTop (mkF m 15 #[.val (.long q0), .second, .val (.int p1), .val (.int p2), .val (.int z1_s0), .unset, .unset, .unset, .unset, .unset, .unset] [(.int z1_s0)]))
  obtain ⟨z2_s0, hz2_s0⟩ : ∃ z : Int64, z = if z1_s0 = (0 : Int32) then q0 else (-1 : Int64) := ⟨_, rfl⟩
  have sm2 : ∀ t, Steps p.tables e below (s₁.setTop (mkF m 25 #[.val (.long q0), .second, .val (.int p1), .val (.int p2), .val (.int z1_s0), .unset, .unset, .unset, .unset, .unset, .unset] [(.long z2_s0)])) t → Steps p.tables e below (s₁.setTop (mkF m 15 #[.val (.long q0), .second, .val (.int p1), .val (.int p2), .val (.int z1_s0), .unset, .unset, .unset, .unset, .unset, .unset] [(.int z1_s0)])) t := by
    intro t k
    by_cases hc15_2 : z1_s0 = (0 : Int32)
    · have k2 : Steps p.tables e below (s₁.setTop (mkF m 25 #[.val (.long q0), .second, .val (.int p1), .val (.int p2), .val (.int z1_s0), .unset, .unset, .unset, .unset, .unset, .unset] [(.long q0)])) t := by simpa only [hz2_s0, if_pos hc15_2] using k
      show Steps p.tables e below (s₁.setTop (mkF m 15 #[.val (.long q0), .second, .val (.int p1), .val (.int p2), .val (.int z1_s0), .unset, .unset, .unset, .unset, .unset, .unset] [(.int z1_s0)])) _
      refine XS.ifYes X0.here hx rfl (pc0 := 15) (pc' := 24) rfl (hb hby at_15) rfl ((if0 _ _).trans (teq hc15_2).1) (by decide) (by decide) ?_
      show Steps p.tables e below (s₁.setTop (mkF m 24 #[.val (.long q0), .second, .val (.int p1), .val (.int p2), .val (.int z1_s0), .unset, .unset, .unset, .unset, .unset, .unset] [])) _
      refine XS.lloadN X0.here hx rfl (hb hby at_24) rfl  ?_
      exact k2
    · have k2 : Steps p.tables e below (s₁.setTop (mkF m 25 #[.val (.long q0), .second, .val (.int p1), .val (.int p2), .val (.int z1_s0), .unset, .unset, .unset, .unset, .unset, .unset] [(.long (-1 : Int64))])) t := by simpa only [hz2_s0, if_neg hc15_2] using k
      show Steps p.tables e below (s₁.setTop (mkF m 15 #[.val (.long q0), .second, .val (.int p1), .val (.int p2), .val (.int z1_s0), .unset, .unset, .unset, .unset, .unset, .unset] [(.int z1_s0)])) _
      refine XS.ifNo X0.here hx rfl (hb hby at_15) rfl ((if0 _ _).trans (feq hc15_2).1) ?_
      show Steps p.tables e below (s₁.setTop (mkF m 18 #[.val (.long q0), .second, .val (.int p1), .val (.int p2), .val (.int z1_s0), .unset, .unset, .unset, .unset, .unset, .unset] [])) _
      refine X0.ldc2Long hx hown (mvT hZ (hw _ (List.mem_of_getElem? (i := 25) rfl))) (g := (mkF m 18 #[.val (.long q0), .second, .val (.int p1), .val (.int p2), .val (.int z1_s0), .unset, .unset, .unset, .unset, .unset, .unset] [])) rfl (hb hby at_18) _ ?_
      show Steps p.tables e below (s₁.setTop (mkF m 21 #[.val (.long q0), .second, .val (.int p1), .val (.int p2), .val (.int z1_s0), .unset, .unset, .unset, .unset, .unset, .unset] [(.long (-1 : Int64))])) _
      refine XS.goto X0.here hx rfl (pc0 := 21) (pc' := 25) rfl (hb hby at_21) (by decide) (by decide) ?_
      exact k2
  refine Goes.go sm2 ?_
  show Goes p e below s _ _ _ (s₁.setTop (mkF m 25 #[.val (.long q0), .second, .val (.int p1), .val (.int p2), .val (.int z1_s0), .unset, .unset, .unset, .unset, .unset, .unset] [(.long z2_s0)]))
  refine Goes.go (fun _ k => XS.lstore X0.here hx rfl (hb hby at_25) rfl (l' := #[.val (.long q0), .second, .val (.int p1), .val (.int p2), .val (.int z1_s0), .val (.long z2_s0), .second, .unset, .unset, .unset, .unset]) rfl k) ?_
  show Goes p e below s _ _ _ (s₁.setTop (mkF m 27 #[.val (.long q0), .second, .val (.int p1), .val (.int p2), .val (.int z1_s0), .val (.long z2_s0), .second, .unset, .unset, .unset, .unset] []))
  refine Goes.go (fun _ k => XS.iloadN X0.here hx rfl (hb hby at_27) rfl  k) ?_
  show Goes p e below s _ _ _ (s₁.setTop (mkF m 28 #[.val (.long q0), .second, .val (.int p1), .val (.int p2), .val (.int z1_s0), .val (.long z2_s0), .second, .unset, .unset, .unset, .unset] [(.int p2)]))
  refine Goes.go (fun _ k => XS.iconst X0.here hx rfl (hb hby at_28) k) ?_
  show Goes p e below s _ _ _ (s₁.setTop (mkF m 29 #[.val (.long q0), .second, .val (.int p1), .val (.int p2), .val (.int z1_s0), .val (.long z2_s0), .second, .unset, .unset, .unset, .unset] [(.int (3 : Int32)), (.int p2)]))
  refine Goes.go (fun _ k => XS.iand X0.here hx rfl (hb hby at_29) rfl k) ?_
  show Goes p e below s _ _ _ (s₁.setTop (mkF m 30 #[.val (.long q0), .second, .val (.int p1), .val (.int p2), .val (.int z1_s0), .val (.long z2_s0), .second, .unset, .unset, .unset, .unset] [(.int (p2 &&& (3 : Int32)))]))
  refine Goes.go (fun _ k => XS.istore X0.here hx rfl (hb hby at_30) rfl (l' := #[.val (.long q0), .second, .val (.int p1), .val (.int p2), .val (.int z1_s0), .val (.long z2_s0), .second, .val (.int (p2 &&& (3 : Int32))), .unset, .unset, .unset]) rfl k) ?_
  obtain ⟨n, hn, en⟩ := own_andN p2 3 2 (by decide) (by decide)
  have hn4 : n < 4 := hn
  rw [en]
  show Goes p e below s _ _ _ (s₁.setTop (mkF m 32 #[.val (.long q0), .second, .val (.int p1), .val (.int p2), .val (.int z1_s0), .val (.long z2_s0), .second, .val (.int (Int32.ofNat n)), .unset, .unset, .unset] []))
  refine Goes.go (fun _ k => XS.iload X0.here hx rfl (hb hby at_32) rfl  k) ?_
  show Goes p e below s _ _ _ (s₁.setTop (mkF m 34 #[.val (.long q0), .second, .val (.int p1), .val (.int p2), .val (.int z1_s0), .val (.long z2_s0), .second, .val (.int (Int32.ofNat n)), .unset, .unset, .unset] [(.int (Int32.ofNat n))]))
  obtain ⟨T3, h3, X3, e3, E3, A3, EA3, st3⟩ := own_newA X0 hx hZ (hw _ (List.mem_of_getElem? (i := 0) rfl)) e0 (g := (mkF m 34 #[.val (.long q0), .second, .val (.int p1), .val (.int p2), .val (.int z1_s0), .val (.long z2_s0), .second, .val (.int (Int32.ofNat n)), .unset, .unset, .unset] [(.int (Int32.ofNat n))])) rfl (hb hby at_34) rfl (n := n) rfl (cap := 3) (by omega) (by decide) (by decide) (by decide) (by decide) (by decide) (by decide : _ = "[B")
  obtain ⟨b3, g3⟩ : ∃ z, z = h0.size := ⟨_, rfl⟩
  rw [← g3] at A3 EA3 st3
  have gb3 : n0 ≤ b3 := Nat.le_trans Z0 (Nat.le_of_eq g3.symm)
  have sb3 : h0.size ≤ b3 := Nat.le_trans K0.1 (Nat.le_of_eq g3.symm)
  have Z3 := Nat.le_trans Z0 E3.1
  have K3 := Keep.ext K0 E3
  refine Goes.go st3 ?_
  show Goes p e below s _ _ _ (T3.setTop (mkF m 36 #[.val (.long q0), .second, .val (.int p1), .val (.int p2), .val (.int z1_s0), .val (.long z2_s0), .second, .val (.int (Int32.ofNat n)), .unset, .unset, .unset] [(.ref b3)]))
  refine Goes.go (fun _ k => XS.astore X3.here hx rfl (hb hby at_36) rfl rfl (l' := #[.val (.long q0), .second, .val (.int p1), .val (.int p2), .val (.int z1_s0), .val (.long z2_s0), .second, .val (.int (Int32.ofNat n)), .val (.ref b3), .unset, .unset]) rfl k) ?_
  show Goes p e below s _ _ _ (T3.setTop (mkF m 38 #[.val (.long q0), .second, .val (.int p1), .val (.int p2), .val (.int z1_s0), .val (.long z2_s0), .second, .val (.int (Int32.ofNat n)), .val (.ref b3), .unset, .unset] []))
  refine Goes.go (fun _ k => XS.iload X3.here hx rfl (hb hby at_38) rfl  k) ?_
  show Goes p e below s _ _ _ (T3.setTop (mkF m 40 #[.val (.long q0), .second, .val (.int p1), .val (.int p2), .val (.int z1_s0), .val (.long z2_s0), .second, .val (.int (Int32.ofNat n)), .val (.ref b3), .unset, .unset] [(.int (Int32.ofNat n))]))
  by_cases hc40_4 : (0 : Int32) < (Int32.ofNat n)
  · skip
    refine Goes.go (fun _ k => XS.ifNo X3.here hx rfl (hb hby at_40) rfl ((if0 _ _).trans (tlt hc40_4).2.2.2) k) ?_
    show Goes p e below s _ _ _ (T3.setTop (mkF m 43 #[.val (.long q0), .second, .val (.int p1), .val (.int p2), .val (.int z1_s0), .val (.long z2_s0), .second, .val (.int (Int32.ofNat n)), .val (.ref b3), .unset, .unset] []))
    refine Goes.go (fun _ k => XS.aload X3.here hx rfl (hb hby at_43) rfl rfl  k) ?_
    show Goes p e below s _ _ _ (T3.setTop (mkF m 45 #[.val (.long q0), .second, .val (.int p1), .val (.int p2), .val (.int z1_s0), .val (.long z2_s0), .second, .val (.int (Int32.ofNat n)), .val (.ref b3), .unset, .unset] [(.ref b3)]))
    refine Goes.go (fun _ k => XS.iconst X3.here hx rfl (hb hby at_45) k) ?_
    show Goes p e below s _ _ _ (T3.setTop (mkF m 46 #[.val (.long q0), .second, .val (.int p1), .val (.int p2), .val (.int z1_s0), .val (.long z2_s0), .second, .val (.int (Int32.ofNat n)), .val (.ref b3), .unset, .unset] [(.int (0 : Int32)), (.ref b3)]))
    refine Goes.go (fun _ k => XS.iloadN X3.here hx rfl (hb hby at_46) rfl  k) ?_
    show Goes p e below s _ _ _ (T3.setTop (mkF m 47 #[.val (.long q0), .second, .val (.int p1), .val (.int p2), .val (.int z1_s0), .val (.long z2_s0), .second, .val (.int (Int32.ofNat n)), .val (.ref b3), .unset, .unset] [(.int p2), (.int (0 : Int32)), (.ref b3)]))
    refine Goes.go (fun _ k => XS.iconst X3.here hx rfl (hb hby at_47) k) ?_
    show Goes p e below s _ _ _ (T3.setTop (mkF m 48 #[.val (.long q0), .second, .val (.int p1), .val (.int p2), .val (.int z1_s0), .val (.long z2_s0), .second, .val (.int (Int32.ofNat n)), .val (.ref b3), .unset, .unset] [(.int (2 : Int32)), (.int p2), (.int (0 : Int32)), (.ref b3)]))
    refine Goes.go (fun _ k => XS.ishr X3.here hx rfl (hb hby at_48) rfl k) ?_
    show Goes p e below s _ _ _ (T3.setTop (mkF m 49 #[.val (.long q0), .second, .val (.int p1), .val (.int p2), .val (.int z1_s0), .val (.long z2_s0), .second, .val (.int (Int32.ofNat n)), .val (.ref b3), .unset, .unset] [(.int (p2 >>> ((2 : Int32) &&& 31))), (.int (0 : Int32)), (.ref b3)]))
    refine Goes.go (fun _ k => XS.i2b X3.here hx rfl (hb hby at_49) rfl k) ?_
    show Goes p e below s _ _ _ (T3.setTop (mkF m 50 #[.val (.long q0), .second, .val (.int p1), .val (.int p2), .val (.int z1_s0), .val (.long z2_s0), .second, .val (.int (Int32.ofNat n)), .val (.ref b3), .unset, .unset] [(.int ((p2 >>> ((2 : Int32) &&& 31)).toInt8.toInt32)), (.int (0 : Int32)), (.ref b3)]))
    obtain ⟨T5, h5, X5, e5, W5, A5, st5⟩ := own_stB X3 hx hZ e3 A3 (i := 0) rfl ((own_lt (i := 0) (by decide) (by omega)).mp hc40_4) (g := (mkF m 50 #[.val (.long q0), .second, .val (.int p1), .val (.int p2), .val (.int z1_s0), .val (.long z2_s0), .second, .val (.int (Int32.ofNat n)), .val (.ref b3), .unset, .unset] [(.int ((p2 >>> ((2 : Int32) &&& 31)).toInt8.toInt32)), (.int (0 : Int32)), (.ref b3)])) rfl rfl (hb hby at_50)
    have N5 := Fr.snoc X5 N0 gb3
    have Z5 := Nat.le_trans Z3 (Keep.of_wr W5).1
    have K5 := Keep.wr K3 W5 (Or.inr sb3)
    refine Goes.go st5 ?_
    show Goes p e below s _ _ _ (T5.setTop (mkF m 51 #[.val (.long q0), .second, .val (.int p1), .val (.int p2), .val (.int z1_s0), .val (.long z2_s0), .second, .val (.int (Int32.ofNat n)), .val (.ref b3), .unset, .unset] []))
    obtain ⟨T6, h6, X6, e6, E6, A6, D6, -, st6⟩ := newO X5 hx hZ hown (hw _ (List.mem_of_getElem? (i := 1) rfl)) (hw _ (List.mem_of_getElem? (i := 2) rfl)) (hw _ (List.mem_of_getElem? (i := 3) rfl)) e5 (g := (mkF m 51 #[.val (.long q0), .second, .val (.int p1), .val (.int p2), .val (.int z1_s0), .val (.long z2_s0), .second, .val (.int (Int32.ofNat n)), .val (.ref b3), .unset, .unset] [])) rfl (hb hby at_51) (by decide) (by decide)
    obtain ⟨b6, g6⟩ : ∃ z, z = h5.size := ⟨_, rfl⟩
    rw [← g6] at A6 D6 st6
    have gb6 : n0 ≤ b6 := Nat.le_trans Z5 (Nat.le_of_eq g6.symm)
    have sb6 : h0.size ≤ b6 := Nat.le_trans K5.1 (Nat.le_of_eq g6.symm)
    have Z6 := Nat.le_trans Z5 E6.1
    have K6 := Keep.ext K5 E6
    have F6_expiresAt : Fld Z h6 b6 "com/example/ack4/ack4/store/ExpiryAndProperties" "expiresAt" "J" (.long (0 : Int64)) := D6 (Or.inr (hw _ (List.mem_of_getElem? (i := 16) rfl))) (ty := .long) (by decide)
    have F6_properties : Fld Z h6 b6 "com/example/ack4/ack4/store/ExpiryAndProperties" "properties" "[B" .null := D6 (Or.inr (hw _ (List.mem_of_getElem? (i := 18) rfl))) (ty := (.array .byte)) (by decide)
    refine Goes.go st6 ?_
    show Goes p e below s _ _ _ (T6.setTop (mkF m 54 #[.val (.long q0), .second, .val (.int p1), .val (.int p2), .val (.int z1_s0), .val (.long z2_s0), .second, .val (.int (Int32.ofNat n)), .val (.ref b3), .unset, .unset] [(.ref b6)]))
    refine Goes.go (fun _ k => XS.dup X6.here hx rfl (hb hby at_54) rfl rfl k) ?_
    show Goes p e below s _ _ _ (T6.setTop (mkF m 55 #[.val (.long q0), .second, .val (.int p1), .val (.int p2), .val (.int z1_s0), .val (.long z2_s0), .second, .val (.int (Int32.ofNat n)), .val (.ref b3), .unset, .unset] [(.ref b6), (.ref b6)]))
    refine Goes.go (fun _ k => XS.lload X6.here hx rfl (hb hby at_55) rfl  k) ?_
    show Goes p e below s _ _ _ (T6.setTop (mkF m 57 #[.val (.long q0), .second, .val (.int p1), .val (.int p2), .val (.int z1_s0), .val (.long z2_s0), .second, .val (.int (Int32.ofNat n)), .val (.ref b3), .unset, .unset] [(.long z2_s0), (.ref b6), (.ref b6)]))
    refine Goes.go (fun _ k => XS.aload X6.here hx rfl (hb hby at_57) rfl rfl  k) ?_
    show Goes p e below s _ _ _ (T6.setTop (mkF m 59 #[.val (.long q0), .second, .val (.int p1), .val (.int p2), .val (.int z1_s0), .val (.long z2_s0), .second, .val (.int (Int32.ofNat n)), .val (.ref b3), .unset, .unset] [(.ref b3), (.long z2_s0), (.ref b6), (.ref b6)]))
    obtain ⟨_, _, ⟨T7, L7, k7, n7⟩, -, X7, ⟨Lc7, hQ7, l7, y7, z7⟩, st7⟩ := X6.specialBack hx (y := (⟨"com/example/ack4/ack4/store/ExpiryAndProperties", "<init>", "(J[B)V"⟩ : MethodName)) rfl hown (mvT hZ (hw _ (List.mem_of_getElem? (i := 4) rfl))) (mvT hZ (hw _ (List.mem_of_getElem? (i := 5) rfl))) (mvT hZ (hw _ (List.mem_of_getElem? (i := 6) rfl))) (by decide) (backOf (W := 1) (rm1 l Z a0 hw [] b6 z2_s0 b3 h6 n0 Z6 A6 gb6 F6_expiresAt F6_properties) hZ (hw _ (List.mem_of_getElem? (i := 6) rfl)) (hw _ (List.mem_of_getElem? (i := 3) rfl)) (by decide) (by decide)) (g := (mkF m 59 #[.val (.long q0), .second, .val (.int p1), .val (.int p2), .val (.int z1_s0), .val (.long z2_s0), .second, .val (.int (Int32.ofNat n)), .val (.ref b3), .unset, .unset] [(.ref b3), (.long z2_s0), (.ref b6), (.ref b6)])) rfl (by rw [hml]; rfl) (Steps.refl _) (a := b6) (argsL := [(.long z2_s0), (.ref b3)]) (rest := [(.ref b6)]) (lenOf pd_1 rfl) rfl (by show 2 * 0 + _ ≤ _; exact Nat.le_of_eq rfl) (hb hby at_59) (fun _ _ => ⟨rfl, e6, (by decide : 2 + 0 ≤ _), (by decide : 5 + 0 ≤ _)⟩)
    dsimp only [Pt.U, Pt.locs, Pt.cells, Pt.slots] at X7 l7 y7 z7 st7 hQ7
    subst l7 y7 z7
    obtain ⟨h7, e7⟩ : ∃ z, T7.heap = z := ⟨_, rfl⟩
    rw [e7] at hQ7
    obtain ⟨rfl, N7q, Kq7, G7_0, G7_1, G7_2⟩ := hQ7
    have N7 := Fr.app N5 N7q
    have K7 := Keep.trans K6 Kq7 (allS (Or.inr sb6) all0)
    have Z7 := Nat.le_trans Z6 Kq7.1
    refine Goes.tr st7 ?_
    show Goes p e below s _ _ _ (T7.setTop (mkF m 62 #[.val (.long q0), .second, .val (.int p1), .val (.int p2), .val (.int z1_s0), .val (.long z2_s0), .second, .val (.int (Int32.ofNat n)), .val (.ref b3), .unset, .unset] [(.ref b6)]))
    refine Goes.go (fun _ k => XS.astore X7.here hx rfl (hb hby at_62) rfl rfl (l' := #[.val (.long q0), .second, .val (.int p1), .val (.int p2), .val (.int z1_s0), .val (.long z2_s0), .second, .val (.int (Int32.ofNat n)), .val (.ref b3), .val (.ref b6), .unset]) rfl k) ?_
    show Goes p e below s _ _ _ (T7.setTop (mkF m 64 #[.val (.long q0), .second, .val (.int p1), .val (.int p2), .val (.int z1_s0), .val (.long z2_s0), .second, .val (.int (Int32.ofNat n)), .val (.ref b3), .val (.ref b6), .unset] []))
    refine Goes.go (fun _ k => XS.iload X7.here hx rfl (hb hby at_64) rfl  k) ?_
    show Goes p e below s _ _ _ (T7.setTop (mkF m 66 #[.val (.long q0), .second, .val (.int p1), .val (.int p2), .val (.int z1_s0), .val (.long z2_s0), .second, .val (.int (Int32.ofNat n)), .val (.ref b3), .val (.ref b6), .unset] [(.int (Int32.ofNat n))]))
    obtain ⟨z8_l10, hz8_l10⟩ : ∃ z : Int32, z = if (0 : Int32) < (Int32.ofNat n) then (1 : Int32) else (if z2_s0 = (-1 : Int64) then (0 : Int32) else (1 : Int32)) := ⟨_, rfl⟩
    have sm8 : ∀ t, Steps p.tables e below (T7.setTop (mkF m 93 #[.val (.long q0), .second, .val (.int p1), .val (.int p2), .val (.int z1_s0), .val (.long z2_s0), .second, .val (.int (Int32.ofNat n)), .val (.ref b3), .val (.ref b6), .val (.int z8_l10)] [])) t → Steps p.tables e below (T7.setTop (mkF m 66 #[.val (.long q0), .second, .val (.int p1), .val (.int p2), .val (.int z1_s0), .val (.long z2_s0), .second, .val (.int (Int32.ofNat n)), .val (.ref b3), .val (.ref b6), .unset] [(.int (Int32.ofNat n))])) t := by
      intro t k
      by_cases hc66_8 : (0 : Int32) < (Int32.ofNat n)
      · have k2 : Steps p.tables e below (T7.setTop (mkF m 93 #[.val (.long q0), .second, .val (.int p1), .val (.int p2), .val (.int z1_s0), .val (.long z2_s0), .second, .val (.int (Int32.ofNat n)), .val (.ref b3), .val (.ref b6), .val (.int (1 : Int32))] [])) t := by simpa only [hz8_l10, if_pos hc66_8] using k
        show Steps p.tables e below (T7.setTop (mkF m 66 #[.val (.long q0), .second, .val (.int p1), .val (.int p2), .val (.int z1_s0), .val (.long z2_s0), .second, .val (.int (Int32.ofNat n)), .val (.ref b3), .val (.ref b6), .unset] [(.int (Int32.ofNat n))])) _
        refine XS.ifNo X7.here hx rfl (hb hby at_66) rfl ((if0 _ _).trans (tlt hc66_8).2.2.2) ?_
        show Steps p.tables e below (T7.setTop (mkF m 69 #[.val (.long q0), .second, .val (.int p1), .val (.int p2), .val (.int z1_s0), .val (.long z2_s0), .second, .val (.int (Int32.ofNat n)), .val (.ref b3), .val (.ref b6), .unset] [])) _
        refine XS.iconst X7.here hx rfl (hb hby at_69) ?_
        show Steps p.tables e below (T7.setTop (mkF m 70 #[.val (.long q0), .second, .val (.int p1), .val (.int p2), .val (.int z1_s0), .val (.long z2_s0), .second, .val (.int (Int32.ofNat n)), .val (.ref b3), .val (.ref b6), .unset] [(.int (1 : Int32))])) _
        refine XS.istore X7.here hx rfl (hb hby at_70) rfl (l' := #[.val (.long q0), .second, .val (.int p1), .val (.int p2), .val (.int z1_s0), .val (.long z2_s0), .second, .val (.int (Int32.ofNat n)), .val (.ref b3), .val (.ref b6), .val (.int (1 : Int32))]) rfl ?_
        show Steps p.tables e below (T7.setTop (mkF m 72 #[.val (.long q0), .second, .val (.int p1), .val (.int p2), .val (.int z1_s0), .val (.long z2_s0), .second, .val (.int (Int32.ofNat n)), .val (.ref b3), .val (.ref b6), .val (.int (1 : Int32))] [])) _
        refine XS.goto X7.here hx rfl (pc0 := 72) (pc' := 93) rfl (hb hby at_72) (by decide) (by decide) ?_
        exact k2
      · have k2 : Steps p.tables e below (T7.setTop (mkF m 93 #[.val (.long q0), .second, .val (.int p1), .val (.int p2), .val (.int z1_s0), .val (.long z2_s0), .second, .val (.int (Int32.ofNat n)), .val (.ref b3), .val (.ref b6), .val (.int (if z2_s0 = (-1 : Int64) then (0 : Int32) else (1 : Int32)))] [])) t := by simpa only [hz8_l10, if_neg hc66_8] using k
        show Steps p.tables e below (T7.setTop (mkF m 66 #[.val (.long q0), .second, .val (.int p1), .val (.int p2), .val (.int z1_s0), .val (.long z2_s0), .second, .val (.int (Int32.ofNat n)), .val (.ref b3), .val (.ref b6), .unset] [(.int (Int32.ofNat n))])) _
        refine XS.ifYes X7.here hx rfl (pc0 := 66) (pc' := 75) rfl (hb hby at_66) rfl ((if0 _ _).trans (flt hc66_8).2.2.2) (by decide) (by decide) ?_
        show Steps p.tables e below (T7.setTop (mkF m 75 #[.val (.long q0), .second, .val (.int p1), .val (.int p2), .val (.int z1_s0), .val (.long z2_s0), .second, .val (.int (Int32.ofNat n)), .val (.ref b3), .val (.ref b6), .unset] [])) _
        refine XS.lload X7.here hx rfl (hb hby at_75) rfl  ?_
        show Steps p.tables e below (T7.setTop (mkF m 77 #[.val (.long q0), .second, .val (.int p1), .val (.int p2), .val (.int z1_s0), .val (.long z2_s0), .second, .val (.int (Int32.ofNat n)), .val (.ref b3), .val (.ref b6), .unset] [(.long z2_s0)])) _
        refine X7.ldc2Long hx hown (mvT hZ (hw _ (List.mem_of_getElem? (i := 25) rfl))) (g := (mkF m 77 #[.val (.long q0), .second, .val (.int p1), .val (.int p2), .val (.int z1_s0), .val (.long z2_s0), .second, .val (.int (Int32.ofNat n)), .val (.ref b3), .val (.ref b6), .unset] [(.long z2_s0)])) rfl (hb hby at_77) _ ?_
        show Steps p.tables e below (T7.setTop (mkF m 80 #[.val (.long q0), .second, .val (.int p1), .val (.int p2), .val (.int z1_s0), .val (.long z2_s0), .second, .val (.int (Int32.ofNat n)), .val (.ref b3), .val (.ref b6), .unset] [(.long (-1 : Int64)), (.long z2_s0)])) _
        refine XS.lcmp X7.here hx rfl (hb hby at_80) rfl ?_
        show Steps p.tables e below (T7.setTop (mkF m 81 #[.val (.long q0), .second, .val (.int p1), .val (.int p2), .val (.int z1_s0), .val (.long z2_s0), .second, .val (.int (Int32.ofNat n)), .val (.ref b3), .val (.ref b6), .unset] [(.int (lcmpW z2_s0 (-1 : Int64)))])) _
        have sm9 : ∀ t, Steps p.tables e below (T7.setTop (mkF m 93 #[.val (.long q0), .second, .val (.int p1), .val (.int p2), .val (.int z1_s0), .val (.long z2_s0), .second, .val (.int (Int32.ofNat n)), .val (.ref b3), .val (.ref b6), .val (.int (if z2_s0 = (-1 : Int64) then (0 : Int32) else (1 : Int32)))] [])) t → Steps p.tables e below (T7.setTop (mkF m 81 #[.val (.long q0), .second, .val (.int p1), .val (.int p2), .val (.int z1_s0), .val (.long z2_s0), .second, .val (.int (Int32.ofNat n)), .val (.ref b3), .val (.ref b6), .unset] [(.int (lcmpW z2_s0 (-1 : Int64)))])) t := by
          intro t k
          by_cases hc81_9 : z2_s0 = (-1 : Int64)
          · have k2 : Steps p.tables e below (T7.setTop (mkF m 93 #[.val (.long q0), .second, .val (.int p1), .val (.int p2), .val (.int z1_s0), .val (.long z2_s0), .second, .val (.int (Int32.ofNat n)), .val (.ref b3), .val (.ref b6), .val (.int (0 : Int32))] [])) t := by simpa only [if_pos hc81_9] using k
            show Steps p.tables e below (T7.setTop (mkF m 81 #[.val (.long q0), .second, .val (.int p1), .val (.int p2), .val (.int z1_s0), .val (.long z2_s0), .second, .val (.int (Int32.ofNat n)), .val (.ref b3), .val (.ref b6), .unset] [(.int (lcmpW z2_s0 (-1 : Int64)))])) _
            refine XS.ifNo X7.here hx rfl (hb hby at_81) rfl ((if0 _ _).trans (teq ((lw_eq z2_s0 (-1 : Int64)).mpr hc81_9)).2) ?_
            show Steps p.tables e below (T7.setTop (mkF m 84 #[.val (.long q0), .second, .val (.int p1), .val (.int p2), .val (.int z1_s0), .val (.long z2_s0), .second, .val (.int (Int32.ofNat n)), .val (.ref b3), .val (.ref b6), .unset] [])) _
            refine XS.iconst X7.here hx rfl (hb hby at_84) ?_
            show Steps p.tables e below (T7.setTop (mkF m 85 #[.val (.long q0), .second, .val (.int p1), .val (.int p2), .val (.int z1_s0), .val (.long z2_s0), .second, .val (.int (Int32.ofNat n)), .val (.ref b3), .val (.ref b6), .unset] [(.int (0 : Int32))])) _
            refine XS.istore X7.here hx rfl (hb hby at_85) rfl (l' := #[.val (.long q0), .second, .val (.int p1), .val (.int p2), .val (.int z1_s0), .val (.long z2_s0), .second, .val (.int (Int32.ofNat n)), .val (.ref b3), .val (.ref b6), .val (.int (0 : Int32))]) rfl ?_
            show Steps p.tables e below (T7.setTop (mkF m 87 #[.val (.long q0), .second, .val (.int p1), .val (.int p2), .val (.int z1_s0), .val (.long z2_s0), .second, .val (.int (Int32.ofNat n)), .val (.ref b3), .val (.ref b6), .val (.int (0 : Int32))] [])) _
            refine XS.goto X7.here hx rfl (pc0 := 87) (pc' := 93) rfl (hb hby at_87) (by decide) (by decide) ?_
            exact k2
          · have k2 : Steps p.tables e below (T7.setTop (mkF m 93 #[.val (.long q0), .second, .val (.int p1), .val (.int p2), .val (.int z1_s0), .val (.long z2_s0), .second, .val (.int (Int32.ofNat n)), .val (.ref b3), .val (.ref b6), .val (.int (1 : Int32))] [])) t := by simpa only [if_neg hc81_9] using k
            show Steps p.tables e below (T7.setTop (mkF m 81 #[.val (.long q0), .second, .val (.int p1), .val (.int p2), .val (.int z1_s0), .val (.long z2_s0), .second, .val (.int (Int32.ofNat n)), .val (.ref b3), .val (.ref b6), .unset] [(.int (lcmpW z2_s0 (-1 : Int64)))])) _
            refine XS.ifYes X7.here hx rfl (pc0 := 81) (pc' := 90) rfl (hb hby at_81) rfl ((if0 _ _).trans (feq (mt (lw_eq z2_s0 (-1 : Int64)).mp hc81_9)).2) (by decide) (by decide) ?_
            show Steps p.tables e below (T7.setTop (mkF m 90 #[.val (.long q0), .second, .val (.int p1), .val (.int p2), .val (.int z1_s0), .val (.long z2_s0), .second, .val (.int (Int32.ofNat n)), .val (.ref b3), .val (.ref b6), .unset] [])) _
            refine XS.iconst X7.here hx rfl (hb hby at_90) ?_
            show Steps p.tables e below (T7.setTop (mkF m 91 #[.val (.long q0), .second, .val (.int p1), .val (.int p2), .val (.int z1_s0), .val (.long z2_s0), .second, .val (.int (Int32.ofNat n)), .val (.ref b3), .val (.ref b6), .unset] [(.int (1 : Int32))])) _
            refine XS.istore X7.here hx rfl (hb hby at_91) rfl (l' := #[.val (.long q0), .second, .val (.int p1), .val (.int p2), .val (.int z1_s0), .val (.long z2_s0), .second, .val (.int (Int32.ofNat n)), .val (.ref b3), .val (.ref b6), .val (.int (1 : Int32))]) rfl ?_
            exact k2
        refine sm9 _ ?_
        exact k2
    refine Goes.go sm8 ?_
    show Goes p e below s _ _ _ (T7.setTop (mkF m 93 #[.val (.long q0), .second, .val (.int p1), .val (.int p2), .val (.int z1_s0), .val (.long z2_s0), .second, .val (.int (Int32.ofNat n)), .val (.ref b3), .val (.ref b6), .val (.int z8_l10)] []))
    refine Goes.go (fun _ k => XS.aload X7.here hx rfl (hb hby at_93) rfl rfl  k) ?_
    show Goes p e below s _ _ _ (T7.setTop (mkF m 95 #[.val (.long q0), .second, .val (.int p1), .val (.int p2), .val (.int z1_s0), .val (.long z2_s0), .second, .val (.int (Int32.ofNat n)), .val (.ref b3), .val (.ref b6), .val (.int z8_l10)] [(.ref b6)]))
    obtain ⟨cq10, kq10, q10a, q10b, q10c⟩ := isOf hZ e7 G7_0
    obtain ⟨_, _, ⟨T10, L10, k10, n10⟩, -, X10, ⟨Lc10, hQ10, l10, y10, z10⟩, st10⟩ := X7.virtualBack hx (y := (⟨"com/example/ack4/ack4/store/ExpiryAndProperties", "present", "()Z"⟩ : MethodName)) (z := (⟨"com/example/ack4/ack4/store/ExpiryAndProperties", "present", "()Z"⟩ : MethodName)) hown (mvT hZ (hw _ (List.mem_of_getElem? (i := 19) rfl))) (mvT hZ (hw _ (List.mem_of_getElem? (i := 20) rfl))) (notFace_of_selects (args := #[]) (mvT hZ (hw _ (List.mem_of_getElem? (i := 22) rfl)))) (mvT hZ (hw _ (List.mem_of_getElem? (i := 22) rfl))) (mvT hZ (hw _ (List.mem_of_getElem? (i := 21) rfl))) (by decide) (backOf (W := 0) (rm4 l Z a0 hw [] b6 z2_s0 b3 n (own_upd (fun _ => 0) 0 (nar .byte ((p2 >>> ((2 : Int32) &&& 31)).toInt8.toInt32))) h7 n0 Z7 G7_1 G7_2 ((A5.ext E6).keep Kq7 (ninS (Nat.ne_of_lt (Nat.lt_of_lt_of_le A5.lt (Nat.le_of_eq g6.symm))) nin0))) hZ (hw _ (List.mem_of_getElem? (i := 23) rfl)) (hw _ (List.mem_of_getElem? (i := 3) rfl)) (by decide) (by decide)) q10a q10c (g := (mkF m 95 #[.val (.long q0), .second, .val (.int p1), .val (.int p2), .val (.int z1_s0), .val (.long z2_s0), .second, .val (.int (Int32.ofNat n)), .val (.ref b3), .val (.ref b6), .val (.int z8_l10)] [(.ref b6)])) rfl (by rw [hml]; rfl) (Steps.refl _) (argsL := []) (rest := []) (lenOf pd_2 rfl) rfl (by show 2 * 0 + _ ≤ _; exact Nat.le_of_eq rfl) (hb hby at_95) (fun _ _ => ⟨rfl, e7, (by decide : 2 + 0 ≤ _), (by decide : 5 + 0 ≤ _)⟩)
    dsimp only [Pt.U, Pt.locs, Pt.cells, Pt.slots] at X10 l10 y10 z10 st10 hQ10
    subst l10 y10 z10
    obtain ⟨rfl, N10q, e10⟩ := hQ10
    have N10 := Fr.app N7 N10q
    refine Goes.tr st10 ?_
    show Goes p e below s _ _ _ (T10.setTop (mkF m 98 #[.val (.long q0), .second, .val (.int p1), .val (.int p2), .val (.int z1_s0), .val (.long z2_s0), .second, .val (.int (Int32.ofNat n)), .val (.ref b3), .val (.ref b6), .val (.int z8_l10)] [(.int (f4 b6 z2_s0 b3 n (own_upd (fun _ => 0) 0 (nar .byte ((p2 >>> ((2 : Int32) &&& 31)).toInt8.toInt32)))))]))
    refine Goes.go (fun _ k => XS.iload X10.here hx rfl (hb hby at_98) rfl  k) ?_
    show Goes p e below s _ _ _ (T10.setTop (mkF m 100 #[.val (.long q0), .second, .val (.int p1), .val (.int p2), .val (.int z1_s0), .val (.long z2_s0), .second, .val (.int (Int32.ofNat n)), .val (.ref b3), .val (.ref b6), .val (.int z8_l10)] [(.int z8_l10), (.int (f4 b6 z2_s0 b3 n (own_upd (fun _ => 0) 0 (nar .byte ((p2 >>> ((2 : Int32) &&& 31)).toInt8.toInt32)))))]))
    have hc100_11 : (f4 b6 z2_s0 b3 n (own_upd (fun _ => 0) 0 (nar .byte ((p2 >>> ((2 : Int32) &&& 31)).toInt8.toInt32)))) = z8_l10 := by rw [hz8_l10]; exact own_law _ _ _ _ _
    refine Goes.go (fun _ k => XS.icmpNo X10.here hx rfl (hb hby at_100) rfl (teq hc100_11).2 k) ?_
    show Goes p e below s _ _ _ (T10.setTop (mkF m 103 #[.val (.long q0), .second, .val (.int p1), .val (.int p2), .val (.int z1_s0), .val (.long z2_s0), .second, .val (.int (Int32.ofNat n)), .val (.ref b3), .val (.ref b6), .val (.int z8_l10)] []))
    refine Goes.go (fun _ k => XS.iconst X10.here hx rfl (hb hby at_103) k) ?_
    show Goes p e below s _ _ _ (T10.setTop (mkF m 104 #[.val (.long q0), .second, .val (.int p1), .val (.int p2), .val (.int z1_s0), .val (.long z2_s0), .second, .val (.int (Int32.ofNat n)), .val (.ref b3), .val (.ref b6), .val (.int z8_l10)] [(.int (1 : Int32))]))
    refine Goes.go (fun _ k => XS.goto X10.here hx rfl (pc0 := 104) (pc' := 108) rfl (hb hby at_104) (by decide) (by decide) k) ?_
    show Goes p e below s _ _ _ (T10.setTop (mkF m 108 #[.val (.long q0), .second, .val (.int p1), .val (.int p2), .val (.int z1_s0), .val (.long z2_s0), .second, .val (.int (Int32.ofNat n)), .val (.ref b3), .val (.ref b6), .val (.int z8_l10)] [(.int (1 : Int32))]))
    refine Goes.retN .boolean X10 hx hlk Bd.returns (by simp) (hb hby at_108) ?_ (by decide) (by decide)
    exact ⟨rfl, N10⟩
  · skip
    refine Goes.go (fun _ k => XS.ifYes X3.here hx rfl (pc0 := 40) (pc' := 51) rfl (hb hby at_40) rfl ((if0 _ _).trans (flt hc40_4).2.2.2) (by decide) (by decide) k) ?_
    show Goes p e below s _ _ _ (T3.setTop (mkF m 51 #[.val (.long q0), .second, .val (.int p1), .val (.int p2), .val (.int z1_s0), .val (.long z2_s0), .second, .val (.int (Int32.ofNat n)), .val (.ref b3), .unset, .unset] []))
    obtain ⟨T12, h12, X12, e12, E12, A12, D12, -, st12⟩ := newO X3 hx hZ hown (hw _ (List.mem_of_getElem? (i := 1) rfl)) (hw _ (List.mem_of_getElem? (i := 2) rfl)) (hw _ (List.mem_of_getElem? (i := 3) rfl)) e3 (g := (mkF m 51 #[.val (.long q0), .second, .val (.int p1), .val (.int p2), .val (.int z1_s0), .val (.long z2_s0), .second, .val (.int (Int32.ofNat n)), .val (.ref b3), .unset, .unset] [])) rfl (hb hby at_51) (by decide) (by decide)
    obtain ⟨b12, g12⟩ : ∃ z, z = h3.size := ⟨_, rfl⟩
    rw [← g12] at A12 D12 st12
    have gb12 : n0 ≤ b12 := Nat.le_trans Z3 (Nat.le_of_eq g12.symm)
    have sb12 : h0.size ≤ b12 := Nat.le_trans K3.1 (Nat.le_of_eq g12.symm)
    have Z12 := Nat.le_trans Z3 E12.1
    have K12 := Keep.ext K3 E12
    have F12_expiresAt : Fld Z h12 b12 "com/example/ack4/ack4/store/ExpiryAndProperties" "expiresAt" "J" (.long (0 : Int64)) := D12 (Or.inr (hw _ (List.mem_of_getElem? (i := 16) rfl))) (ty := .long) (by decide)
    have F12_properties : Fld Z h12 b12 "com/example/ack4/ack4/store/ExpiryAndProperties" "properties" "[B" .null := D12 (Or.inr (hw _ (List.mem_of_getElem? (i := 18) rfl))) (ty := (.array .byte)) (by decide)
    refine Goes.go st12 ?_
    show Goes p e below s _ _ _ (T12.setTop (mkF m 54 #[.val (.long q0), .second, .val (.int p1), .val (.int p2), .val (.int z1_s0), .val (.long z2_s0), .second, .val (.int (Int32.ofNat n)), .val (.ref b3), .unset, .unset] [(.ref b12)]))
    refine Goes.go (fun _ k => XS.dup X12.here hx rfl (hb hby at_54) rfl rfl k) ?_
    show Goes p e below s _ _ _ (T12.setTop (mkF m 55 #[.val (.long q0), .second, .val (.int p1), .val (.int p2), .val (.int z1_s0), .val (.long z2_s0), .second, .val (.int (Int32.ofNat n)), .val (.ref b3), .unset, .unset] [(.ref b12), (.ref b12)]))
    refine Goes.go (fun _ k => XS.lload X12.here hx rfl (hb hby at_55) rfl  k) ?_
    show Goes p e below s _ _ _ (T12.setTop (mkF m 57 #[.val (.long q0), .second, .val (.int p1), .val (.int p2), .val (.int z1_s0), .val (.long z2_s0), .second, .val (.int (Int32.ofNat n)), .val (.ref b3), .unset, .unset] [(.long z2_s0), (.ref b12), (.ref b12)]))
    refine Goes.go (fun _ k => XS.aload X12.here hx rfl (hb hby at_57) rfl rfl  k) ?_
    show Goes p e below s _ _ _ (T12.setTop (mkF m 59 #[.val (.long q0), .second, .val (.int p1), .val (.int p2), .val (.int z1_s0), .val (.long z2_s0), .second, .val (.int (Int32.ofNat n)), .val (.ref b3), .unset, .unset] [(.ref b3), (.long z2_s0), (.ref b12), (.ref b12)]))
    obtain ⟨_, _, ⟨T13, L13, k13, n13⟩, -, X13, ⟨Lc13, hQ13, l13, y13, z13⟩, st13⟩ := X12.specialBack hx (y := (⟨"com/example/ack4/ack4/store/ExpiryAndProperties", "<init>", "(J[B)V"⟩ : MethodName)) rfl hown (mvT hZ (hw _ (List.mem_of_getElem? (i := 4) rfl))) (mvT hZ (hw _ (List.mem_of_getElem? (i := 5) rfl))) (mvT hZ (hw _ (List.mem_of_getElem? (i := 6) rfl))) (by decide) (backOf (W := 1) (rm1 l Z a0 hw [] b12 z2_s0 b3 h12 n0 Z12 A12 gb12 F12_expiresAt F12_properties) hZ (hw _ (List.mem_of_getElem? (i := 6) rfl)) (hw _ (List.mem_of_getElem? (i := 3) rfl)) (by decide) (by decide)) (g := (mkF m 59 #[.val (.long q0), .second, .val (.int p1), .val (.int p2), .val (.int z1_s0), .val (.long z2_s0), .second, .val (.int (Int32.ofNat n)), .val (.ref b3), .unset, .unset] [(.ref b3), (.long z2_s0), (.ref b12), (.ref b12)])) rfl (by rw [hml]; rfl) (Steps.refl _) (a := b12) (argsL := [(.long z2_s0), (.ref b3)]) (rest := [(.ref b12)]) (lenOf pd_1 rfl) rfl (by show 2 * 0 + _ ≤ _; exact Nat.le_of_eq rfl) (hb hby at_59) (fun _ _ => ⟨rfl, e12, (by decide : 2 + 0 ≤ _), (by decide : 5 + 0 ≤ _)⟩)
    dsimp only [Pt.U, Pt.locs, Pt.cells, Pt.slots] at X13 l13 y13 z13 st13 hQ13
    subst l13 y13 z13
    obtain ⟨h13, e13⟩ : ∃ z, T13.heap = z := ⟨_, rfl⟩
    rw [e13] at hQ13
    obtain ⟨rfl, N13q, Kq13, G13_0, G13_1, G13_2⟩ := hQ13
    have N13 := Fr.app N0 N13q
    have K13 := Keep.trans K12 Kq13 (allS (Or.inr sb12) all0)
    have Z13 := Nat.le_trans Z12 Kq13.1
    refine Goes.tr st13 ?_
    show Goes p e below s _ _ _ (T13.setTop (mkF m 62 #[.val (.long q0), .second, .val (.int p1), .val (.int p2), .val (.int z1_s0), .val (.long z2_s0), .second, .val (.int (Int32.ofNat n)), .val (.ref b3), .unset, .unset] [(.ref b12)]))
    refine Goes.go (fun _ k => XS.astore X13.here hx rfl (hb hby at_62) rfl rfl (l' := #[.val (.long q0), .second, .val (.int p1), .val (.int p2), .val (.int z1_s0), .val (.long z2_s0), .second, .val (.int (Int32.ofNat n)), .val (.ref b3), .val (.ref b12), .unset]) rfl k) ?_
    show Goes p e below s _ _ _ (T13.setTop (mkF m 64 #[.val (.long q0), .second, .val (.int p1), .val (.int p2), .val (.int z1_s0), .val (.long z2_s0), .second, .val (.int (Int32.ofNat n)), .val (.ref b3), .val (.ref b12), .unset] []))
    refine Goes.go (fun _ k => XS.iload X13.here hx rfl (hb hby at_64) rfl  k) ?_
    show Goes p e below s _ _ _ (T13.setTop (mkF m 66 #[.val (.long q0), .second, .val (.int p1), .val (.int p2), .val (.int z1_s0), .val (.long z2_s0), .second, .val (.int (Int32.ofNat n)), .val (.ref b3), .val (.ref b12), .unset] [(.int (Int32.ofNat n))]))
    obtain ⟨z14_l10, hz14_l10⟩ : ∃ z : Int32, z = if (0 : Int32) < (Int32.ofNat n) then (1 : Int32) else (if z2_s0 = (-1 : Int64) then (0 : Int32) else (1 : Int32)) := ⟨_, rfl⟩
    have sm14 : ∀ t, Steps p.tables e below (T13.setTop (mkF m 93 #[.val (.long q0), .second, .val (.int p1), .val (.int p2), .val (.int z1_s0), .val (.long z2_s0), .second, .val (.int (Int32.ofNat n)), .val (.ref b3), .val (.ref b12), .val (.int z14_l10)] [])) t → Steps p.tables e below (T13.setTop (mkF m 66 #[.val (.long q0), .second, .val (.int p1), .val (.int p2), .val (.int z1_s0), .val (.long z2_s0), .second, .val (.int (Int32.ofNat n)), .val (.ref b3), .val (.ref b12), .unset] [(.int (Int32.ofNat n))])) t := by
      intro t k
      by_cases hc66_14 : (0 : Int32) < (Int32.ofNat n)
      · have k2 : Steps p.tables e below (T13.setTop (mkF m 93 #[.val (.long q0), .second, .val (.int p1), .val (.int p2), .val (.int z1_s0), .val (.long z2_s0), .second, .val (.int (Int32.ofNat n)), .val (.ref b3), .val (.ref b12), .val (.int (1 : Int32))] [])) t := by simpa only [hz14_l10, if_pos hc66_14] using k
        show Steps p.tables e below (T13.setTop (mkF m 66 #[.val (.long q0), .second, .val (.int p1), .val (.int p2), .val (.int z1_s0), .val (.long z2_s0), .second, .val (.int (Int32.ofNat n)), .val (.ref b3), .val (.ref b12), .unset] [(.int (Int32.ofNat n))])) _
        refine XS.ifNo X13.here hx rfl (hb hby at_66) rfl ((if0 _ _).trans (tlt hc66_14).2.2.2) ?_
        show Steps p.tables e below (T13.setTop (mkF m 69 #[.val (.long q0), .second, .val (.int p1), .val (.int p2), .val (.int z1_s0), .val (.long z2_s0), .second, .val (.int (Int32.ofNat n)), .val (.ref b3), .val (.ref b12), .unset] [])) _
        refine XS.iconst X13.here hx rfl (hb hby at_69) ?_
        show Steps p.tables e below (T13.setTop (mkF m 70 #[.val (.long q0), .second, .val (.int p1), .val (.int p2), .val (.int z1_s0), .val (.long z2_s0), .second, .val (.int (Int32.ofNat n)), .val (.ref b3), .val (.ref b12), .unset] [(.int (1 : Int32))])) _
        refine XS.istore X13.here hx rfl (hb hby at_70) rfl (l' := #[.val (.long q0), .second, .val (.int p1), .val (.int p2), .val (.int z1_s0), .val (.long z2_s0), .second, .val (.int (Int32.ofNat n)), .val (.ref b3), .val (.ref b12), .val (.int (1 : Int32))]) rfl ?_
        show Steps p.tables e below (T13.setTop (mkF m 72 #[.val (.long q0), .second, .val (.int p1), .val (.int p2), .val (.int z1_s0), .val (.long z2_s0), .second, .val (.int (Int32.ofNat n)), .val (.ref b3), .val (.ref b12), .val (.int (1 : Int32))] [])) _
        refine XS.goto X13.here hx rfl (pc0 := 72) (pc' := 93) rfl (hb hby at_72) (by decide) (by decide) ?_
        exact k2
      · have k2 : Steps p.tables e below (T13.setTop (mkF m 93 #[.val (.long q0), .second, .val (.int p1), .val (.int p2), .val (.int z1_s0), .val (.long z2_s0), .second, .val (.int (Int32.ofNat n)), .val (.ref b3), .val (.ref b12), .val (.int (if z2_s0 = (-1 : Int64) then (0 : Int32) else (1 : Int32)))] [])) t := by simpa only [hz14_l10, if_neg hc66_14] using k
        show Steps p.tables e below (T13.setTop (mkF m 66 #[.val (.long q0), .second, .val (.int p1), .val (.int p2), .val (.int z1_s0), .val (.long z2_s0), .second, .val (.int (Int32.ofNat n)), .val (.ref b3), .val (.ref b12), .unset] [(.int (Int32.ofNat n))])) _
        refine XS.ifYes X13.here hx rfl (pc0 := 66) (pc' := 75) rfl (hb hby at_66) rfl ((if0 _ _).trans (flt hc66_14).2.2.2) (by decide) (by decide) ?_
        show Steps p.tables e below (T13.setTop (mkF m 75 #[.val (.long q0), .second, .val (.int p1), .val (.int p2), .val (.int z1_s0), .val (.long z2_s0), .second, .val (.int (Int32.ofNat n)), .val (.ref b3), .val (.ref b12), .unset] [])) _
        refine XS.lload X13.here hx rfl (hb hby at_75) rfl  ?_
        show Steps p.tables e below (T13.setTop (mkF m 77 #[.val (.long q0), .second, .val (.int p1), .val (.int p2), .val (.int z1_s0), .val (.long z2_s0), .second, .val (.int (Int32.ofNat n)), .val (.ref b3), .val (.ref b12), .unset] [(.long z2_s0)])) _
        refine X13.ldc2Long hx hown (mvT hZ (hw _ (List.mem_of_getElem? (i := 25) rfl))) (g := (mkF m 77 #[.val (.long q0), .second, .val (.int p1), .val (.int p2), .val (.int z1_s0), .val (.long z2_s0), .second, .val (.int (Int32.ofNat n)), .val (.ref b3), .val (.ref b12), .unset] [(.long z2_s0)])) rfl (hb hby at_77) _ ?_
        show Steps p.tables e below (T13.setTop (mkF m 80 #[.val (.long q0), .second, .val (.int p1), .val (.int p2), .val (.int z1_s0), .val (.long z2_s0), .second, .val (.int (Int32.ofNat n)), .val (.ref b3), .val (.ref b12), .unset] [(.long (-1 : Int64)), (.long z2_s0)])) _
        refine XS.lcmp X13.here hx rfl (hb hby at_80) rfl ?_
        show Steps p.tables e below (T13.setTop (mkF m 81 #[.val (.long q0), .second, .val (.int p1), .val (.int p2), .val (.int z1_s0), .val (.long z2_s0), .second, .val (.int (Int32.ofNat n)), .val (.ref b3), .val (.ref b12), .unset] [(.int (lcmpW z2_s0 (-1 : Int64)))])) _
        have sm15 : ∀ t, Steps p.tables e below (T13.setTop (mkF m 93 #[.val (.long q0), .second, .val (.int p1), .val (.int p2), .val (.int z1_s0), .val (.long z2_s0), .second, .val (.int (Int32.ofNat n)), .val (.ref b3), .val (.ref b12), .val (.int (if z2_s0 = (-1 : Int64) then (0 : Int32) else (1 : Int32)))] [])) t → Steps p.tables e below (T13.setTop (mkF m 81 #[.val (.long q0), .second, .val (.int p1), .val (.int p2), .val (.int z1_s0), .val (.long z2_s0), .second, .val (.int (Int32.ofNat n)), .val (.ref b3), .val (.ref b12), .unset] [(.int (lcmpW z2_s0 (-1 : Int64)))])) t := by
          intro t k
          by_cases hc81_15 : z2_s0 = (-1 : Int64)
          · have k2 : Steps p.tables e below (T13.setTop (mkF m 93 #[.val (.long q0), .second, .val (.int p1), .val (.int p2), .val (.int z1_s0), .val (.long z2_s0), .second, .val (.int (Int32.ofNat n)), .val (.ref b3), .val (.ref b12), .val (.int (0 : Int32))] [])) t := by simpa only [if_pos hc81_15] using k
            show Steps p.tables e below (T13.setTop (mkF m 81 #[.val (.long q0), .second, .val (.int p1), .val (.int p2), .val (.int z1_s0), .val (.long z2_s0), .second, .val (.int (Int32.ofNat n)), .val (.ref b3), .val (.ref b12), .unset] [(.int (lcmpW z2_s0 (-1 : Int64)))])) _
            refine XS.ifNo X13.here hx rfl (hb hby at_81) rfl ((if0 _ _).trans (teq ((lw_eq z2_s0 (-1 : Int64)).mpr hc81_15)).2) ?_
            show Steps p.tables e below (T13.setTop (mkF m 84 #[.val (.long q0), .second, .val (.int p1), .val (.int p2), .val (.int z1_s0), .val (.long z2_s0), .second, .val (.int (Int32.ofNat n)), .val (.ref b3), .val (.ref b12), .unset] [])) _
            refine XS.iconst X13.here hx rfl (hb hby at_84) ?_
            show Steps p.tables e below (T13.setTop (mkF m 85 #[.val (.long q0), .second, .val (.int p1), .val (.int p2), .val (.int z1_s0), .val (.long z2_s0), .second, .val (.int (Int32.ofNat n)), .val (.ref b3), .val (.ref b12), .unset] [(.int (0 : Int32))])) _
            refine XS.istore X13.here hx rfl (hb hby at_85) rfl (l' := #[.val (.long q0), .second, .val (.int p1), .val (.int p2), .val (.int z1_s0), .val (.long z2_s0), .second, .val (.int (Int32.ofNat n)), .val (.ref b3), .val (.ref b12), .val (.int (0 : Int32))]) rfl ?_
            show Steps p.tables e below (T13.setTop (mkF m 87 #[.val (.long q0), .second, .val (.int p1), .val (.int p2), .val (.int z1_s0), .val (.long z2_s0), .second, .val (.int (Int32.ofNat n)), .val (.ref b3), .val (.ref b12), .val (.int (0 : Int32))] [])) _
            refine XS.goto X13.here hx rfl (pc0 := 87) (pc' := 93) rfl (hb hby at_87) (by decide) (by decide) ?_
            exact k2
          · have k2 : Steps p.tables e below (T13.setTop (mkF m 93 #[.val (.long q0), .second, .val (.int p1), .val (.int p2), .val (.int z1_s0), .val (.long z2_s0), .second, .val (.int (Int32.ofNat n)), .val (.ref b3), .val (.ref b12), .val (.int (1 : Int32))] [])) t := by simpa only [if_neg hc81_15] using k
            show Steps p.tables e below (T13.setTop (mkF m 81 #[.val (.long q0), .second, .val (.int p1), .val (.int p2), .val (.int z1_s0), .val (.long z2_s0), .second, .val (.int (Int32.ofNat n)), .val (.ref b3), .val (.ref b12), .unset] [(.int (lcmpW z2_s0 (-1 : Int64)))])) _
            refine XS.ifYes X13.here hx rfl (pc0 := 81) (pc' := 90) rfl (hb hby at_81) rfl ((if0 _ _).trans (feq (mt (lw_eq z2_s0 (-1 : Int64)).mp hc81_15)).2) (by decide) (by decide) ?_
            show Steps p.tables e below (T13.setTop (mkF m 90 #[.val (.long q0), .second, .val (.int p1), .val (.int p2), .val (.int z1_s0), .val (.long z2_s0), .second, .val (.int (Int32.ofNat n)), .val (.ref b3), .val (.ref b12), .unset] [])) _
            refine XS.iconst X13.here hx rfl (hb hby at_90) ?_
            show Steps p.tables e below (T13.setTop (mkF m 91 #[.val (.long q0), .second, .val (.int p1), .val (.int p2), .val (.int z1_s0), .val (.long z2_s0), .second, .val (.int (Int32.ofNat n)), .val (.ref b3), .val (.ref b12), .unset] [(.int (1 : Int32))])) _
            refine XS.istore X13.here hx rfl (hb hby at_91) rfl (l' := #[.val (.long q0), .second, .val (.int p1), .val (.int p2), .val (.int z1_s0), .val (.long z2_s0), .second, .val (.int (Int32.ofNat n)), .val (.ref b3), .val (.ref b12), .val (.int (1 : Int32))]) rfl ?_
            exact k2
        refine sm15 _ ?_
        exact k2
    refine Goes.go sm14 ?_
    show Goes p e below s _ _ _ (T13.setTop (mkF m 93 #[.val (.long q0), .second, .val (.int p1), .val (.int p2), .val (.int z1_s0), .val (.long z2_s0), .second, .val (.int (Int32.ofNat n)), .val (.ref b3), .val (.ref b12), .val (.int z14_l10)] []))
    refine Goes.go (fun _ k => XS.aload X13.here hx rfl (hb hby at_93) rfl rfl  k) ?_
    show Goes p e below s _ _ _ (T13.setTop (mkF m 95 #[.val (.long q0), .second, .val (.int p1), .val (.int p2), .val (.int z1_s0), .val (.long z2_s0), .second, .val (.int (Int32.ofNat n)), .val (.ref b3), .val (.ref b12), .val (.int z14_l10)] [(.ref b12)]))
    obtain ⟨cq16, kq16, q16a, q16b, q16c⟩ := isOf hZ e13 G13_0
    obtain ⟨_, _, ⟨T16, L16, k16, n16⟩, -, X16, ⟨Lc16, hQ16, l16, y16, z16⟩, st16⟩ := X13.virtualBack hx (y := (⟨"com/example/ack4/ack4/store/ExpiryAndProperties", "present", "()Z"⟩ : MethodName)) (z := (⟨"com/example/ack4/ack4/store/ExpiryAndProperties", "present", "()Z"⟩ : MethodName)) hown (mvT hZ (hw _ (List.mem_of_getElem? (i := 19) rfl))) (mvT hZ (hw _ (List.mem_of_getElem? (i := 20) rfl))) (notFace_of_selects (args := #[]) (mvT hZ (hw _ (List.mem_of_getElem? (i := 22) rfl)))) (mvT hZ (hw _ (List.mem_of_getElem? (i := 22) rfl))) (mvT hZ (hw _ (List.mem_of_getElem? (i := 21) rfl))) (by decide) (backOf (W := 0) (rm4 l Z a0 hw [] b12 z2_s0 b3 n (fun _ => 0) h13 n0 Z13 G13_1 G13_2 ((A3.ext E12).keep Kq13 (ninS (Nat.ne_of_lt (Nat.lt_of_lt_of_le A3.lt (Nat.le_of_eq g12.symm))) nin0))) hZ (hw _ (List.mem_of_getElem? (i := 23) rfl)) (hw _ (List.mem_of_getElem? (i := 3) rfl)) (by decide) (by decide)) q16a q16c (g := (mkF m 95 #[.val (.long q0), .second, .val (.int p1), .val (.int p2), .val (.int z1_s0), .val (.long z2_s0), .second, .val (.int (Int32.ofNat n)), .val (.ref b3), .val (.ref b12), .val (.int z14_l10)] [(.ref b12)])) rfl (by rw [hml]; rfl) (Steps.refl _) (argsL := []) (rest := []) (lenOf pd_2 rfl) rfl (by show 2 * 0 + _ ≤ _; exact Nat.le_of_eq rfl) (hb hby at_95) (fun _ _ => ⟨rfl, e13, (by decide : 2 + 0 ≤ _), (by decide : 5 + 0 ≤ _)⟩)
    dsimp only [Pt.U, Pt.locs, Pt.cells, Pt.slots] at X16 l16 y16 z16 st16 hQ16
    subst l16 y16 z16
    obtain ⟨rfl, N16q, e16⟩ := hQ16
    have N16 := Fr.app N13 N16q
    refine Goes.tr st16 ?_
    show Goes p e below s _ _ _ (T16.setTop (mkF m 98 #[.val (.long q0), .second, .val (.int p1), .val (.int p2), .val (.int z1_s0), .val (.long z2_s0), .second, .val (.int (Int32.ofNat n)), .val (.ref b3), .val (.ref b12), .val (.int z14_l10)] [(.int (f4 b12 z2_s0 b3 n (fun _ => 0)))]))
    refine Goes.go (fun _ k => XS.iload X16.here hx rfl (hb hby at_98) rfl  k) ?_
    show Goes p e below s _ _ _ (T16.setTop (mkF m 100 #[.val (.long q0), .second, .val (.int p1), .val (.int p2), .val (.int z1_s0), .val (.long z2_s0), .second, .val (.int (Int32.ofNat n)), .val (.ref b3), .val (.ref b12), .val (.int z14_l10)] [(.int z14_l10), (.int (f4 b12 z2_s0 b3 n (fun _ => 0)))]))
    have hc100_17 : (f4 b12 z2_s0 b3 n (fun _ => 0)) = z14_l10 := by rw [hz14_l10]; exact own_law _ _ _ _ _
    refine Goes.go (fun _ k => XS.icmpNo X16.here hx rfl (hb hby at_100) rfl (teq hc100_17).2 k) ?_
    show Goes p e below s _ _ _ (T16.setTop (mkF m 103 #[.val (.long q0), .second, .val (.int p1), .val (.int p2), .val (.int z1_s0), .val (.long z2_s0), .second, .val (.int (Int32.ofNat n)), .val (.ref b3), .val (.ref b12), .val (.int z14_l10)] []))
    refine Goes.go (fun _ k => XS.iconst X16.here hx rfl (hb hby at_103) k) ?_
    show Goes p e below s _ _ _ (T16.setTop (mkF m 104 #[.val (.long q0), .second, .val (.int p1), .val (.int p2), .val (.int z1_s0), .val (.long z2_s0), .second, .val (.int (Int32.ofNat n)), .val (.ref b3), .val (.ref b12), .val (.int z14_l10)] [(.int (1 : Int32))]))
    refine Goes.go (fun _ k => XS.goto X16.here hx rfl (pc0 := 104) (pc' := 108) rfl (hb hby at_104) (by decide) (by decide) k) ?_
    show Goes p e below s _ _ _ (T16.setTop (mkF m 108 #[.val (.long q0), .second, .val (.int p1), .val (.int p2), .val (.int z1_s0), .val (.long z2_s0), .second, .val (.int (Int32.ofNat n)), .val (.ref b3), .val (.ref b12), .val (.int z14_l10)] [(.int (1 : Int32))]))
    refine Goes.retN .boolean X16 hx hlk Bd.returns (by simp) (hb hby at_108) ?_ (by decide) (by decide)
    exact ⟨rfl, N16⟩
set_option maxRecDepth 65536 in
set_option maxHeartbeats 40000000 in
theorem comes_1 {Post : Tables → Env → Array Value → State → Outcome → State → Prop} (hpost : ∀ tb e args s v u, (limb_1_1.after args s (.returned v) u = true ∧ limb_1_2.after args s (.returned v) u = true ∧ True) → FrameEnd s (.returned v) u (Jvm.fieldLocs frame_1_writes args s ++ Jvm.arrayLocs frame_1_arrays args s ++ Jvm.staticLocs frame_1_statics s) 16 128 → Post tb e args s (.returned v) u) :
    ArmFor flags0 classFile x code maxLocals ret World_1 tables_1 room_1 Calls_1 rest_1 Pre_1 Post := by
  intro l hfl _ _ p e ha hc hk s m args below hf hA hF happ hP
  obtain ⟨hcalls, hrest, hpre⟩ := hP
  obtain ⟨-, -, -, hnamed, -, -, -, hat⟩ := (Spec.applies_iff hf).mp happ
  obtain ⟨hg, hn⟩ := and_e (Cond.before_iff.mp (show (Jvm.Cond.and given_1 narrow_1).before args s = true from hpre))
  obtain ⟨gc, gr0⟩ := and_e hg
  obtain ⟨w0, w1, w2, rfl⟩ : ∃ w0 w1 w2 : Value, args = #[w0, w1, w2] := by
    have hs : args.size = 3 := by simpa [Cond.value, given_1] using gc
    obtain ⟨L⟩ := args
    match L, hs with
    | [w0, w1, w2], _ => exact ⟨w0, w1, w2, rfl⟩
  have hw := fun d (hd : d ∈ tables_1) => atoms_spec (ws := Jvm.Cond.code x code maxLocals ret :: tables_1) hat d (List.mem_cons_of_mem _ hd)
  have hfit : Fit s := fun {y c} hc i hi => by
    obtain ⟨ha, rfl⟩ := Array.getElem?_eq_some_iff.mp hc
    have q := List.all_eq_true.mp ((Array.all_eq_true_iff_forall_mem.mp hF) _ (Array.getElem_mem ha)) i (List.mem_range.mpr hi)
    simpa [Array.getElem?_eq_getElem hi] using q
  obtain ⟨ga0, gr1⟩ := and_e gr0
  obtain ⟨i0, ei0⟩ := isL_v ga0
  obtain rfl : w0 = (.long i0) := Option.some.inj ei0
  obtain ⟨ga1, gr2⟩ := and_e gr1
  obtain ⟨i1, ei1⟩ := is_v ga1
  obtain rfl : w1 = (.int i1) := Option.some.inj ei1
  obtain ⟨i2, ei2⟩ := is_v gr2
  obtain rfl : w2 = (.int i2) := Option.some.inj ei2
  obtain ⟨n, o, h1, h2, h3, _, L, rfl, ⟨rfl, N⟩, hq⟩ := rm0 l s _ hw tables_1 i0 i1 i2 s.heap s.heap.size (Nat.le_refl _) p e ha hc hk s m _ below hf ((Spec.applies_iff_loose hf).mp happ).1 ⟨rfl, State.Warmed39.refl s, rfl⟩ trivial
  refine ⟨n, _, h1, h2, h3, hpost _ _ _ _ _ _ ⟨Cond.after_iff.mpr rfl, Cond.after_iff.mpr (eq_i res_at (Term.int_eval (1)) rfl), trivial⟩ ⟨hq.1, hq.2.1, (hq.2.2.sift fun y hy => Or.inr (N y hy)).mono (by decide) (by decide)⟩⟩
theorem main_1_1 : Claimed_1_1 := comes_1 fun _ _ _ _ _ _ h hF => ⟨h.1, hF⟩
theorem main_1_2 : Claimed_1_2 := comes_1 fun _ _ _ _ _ _ h hF => ⟨h.2.1, hF⟩
end Jvm.Pilot.@@N@@
namespace Jvm.Pilot.@@N@@
open Jvm Jvm.ClassFile Sem Op Lib Jvm.Free Jvm.Stand Jvm.Pilot.@@N@@.Jvm.D
/-! MADE BY PROGRAM (witnessworld.py) out of the Statement's table words and the real class files: 10 classes; the members and pool entries that the words name. The judged class is class 1, her method 1. -/
namespace start1
open Jvm.ClassFile
def u (s : String) : CpInfo := .utf8 (stringToUtf16 s)
/-- a pool by its gaps: so many unusable entries, then the entry; so many at the end -/
def gap : Nat → List CpInfo → List CpInfo
  | 0, r => r
  | n + 1, r => .unusable :: gap n r
def poolList (es : List (Nat × CpInfo)) (last : Nat) : List CpInfo := es.foldr (fun e r => gap e.1 (e.2 :: r)) (gap last [])
def pool (es : List (Nat × CpInfo)) (last : Nat) : Array CpInfo := ⟨poolList es last⟩
def fileOf (pool : Array CpInfo) (this : Nat) (attrs : Array Attribute := #[]) (ms : Array MethodInfo := #[]) (fl : Nat := 33) (sup : Nat := 0) (ifs : Array Nat := #[]) (fds : Array FieldInfo := #[]) : ClassFile where
  minorVersion := 0
  majorVersion := 65
  constantPool := pool
  accessFlags := fl
  thisClass := this
  superClass := sup
  interfaces := ifs
  fields := fds
  methods := ms
  attributes := attrs
def plain (name : String) (sup : Option ClassId) : Class where
  name := name
  kind := .ordinary
  loader := none
  accessFlags := 33
  super := sup
  interfaces := #[]
  cf := none
  fields := #[]
  methods := #[]
  instanceTypes := #[]
  staticTypes := #[]
  resolved := #[]
  callSites := []
  init := .initialized
  statics := none
  mirror := none

def pool0 : Array CpInfo := pool [(5, u "<init>"), (0, u "()V"), (1, .class_ 10), (1, u "java/lang/Object")] 113

def k0c0 : Code := { maxStack := 0, maxLocals := 1, code := object_method_1_code, exceptionTable := #[], attributes := #[] }
def k0m0 : Method := { name := "<init>", desc := "()V", sig := { parameters := [], returnType := none }, accessFlags := 1, code := some k0c0 }
/-- java/lang/Object -/
def k0 : Class := { plain "java/lang/Object" none with
  accessFlags := 33
  interfaces := #[]
  cf := some (fileOf pool0 8 #[] #[{ accessFlags := 1, nameIndex := 5, descriptorIndex := 6, attributes := #[] }] 33 0 #[] #[])
  fields := #[]
  methods := #[k0m0]
  instanceTypes := #[]
  staticTypes := #[]
  resolved := Array.replicate 124 none
  statics := none }

def pool1 : Array CpInfo := pool [(2, .class_ 4), (1, u "java/lang/Object"), (0, u "<init>"), (0, u "()V"), (0, .long 18446744073709551615), (1, .class_ 10), (0, u "com/example/ack4/ack4/store/ExpiryAndProperties"), (0, .methodref 9 12), (0, .nameAndType 5 13), (0, u "(J[B)V"), (0, .methodref 9 15), (0, .nameAndType 16 17), (0, u "present"), (0, u "()Z"), (0, .class_ 19), (0, u "com/example/ack4/ack4/store/ExpiryAndPropertiesPresentPinLaw"), (2, u "law"), (0, u "(JII)Z")] 5

def k1m0 : Method := { name := "<init>", desc := "()V", sig := { parameters := [], returnType := none }, accessFlags := 1, code := none }
def k1c1 : Code := { maxStack := 5, maxLocals := 11, code := code, exceptionTable := #[], attributes := #[] }
def k1m1 : Method := { name := "law", desc := "(JII)Z", sig := { parameters := [.long, .int, .int], returnType := some .boolean }, accessFlags := 9, code := some k1c1 }
/-- com/example/ack4/ack4/store/ExpiryAndPropertiesPresentPinLaw -/
def k1 : Class := { plain "com/example/ack4/ack4/store/ExpiryAndPropertiesPresentPinLaw" (some 0) with
  accessFlags := 49
  interfaces := #[]
  cf := some (fileOf pool1 18 #[] #[{ accessFlags := 1, nameIndex := 5, descriptorIndex := 6, attributes := #[] }, { accessFlags := 9, nameIndex := 22, descriptorIndex := 23, attributes := #[] }] 49 2 #[] #[])
  fields := #[]
  methods := #[k1m0, k1m1]
  instanceTypes := #[]
  staticTypes := #[]
  resolved := Array.replicate 29 none
  statics := none }

def pool2 : Array CpInfo := pool [(1, .methodref 2 3), (0, .class_ 4), (0, .nameAndType 5 6), (0, u "java/lang/Object"), (0, u "<init>"), (0, u "()V"), (0, .class_ 8), (0, u "java/lang/Record")] 13

def k2c0 : Code := { maxStack := 1, maxLocals := 1, code := jdk_30_method_1_code, exceptionTable := #[], attributes := #[] }
def k2m0 : Method := { name := "<init>", desc := "()V", sig := { parameters := [], returnType := none }, accessFlags := 4, code := some k2c0 }
/-- java/lang/Record -/
def k2 : Class := { plain "java/lang/Record" (some 0) with
  accessFlags := 1057
  interfaces := #[]
  cf := some (fileOf pool2 7 #[] #[{ accessFlags := 4, nameIndex := 5, descriptorIndex := 6, attributes := #[] }] 1057 2 #[] #[])
  fields := #[]
  methods := #[k2m0]
  instanceTypes := #[]
  staticTypes := #[]
  resolved := Array.replicate 22 none
  statics := none }

def pool3 : Array CpInfo := pool [(1, .methodref 2 3), (0, .class_ 4), (0, .nameAndType 5 6), (0, u "java/lang/Record"), (0, u "<init>"), (0, u "()V"), (0, .fieldref 8 9), (0, .class_ 10), (0, .nameAndType 11 12), (0, u "com/example/ack4/ack4/store/ExpiryAndProperties"), (0, u "expiresAt"), (0, u "J"), (0, .fieldref 8 14), (0, .nameAndType 15 16), (0, u "properties"), (0, u "[B"), (0, .long 18446744073709551615), (3, u "present"), (0, u "()Z"), (20, u "NONE"), (0, u "Lcom/example/ack4/ack4/store/ExpiryAndProperties;"), (13, u "(J[B)V"), (12, u "NEVER_EXPIRES")] 35

def k3c0 : Code := { maxStack := 3, maxLocals := 4, code := prog_58_method_1_code, exceptionTable := #[], attributes := #[] }
def k3m0 : Method := { name := "<init>", desc := "(J[B)V", sig := { parameters := [.long, (.array .byte)], returnType := none }, accessFlags := 0, code := some k3c0 }
def k3c1 : Code := { maxStack := 4, maxLocals := 1, code := prog_58_method_2_code, exceptionTable := #[], attributes := #[] }
def k3m1 : Method := { name := "present", desc := "()Z", sig := { parameters := [], returnType := some .boolean }, accessFlags := 0, code := some k3c1 }
/-- com/example/ack4/ack4/store/ExpiryAndProperties -/
def k3 : Class := { plain "com/example/ack4/ack4/store/ExpiryAndProperties" (some 2) with
  accessFlags := 48
  interfaces := #[]
  cf := some (fileOf pool3 8 #[] #[{ accessFlags := 0, nameIndex := 5, descriptorIndex := 58, attributes := #[] }, { accessFlags := 0, nameIndex := 21, descriptorIndex := 22, attributes := #[] }] 48 2 #[] #[{ accessFlags := 18, nameIndex := 11, descriptorIndex := 12, attributes := #[] }, { accessFlags := 18, nameIndex := 15, descriptorIndex := 16, attributes := #[] }, { accessFlags := 24, nameIndex := 71, descriptorIndex := 12, attributes := #[] }, { accessFlags := 26, nameIndex := 43, descriptorIndex := 44, attributes := #[] }])
  fields := #[{ name := "expiresAt", type := .long, accessFlags := 18, slot := 0, constantValue := 0 }, { name := "properties", type := (.array .byte), accessFlags := 18, slot := 1, constantValue := 0 }, { name := "NEVER_EXPIRES", type := .long, accessFlags := 24, slot := 0, constantValue := 0 }, { name := "NONE", type := (.object "com/example/ack4/ack4/store/ExpiryAndProperties"), accessFlags := 26, slot := 1, constantValue := 0 }]
  methods := #[k3m0, k3m1]
  instanceTypes := #[.long, (.array .byte)]
  staticTypes := #[.long, (.object "com/example/ack4/ack4/store/ExpiryAndProperties")]
  resolved := Array.replicate 107 none
  statics := none }

def pool4 : Array CpInfo := pool [(1, u "java/lang/Cloneable"), (0, .class_ 1), (0, u "java/lang/Object"), (0, .class_ 3)] 3

/-- java/lang/Cloneable -/
def k4 : Class := { plain "java/lang/Cloneable" (some 0) with
  accessFlags := 1537
  interfaces := #[]
  cf := some (fileOf pool4 2 #[] #[] 1537 4 #[] #[])
  fields := #[]
  methods := #[]
  instanceTypes := #[]
  staticTypes := #[]
  resolved := Array.replicate 8 none
  statics := none }

def pool5 : Array CpInfo := pool [(1, u "java/io/Serializable"), (0, .class_ 1), (0, u "java/lang/Object"), (0, .class_ 3)] 3

/-- java/io/Serializable -/
def k5 : Class := { plain "java/io/Serializable" (some 0) with
  accessFlags := 1537
  interfaces := #[]
  cf := some (fileOf pool5 2 #[] #[] 1537 4 #[] #[])
  fields := #[]
  methods := #[]
  instanceTypes := #[]
  staticTypes := #[]
  resolved := Array.replicate 8 none
  statics := none }

/-- the primitive byte -/
def k6 : Class := { plain "byte" none with kind := .primitive 'B', accessFlags := 0x411 }
/-- [B -/
def k7 : Class := { plain "[B" (some 0) with kind := .array 6 .byte, interfaces := #[4, 5], accessFlags := 1041 }

/-- the primitive int -/
def k8 : Class := { plain "int" none with kind := .primitive 'I', accessFlags := 0x411 }
/-- [I -/
def k9 : Class := { plain "[I" (some 0) with kind := .array 8 .int, interfaces := #[4, 5], accessFlags := 1041 }

def heap : Heap := #[]
def classes : Array Class := #[k0, k1, k2, k3, k4, k5, k6, k7, k8, k9]
def interned : List (Array UInt16 × Addr) := []
def slotsUsed : Nat := 0
def theMethod : MethodId := ⟨1, 1⟩
def args0 : Array Value := #[.long 5, .int 5, .int 5]
def aboutOver (below : List Frame) : State where
  vm := { classes := classes, interned := interned.toArray }
  heap := heap
  slotsUsed := slotsUsed
  threads := #[{ frames := .invoking theMethod args0 :: below }]
def below0 : List Frame := [.native { method := ⟨0, 0⟩, args := #[] }]
def about1 : State := aboutOver below0
def p0 : Program := .bare "" "" ""
def e0 : Env := launch0.env 0 0 0
theorem w_frames : about1.frames = Frame.invoking theMethod args0 :: below0 := rfl
set_option maxRecDepth 65536 in
theorem w_args : argsFit about1.vm theMethod args0 = true := by decide +kernel
set_option maxRecDepth 65536 in
theorem w_heap : heapFits about1 = true := by decide +kernel
set_option maxRecDepth 65536 in
theorem w_runnable : about1.curStatus? = some .runnable := by decide +kernel
set_option maxRecDepth 65536 in
theorem w_alone : about1.alone = true := by decide +kernel
set_option maxRecDepth 65536 in
theorem w_named : about1.methodNamed? x = some theMethod := by decide +kernel
set_option maxRecDepth 65536 in
theorem w_hears : about1.hears theMethod below0 = true := by decide +kernel
set_option maxRecDepth 65536 in
theorem w_ripe : about1.ripe theMethod args0 below0 = true := by decide +kernel
theorem w_running : about1.status = .running := rfl
set_option maxRecDepth 65536 in
theorem w_room : about1.hasRoom e0.platform room_1 = true :=
  launch0.hasRoom_least _ room_1 (by decide +kernel) (by decide +kernel) (by decide +kernel) (by decide +kernel) (by decide +kernel) (by decide +kernel)
theorem allAtoms_all (ts : List Jvm.Cond) (a : Array Jvm.Value) (st : Jvm.State) : (allAtoms ts).before a st = ts.all (fun c => c.before a st) := by
  induction ts with
  | nil => rfl
  | cons c t ih =>
    show (Jvm.Cond.and c (allAtoms t)).before a st = _
    rw [Jvm.Cond.before_and, ih, List.all_cons]
def words1 : List Jvm.Cond := Jvm.Cond.code x code maxLocals ret :: tables_1
/-- a 'code' word, met by the world's own term for the bytes: nothing is compared byte by byte -/
theorem code_word {y : MethodName} {bytes : ByteArray} {mx : Nat} {rt : Option FieldType} {a : Array Value} {s : State} {m : MethodId} {meth : Method} {c : Code} (h1 : s.methodNamed? y = some m) (h2 : s.vm.method? m = some meth) (h3 : meth.code = some c) (h4 : c.code = bytes)
    (h5 : (c.maxLocals == mx && c.exceptionTable.isEmpty && decide (c.maxStack ≤ mostOperands) && decide (meth.sig.returnType = rt) && !meth.locks && decide (parseMethodDescriptor y.desc = some meth.sig)) = true) : (Jvm.Cond.code y bytes mx rt).before a s = true := by
  simp only [Bool.and_eq_true, beq_iff_eq, Bool.not_eq_true', decide_eq_true_eq] at h5
  obtain ⟨⟨⟨⟨⟨g1, g2⟩, g3⟩, g4⟩, g5⟩, g6⟩ := h5
  simp [Cond.before, Cond.holds, Cond.value, h1, h2, h3, h4, g1, g2, g3, g4, g5, g6]
def isCode : Jvm.Cond → Bool
  | .code _ _ _ _ => true
  | _ => false
theorem all_split {L : List Jvm.Cond} {P : Jvm.Cond → Bool} (h1 : L.all (fun c => isCode c || P c) = true) (h2 : ∀ c ∈ L.filter isCode, P c = true) : L.all P = true := by
  refine List.all_eq_true.mpr fun c hc => ?_
  have h := List.all_eq_true.mp h1 c hc
  rcases Bool.eq_false_or_eq_true (isCode c) with hi | hi
  · exact h2 c (List.mem_filter.mpr ⟨hc, hi⟩)
  · simpa [hi] using h
set_option maxRecDepth 65536 in
theorem w_c0 : (Jvm.Cond.code x code maxLocals ret).before args0 about1 = true := code_word (m := ⟨1, 1⟩) (meth := k1m1) (c := k1c1) (by decide +kernel) rfl rfl rfl (by decide +kernel)
set_option maxRecDepth 65536 in
theorem w_c1 : (Jvm.Cond.code ({ cls := "com/example/ack4/ack4/store/ExpiryAndProperties", name := "<init>", desc := "(J[B)V" } : Jvm.MethodName) prog_58_method_1_code (4 : Nat) (Option.none : Option Jvm.ClassFile.FieldType)).before args0 about1 = true := code_word (m := ⟨3, 0⟩) (meth := k3m0) (c := k3c0) (by decide +kernel) rfl rfl rfl (by decide +kernel)
set_option maxRecDepth 65536 in
theorem w_c2 : (Jvm.Cond.code ({ cls := "java/lang/Record", name := "<init>", desc := "()V" } : Jvm.MethodName) jdk_30_method_1_code (1 : Nat) (Option.none : Option Jvm.ClassFile.FieldType)).before args0 about1 = true := code_word (m := ⟨2, 0⟩) (meth := k2m0) (c := k2c0) (by decide +kernel) rfl rfl rfl (by decide +kernel)
set_option maxRecDepth 65536 in
theorem w_c3 : (Jvm.Cond.code ({ cls := "java/lang/Object", name := "<init>", desc := "()V" } : Jvm.MethodName) object_method_1_code (1 : Nat) (Option.none : Option Jvm.ClassFile.FieldType)).before args0 about1 = true := code_word (m := ⟨0, 0⟩) (meth := k0m0) (c := k0c0) (by decide +kernel) rfl rfl rfl (by decide +kernel)
set_option maxRecDepth 65536 in
theorem w_c4 : (Jvm.Cond.code ({ cls := "com/example/ack4/ack4/store/ExpiryAndProperties", name := "present", desc := "()Z" } : Jvm.MethodName) prog_58_method_2_code (1 : Nat) (Option.some Jvm.ClassFile.FieldType.boolean)).before args0 about1 = true := code_word (m := ⟨3, 1⟩) (meth := k3m1) (c := k3c1) (by decide +kernel) rfl rfl rfl (by decide +kernel)
def codes1 : List Jvm.Cond := [Jvm.Cond.code x code maxLocals ret, Jvm.Cond.code ({ cls := "com/example/ack4/ack4/store/ExpiryAndProperties", name := "<init>", desc := "(J[B)V" } : Jvm.MethodName) prog_58_method_1_code (4 : Nat) (Option.none : Option Jvm.ClassFile.FieldType), Jvm.Cond.code ({ cls := "java/lang/Record", name := "<init>", desc := "()V" } : Jvm.MethodName) jdk_30_method_1_code (1 : Nat) (Option.none : Option Jvm.ClassFile.FieldType), Jvm.Cond.code ({ cls := "java/lang/Object", name := "<init>", desc := "()V" } : Jvm.MethodName) object_method_1_code (1 : Nat) (Option.none : Option Jvm.ClassFile.FieldType), Jvm.Cond.code ({ cls := "com/example/ack4/ack4/store/ExpiryAndProperties", name := "present", desc := "()Z" } : Jvm.MethodName) prog_58_method_2_code (1 : Nat) (Option.some Jvm.ClassFile.FieldType.boolean)]
set_option maxRecDepth 65536 in
theorem codes_eq : words1.filter isCode = codes1 := rfl
theorem w_codes : ∀ c ∈ words1.filter isCode, c.before args0 about1 = true := by
  rw [codes_eq]
  intro c hc
  simp only [codes1, List.mem_cons, List.not_mem_nil, or_false] at hc
  rcases hc with rfl | rfl | rfl | rfl | rfl
  · exact w_c0
  · exact w_c1
  · exact w_c2
  · exact w_c3
  · exact w_c4
set_option maxRecDepth 65536 in
theorem w_t1 : (words1.take 24).all (fun c => isCode c || c.before args0 about1) = true := by decide +kernel
set_option maxRecDepth 65536 in
theorem w_t2 : (words1.drop 24).all (fun c => isCode c || c.before args0 about1) = true := by decide +kernel
theorem w_tables : (allAtoms (Jvm.Cond.code x code maxLocals ret :: tables_1)).before args0 about1 = true := by
  rw [allAtoms_all]
  show words1.all (fun c => c.before args0 about1) = true
  refine all_split ?_ w_codes
  rw [← List.take_append_drop 24 words1, List.all_append, w_t1, w_t2]
  rfl
set_option maxRecDepth 65536 in
theorem w_case : (Jvm.Cond.and given_1 narrow_1).before args0 about1 = true := by decide +kernel
theorem w_applies : (headSpec (Jvm.Cond.code x code maxLocals ret :: tables_1) room_1).applies x e0.platform about1 = true :=
  (Spec.applies_iff w_frames).mpr ⟨w_running, w_runnable, w_alone, w_named, w_hears, w_ripe, w_room, w_tables⟩
theorem atStart : AtStart classFile x code maxLocals ret World_1 tables_1 room_1 Calls_1 rest_1 Pre_1 launch0 p0 e0 about1 theMethod args0 below0 :=
  ⟨lists_1, trivial, launch0.admits_env _ _ _, launch0.least_env, fairChoices_fair.cas, fairChoices_fair.clock, w_frames, w_args, w_heap, w_applies, trivial, trivial, w_case⟩
end start1
theorem witness_1 : WitnessClaimed_1 := ⟨start1.p0, start1.e0, start1.about1, start1.theMethod, start1.args0, start1.below0, start1.atStart⟩
end Jvm.Pilot.@@N@@
